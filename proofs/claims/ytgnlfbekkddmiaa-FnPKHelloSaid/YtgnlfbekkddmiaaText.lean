/- spec.PKText: a string behind its length, in a row of the call's own; pkShort of two strings; pkEnds. -/
import Derived.Test.YtgnlfbekkddmiaaPrVar
import Derived.Test.YtgnlfbekkddmiaaStr
import Derived.Test.YtgnlfbekkddmiaaEq
namespace Go.Proofs.Ytgnlfbekkddmiaa
open Go.RowKit Go.Lib

theorem own_lo {w : World} {b b' : Nat} {e : TypeId} {size n : Nat} {v : Value} {xs : List Value} (h : w.ownsRow b e size v n xs) (hb : b' ≤ b) : w.ownsRow b' e size v n xs := by
  refine ⟨h.1, ?_⟩
  rcases h.2 with hn | ⟨g', cap, cur, rfl, hlo, rest⟩
  · exact .inl hn
  · exact .inr ⟨g', cap, cur, rfl, Nat.le_trans hb hlo, rest⟩

set_option maxRecDepth 100000 in
set_option maxHeartbeats 1000000 in
theorem prString (w : World) (A : Option Addr) (c : Nat) (l : List UInt8) (hR : Rd w 1 A l.length (Lib.byteCells l)) (hl : l.length ≤ 2147483647) :
    Calls Try.prog 45 #[.slice A l.length c] w fun e w' => ∃ A' c', e = .returned (.slice A' (Lib.uvarint l.length ++ l).length c') ∧ w'.ownsRow w.heap.size 5 1 (.slice A' (Lib.uvarint l.length ++ l).length c') (Lib.uvarint l.length ++ l).length (Lib.byteCells (Lib.uvarint l.length ++ l)) ∧ Keeps (fun _ => False) w w' ∧ ∀ k, ob A' = some k → w.heap.size ≤ k := by
  obtain ⟨i0, hi0, hz0, hz1, hz2⟩ := info_parts infoU8
  generalize hn : l.length = n at *
  have HV := Lib.hid (prVar w n (by omega))
  have hul := Lib.uvarint_length64 (x := n) (by omega)
  generalize Lib.uvarint n = u at *
  have hn0 : (0 : Int) ≤ (n : Int) := by omega
  have hn1 : (n : Int) ≤ 2147483647 := by omega
  have HN := Lib.hid hl
  clear hl
  go_enter Try.func45, Try.ntmps45
  go_wp2_with fail
  refine HV.out.mono ?_
  rintro e w1 ⟨A1, c1, rfl, hown1, hK1, hA1⟩
  have hR1 := hR.keeps hK1 (fun _ _ h => h)
  go_wp2_with (first
    | (at_builtin
       refine wpList_append_rd _ rfl (.tmp 6) (.tmp 7) _ rfl w.heap.size 5 i0 _ 1 1 Try.underlying22 hi0 hz0 hz1 hz2 rfl Nat.one_pos A1 c1 u.length _ rfl hown1 A n c (Lib.byteCells l) rfl hR1 (byteCells_one _) (by simp only [maxLen]; have := HN.out; omega) (by have := HN.out; omega) hK1.size ?_
       intro A2 c2 w2 hown2 hg2 hat2
       rw [← Lib.byteCells_append] at hown2
       have hK2 := hK1.grown hg2 (fun k hk => .inr (hA1 k hk))))
  go_ret
  have e : (u ++ l).length = u.length + n := by rw [List.length_append, hn]
  rw [e]
  exact ⟨A2, c2, rfl, hown2, hK2, fun k hk => (hown2.lt k (by rw [ownBlock_slice]; exact hk)).1⟩

set_option maxRecDepth 100000 in
set_option maxHeartbeats 1000000 in
theorem pkText (w : World) (s : ByteArray) (hs : s.size ≤ 2147483647) :
    Calls Try.prog 29 #[.string s] w fun e w' => ∃ A' c', e = .returned (.slice A' (strB s).length c') ∧ w'.ownsRow w.heap.size 5 1 (.slice A' (strB s).length c') (strB s).length (Lib.byteCells (strB s)) ∧ Keeps (fun _ => False) w w' ∧ ∀ k, ob A' = some k → w.heap.size ≤ k := by
  have hcv := run_bytes_of_string (P := Try.prog) w 9 22 5 s Try.underlying9 Try.underlying22 Try.underlying5
  generalize hcap : grownCap w s.size 0 5 = cap at hcv
  have hR1 : Rd (w.drew.alloc (.cells (bytesRow s cap) 5 ((bytesRow s cap).size, (bytesRow s cap).size + 1))) 1 (some ⟨w.heap.size, 0, none⟩) (sl s).length (Lib.byteCells (sl s)) := by
    refine ⟨by simp [Lib.byteCells], fun _ => ⟨_, rfl, by simp, fun j u hu => ?_⟩⟩
    rw [add_lit', Nat.zero_add]
    refine (cell_of_row _ w.heap.size j _ _ _ (heap_alloc_new w.drew _)).trans ?_
    have hj : j < s.data.size := by
      have h := List.getElem?_eq_some_iff.1 hu
      obtain ⟨h, _⟩ := h
      simpa [Lib.byteCells, sl] using h
    rw [bytesRow, Array.getElem?_append_left (by simpa using hj)]
    rw [← hu]
    simp [Lib.byteCells, sl]
  have K1 := ((Keeps.refl (fun _ => False) w).drew).alloc (.cells (bytesRow s cap) 5 ((bytesRow s cap).size, (bytesRow s cap).size + 1))
  generalize w.drew.alloc (.cells (bytesRow s cap) 5 ((bytesRow s cap).size, (bytesRow s cap).size + 1)) = W1 at hcv hR1 K1
  have hps := prString W1 (some ⟨w.heap.size, 0, none⟩) cap (sl s) hR1 (by rw [sl_length]; exact hs)
  rw [sl_length] at hps
  rw [show Lib.uvarint s.size ++ sl s = strB s from rfl] at hps
  have HPS := Lib.hid hps
  clear hps hs hcap hR1
  generalize strB s = d at HPS ⊢
  go_enter Try.func29, Try.ntmps29
  go_wp2_with fail
  refine HPS.out.mono ?_
  rintro e w2 ⟨A2, c2, rfl, hown2, hK2, hA2⟩
  go_wp2_with fail
  go_ret
  exact ⟨A2, c2, rfl, own_lo hown2 K1.size, K1.trans hK2 (fun _ _ h => h), fun k hk => Nat.le_trans K1.size (hA2 k hk)⟩

set_option maxHeartbeats 1000000 in
theorem pkShort2 (w : World) (g : Nat) (t : TypeId) (a b : ByteArray) (hW : Whole w g t #[.string a, .string b]) :
    Calls Try.prog 5 #[.slice (some ⟨g, 0, none⟩) 2 2] w fun e w' => e = .returned (.bool (decide (a.size ≤ 100 ∧ b.size ≤ 100))) ∧ w = w' := by
  have c0 : w.cell? ⟨g, 0, none⟩ = some (.string a) := hW.cell 0
  have c1 : w.cell? ⟨g, 1, none⟩ = some (.string b) := hW.cell 1
  have hlt := hW.lt
  by_cases ha : a.size ≤ 100
  · have ha' : ¬ (100 : Int) < (a.size : Int) := by omega
    by_cases hb : b.size ≤ 100
    · have hb' : ¬ (100 : Int) < (b.size : Int) := by omega
      rw [decide_eq_true ⟨ha, hb⟩]
      clear ha hb
      go_enter Try.func5, Try.ntmps5
      go_wp2_with (first | (go_at_call 18; go_in) | (go_at_call 33; go_in))
      refine wp_loop_rounds 3 ?_
      rw [rounds_succ]
      go_wp2_with (first | (go_at_call 19; go_in))
      rw [rounds_succ]
      go_wp2_with (first | (go_at_call 19; go_in))
      rw [rounds_succ]
      go_wp2_with fail
      go_ret
      exact ⟨rfl, rfl⟩
    · have hb' : (100 : Int) < (b.size : Int) := by omega
      rw [decide_eq_false (fun h => hb h.2)]
      clear ha hb
      go_enter Try.func5, Try.ntmps5
      go_wp2_with (first | (go_at_call 18; go_in) | (go_at_call 33; go_in))
      refine wp_loop_rounds 2 ?_
      rw [rounds_succ]
      go_wp2_with (first | (go_at_call 19; go_in))
      rw [rounds_succ]
      go_wp2_with (first | (go_at_call 19; go_in))
      go_ret
      exact ⟨rfl, rfl⟩
  · have ha' : (100 : Int) < (a.size : Int) := by omega
    rw [decide_eq_false (fun h => ha h.1)]
    clear ha
    go_enter Try.func5, Try.ntmps5
    go_wp2_with (first | (go_at_call 18; go_in) | (go_at_call 33; go_in))
    refine wp_loop_rounds 1 ?_
    rw [rounds_succ]
    go_wp2_with (first | (go_at_call 19; go_in))
    go_ret
    exact ⟨rfl, rfl⟩

theorem wpList_append_rd_g {P : Program} (w : World) {ops : Array Oper} {rest : List Oper} {o : Oper} {a : Act} {Q : Exit → Act → World → Prop} (hw : Region.wanted o (yielded ops a.tmps) = true) (s x : Operand) (t : TypeId)
    (ho : o.op = .call { callee := .builtin .append, args := #[s, x], argTypes := #[t, t] })
    (base : Nat) (e : TypeId) (i : TypeInfo) (z : Value) (size bytes : Nat) (ht : P.underlying t = some (.slice e)) (hi : P.info? e = some i) (hz : i.zero = some z)
    (hsize : i.size = size) (hby : i.bytes = bytes) (hzs : z.cells.size = size) (hsz : 0 < size)
    (A : Option Addr) (c n : Nat) (xs : List Value) (hs : a.eval s = .slice A n c) (hown : w.ownsRow base e size (.slice A n c) n xs)
    (A2 : Option Addr) (m c2 : Nat) (news : List Value) (hx : a.eval x = .slice A2 m c2) (hr : Rd w size A2 m news) (h1 : ∀ u ∈ news, u.oneCell' = true)
    (h63 : n + m ≤ maxLen) (hbytes : (n + m) * bytes ≤ 140737488355328) (hbase : base ≤ w.heap.size)
    (h : ∀ A' c' w', w'.ownsRow base e size (.slice A' (n + m) c') (n + m) (xs ++ news) → w.grownBy w' (ob A) → (ob A' = ob A ∨ ob A' = some w.heap.size) → wpList P ops Q rest (a.put o.dst (.slice A' (n + m) c')) w') : wpList P ops Q (o :: rest) a w :=
  wpList_step fun _ hK => by
    rw [if_pos hw]
    exact wp_append_rd w s x t ho base e i z size bytes ht hi hz hsize hby hzs hsz A c n xs hs hown A2 m c2 news hx hr h1 h63 hbytes hbase fun A' c' w' h2 h3 h4 => hK _ _ (h A' c' w' h2 h3 h4)

set_option maxRecDepth 100000 in
set_option maxHeartbeats 1000000 in
theorem pkEnds_with (w : World) (A B : Option Addr) (n c m c2 x : Nat) (bx : UInt8) (l d : List UInt8) (hx : bx.toNat = x) (hl : l = bx :: d) (hn : l.length = n) (hm : d.length = m) (hA : Rd w 1 A n (Lib.byteCells l)) (hB : Rd w 1 B m (Lib.byteCells d)) (hs : m ≤ 2147483647) :
    Calls Try.prog 15 #[.slice A n c, .slice B m c2, .int .u8 x] w fun e w' => e = .returned (.bool true) ∧ Keeps (fun _ => False) w w' := by
  obtain ⟨i0, hi0, hz0, hz1, hz2⟩ := info_parts infoU8
  have hne : decide (l = d) = false := decide_eq_false (fun h => by have := congrArg List.length h; rw [hl, List.length_cons] at this; omega)
  have o1 := World.ownsRow_lit (base := w.heap.size) (e := 5) (size := 1) w #[.int .u8 x] 1 (Nat.le_refl _) (by decide) rfl
  have e1 : (#[Value.int .u8 x]).toList = Lib.byteCells [bx] := by simp [Lib.byteCells, hx]
  rw [e1] at o1
  have K1 := (Keeps.refl (fun _ => False) w).alloc (.cells #[.int .u8 x] 5)
  have hA1 := hA.alloc (.cells #[.int .u8 x] 5)
  have hB1 := hB.alloc (.cells #[.int .u8 x] 5)
  have hob : ∀ k, ob A = some k → k < w.heap.size := fun k hk => by
    obtain ⟨ad, rfl, hlt, _⟩ := hA.2 (by rw [← hn, hl, List.length_cons]; omega)
    simp [ob] at hk
    omega
  have HEQ := Lib.hid (bytesEq w A B n c m c2 l d hA hB)
  have HL := Lib.hid hl
  have HS := Lib.hid hs
  clear e1 hn hm hl hs hA hB
  go_enter Try.func15, Try.ntmps15
  go_wp2_with fail
  refine HEQ.out.mono ?_
  rintro e w1 ⟨he, rfl⟩
  rw [hne] at he
  subst he
  clear hne
  go_wp2_with (first
    | (at_builtin
       refine wpList_append_rd_g _ (by rfl) (.tmp 13) (.tmp 14) _ rfl w.heap.size 5 i0 _ 1 1 Try.underlying22 hi0 hz0 hz1 hz2 rfl Nat.one_pos (some ⟨w.heap.size, 0, none⟩) 1 1 (Lib.byteCells [bx]) rfl o1 B m c2 (Lib.byteCells d) rfl hB1 (byteCells_one _) (by simp only [maxLen]; have := HS.out; omega) (by have := HS.out; omega) K1.size ?_
       intro A2 c3 w2 hown2 hg2 hat2
       have K2 := K1.grown hg2 (fun k hk => .inr (by simp [ob] at hk; omega))
       rw [← Lib.byteCells_append] at hown2)
    | (go_at_call 10; refine (bytesEq w2 A A2 n c (1 + m) c3 l ([bx] ++ d) (hA1.keeps ((Keeps.refl (fun i => i = w.heap.size) _).grown hg2 (fun k hk => .inl (by simp [ob] at hk; omega))) (fun k hk h => by have := hob k hk; omega)) (Rd.own hown2)).mono ?_; rintro e w3 ⟨he, rfl⟩; rw [decide_eq_true (show l = [bx] ++ d from HL.out)] at he; subst he))
  go_ret
  exact ⟨rfl, K2⟩
end Go.Proofs.Ytgnlfbekkddmiaa
