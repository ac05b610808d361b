/- The specification's bytes of columns of strings and of their arrays. Conditions: sizes far below the machine's. -/
import Derived.Test.YtpbnhhfpbadhjaaGreatOpen
import Derived.Test.YtpbnhhfpbadhjaaGreatStr
import Derived.LoopTactic
namespace Go.Proofs.YtpbnhhfpbadhjaaGreat
open Go.RowKit Go.Lib
set_option linter.unusedVariables false
theorem infoStrE : (Tryz.prog.info? 9).map (fun i => (i.zero, i.size, i.bytes)) = some (some (.string ⟨#[]⟩), 1, 16) := by kernel_rfl
theorem infoIntE : (Tryz.prog.info? 3).map (fun i => (i.zero, i.size, i.bytes)) = some (some (.int .i64 0), 1, 8) := by kernel_rfl
theorem infoBsE : (Tryz.prog.info? 33).map (fun i => (i.zero, i.size, i.bytes)) = some (some (.slice none 0 0), 1, 24) := by kernel_rfl
theorem infoSsE : (Tryz.prog.info? 22).map (fun i => (i.zero, i.size, i.bytes)) = some (some (.slice none 0 0), 1, 24) := by kernel_rfl
theorem one_val (v : Value) (h : v.oneCell' = true) : ∀ u ∈ [v], u.oneCell' = true := fun u hu => by rw [List.mem_singleton.1 hu]; exact h
theorem strs_one (xs : List ByteArray) : ∀ u ∈ xs.map Value.string, u.oneCell' = true := by
  intro u hu
  obtain ⟨s, _, rfl⟩ := List.mem_map.1 hu
  rfl
theorem rd_one (w : World) (t : TypeId) (v : Value) : Rd (w.alloc (.cells #[v] t)) 1 (some ⟨w.heap.size, 0, none⟩) 1 [v] := Rd.whole (Whole.new w t #[v]) rfl rfl
/-- What a function that makes a row of its own returns. -/
def OwnRes (w : World) (e : TypeId) (vs : List Value) (n : Nat) (en : Ending) (w' : World) : Prop := ∃ A c, en = .returned (.slice A n c) ∧ w'.ownsRow w.heap.size e 1 (.slice A n c) n vs ∧ Keeps (fun _ => False) w w' ∧ ∀ k, ob A = some k → w.heap.size ≤ k
theorem OwnRes.mk {w w' : World} {e : TypeId} {vs : List Value} {n c : Nat} {A : Option Addr} (h : w'.ownsRow w.heap.size e 1 (.slice A n c) n vs) (hk : Keeps (fun _ => False) w w') : OwnRes w e vs n (.returned (.slice A n c)) w' :=
  ⟨A, c, rfl, h, hk, fun k hk => (h.lt k (by rw [ownBlock_slice]; exact hk)).1⟩
theorem OwnRes.of {w w' : World} {e : TypeId} {vs : List Value} {n c : Nat} {A : Option Addr} {en : Ending} (he : en = .returned (.slice A n c)) (h : w'.ownsRow w.heap.size e 1 (.slice A n c) n vs) (hk : Keeps (fun _ => False) w w') : OwnRes w e vs n en w' := by
  rw [he]; exact OwnRes.mk h hk
theorem take_map {α : Type} (f : α → Value) {xs : List α} {k : Nat} {x : α} (h : xs[k]? = some x) : (xs.take k).map f ++ [f x] = (xs.take (k + 1)).map f := by
  rw [List.take_add_one, h]; simp
theorem take_flat {α : Type} {LL : List (List α)} {k : Nat} {L : List α} (h : LL[k]? = some L) : (LL.take (k + 1)).flatten = (LL.take k).flatten ++ L := by
  rw [List.take_add_one, h]; simp
theorem flat_le {α : Type} (LL : List (List α)) (k : Nat) : (LL.take k).flatten.length ≤ LL.flatten.length := by
  have h : LL.flatten = (LL.take k).flatten ++ (LL.drop k).flatten := by rw [← List.flatten_append, List.take_append_drop]
  rw [h, List.length_append]; omega



theorem leb_step (j y : Nat) : leb (j + 1) y = UInt8.ofNat y :: leb j (y / 256) := rfl
theorem byte_of (y : Nat) : [Value.int .u8 ((y : Int) % 256)] = Lib.byteCells [UInt8.ofNat y] := by
  rw [← cell_ofNat]; rfl


/-- The offsets of rows with these lengths, from s on. -/
def offB : List Nat → Nat → List UInt8
  | [], _ => []
  | k :: r, s => leb 8 (s + k) ++ offB r (s + k)
theorem offB_length : ∀ (l : List Nat) (s : Nat), (offB l s).length = 8 * l.length
  | [], _ => rfl
  | k :: r, s => by rw [offB, List.length_append, leb_length, offB_length, List.length_cons]; omega
theorem offB_snoc : ∀ (l : List Nat) (x s : Nat), offB (l ++ [x]) s = offB l s ++ leb 8 (s + l.sum + x)
  | [], x, s => by simp [offB]
  | k :: r, x, s => by rw [List.cons_append, offB, offB_snoc, offB, List.sum_cons, List.append_assoc, Nat.add_assoc s k]
theorem sum_le (l : List Nat) (k : Nat) : (l.take k).sum ≤ l.sum := by
  have h : l.sum = (l.take k).sum + (l.drop k).sum := by rw [← List.sum_append, List.take_append_drop]
  omega


theorem byte_one2 (n : Nat) (z : Int) (h : n < 256) (hz : (n : Int) = z) : [Value.int .u8 z] = Lib.byteCells [n.toUInt8] := by
  subst hz
  have e : n.toUInt8.toNat = n := by rw [Nat.toUInt8_eq, UInt8.toNat_ofNat']; omega
  simp [Lib.byteCells, e]

set_option maxRecDepth 100000 in
set_option maxHeartbeats 2000000 in
theorem stOf (w : World) (A : Option Addr) (n c : Nat) (xs : List ByteArray) (hl : xs.length = n) (hR : Rd w 1 A n (xs.map Value.string)) (hn : n ≤ 100000) (hx : ∀ x ∈ xs, x.size ≤ 100000) :
    Calls Tryz.prog 15 #[.slice A n c] w fun e w' => ∃ A' c', e = .returned (.slice A' n c') ∧ RowsV w' A' (xs.map fun x => Lib.byteCells (sl x)) ∧ Keeps (fun _ => False) w w' := by
  obtain ⟨i0, hi0, hz0, hz1, hz2⟩ := info_parts infoBsE
  have HR := Lib.hid hR
  have HL := Lib.hid hl
  have HX := Lib.hid hx
  clear hR hl hx
  go_enter Tryz.func15, Tryz.ntmps15
  go_wp2_with fail
  go_loopw [3, 4] (fun v i wr => ∃ (k : Nat) (A1 : Option Addr) (c1 : Nat) (VS : List Value), k ≤ n ∧ i = .int .i64 k ∧ v = .slice A1 k c1 ∧ wr.ownsRow w.heap.size 33 1 (.slice A1 k c1) k VS ∧ RB wr A1 VS ((xs.take k).map fun x => Lib.byteCells (sl x)) ∧ Keeps (fun _ => False) w wr) (fun _ i _ => n - (RowKit.intOf i).toNat)
  case atStart => exact ⟨0, none, 0, [], Nat.zero_le _, rfl, rfl, World.ownsRow_nil w w.heap.size 33 1, RB.nil _ _, Keeps.refl _ _⟩
  case round =>
    obtain ⟨k, A1, c1, VS, hk, rfl, rfl, hown, hRB, hK⟩ := hrel
    have HRB := Lib.hid hRB
    clear hRB
    by_cases hlt : k < n
    · obtain ⟨x, hx⟩ : ∃ x, xs[k]? = some x := ⟨_, List.getElem?_eq_getElem (by rw [HL.out]; exact hlt)⟩
      have HT := Lib.hid (show (xs.take (k + 1)).map (fun x => Lib.byteCells (sl x)) = (xs.take k).map (fun x => Lib.byteCells (sl x)) ++ [Lib.byteCells (sl x)] by rw [List.take_add_one, hx]; simp)
      obtain ⟨ad, u, rfl, hb, hu, hcell⟩ := (HR.out.keeps hK (fun _ _ h => h)).at' hlt
      have hu' : u = .string x := by
        rw [List.getElem?_map, hx] at hu
        injection hu with hu
        exact hu.symm
      subst hu'
      have hxs := HX.out x (List.mem_of_getElem? hx)
      clear hu hx
      have hcv := run_bytes_of_string (P := Tryz.prog) wr 9 33 5 x Tryz.underlying9 Tryz.underlying33 Tryz.underlying5
      generalize hcap : grownCap wr x.size 0 5 = cap at hcv
      have hR1 : Rd (wr.drew.alloc (.cells (bytesRow x cap) 5 ((bytesRow x cap).size, (bytesRow x cap).size + 1))) 1 (some ⟨wr.heap.size, 0, none⟩) (sl x).length (Lib.byteCells (sl x)) := by
        refine ⟨by simp [Lib.byteCells], fun _ => ⟨_, rfl, by simp, fun j u hu => ?_⟩⟩
        rw [add_lit', Nat.zero_add]
        refine (cell_of_row _ wr.heap.size j _ _ _ (heap_alloc_new wr.drew _)).trans ?_
        have hj : j < x.data.size := by
          have h := List.getElem?_eq_some_iff.1 hu
          obtain ⟨h, _⟩ := h
          simpa [Lib.byteCells, sl] using h
        rw [bytesRow, Array.getElem?_append_left (by simpa using hj)]
        rw [← hu]
        simp [Lib.byteCells, sl]
      have K1 := ((Keeps.refl (fun _ => False) wr).drew).alloc (.cells (bytesRow x cap) 5 ((bytesRow x cap).size, (bytesRow x cap).size + 1))
      have hz1' : (wr.drew.alloc (.cells (bytesRow x cap) 5 ((bytesRow x cap).size, (bytesRow x cap).size + 1))).heap.size = wr.heap.size + 1 := by simp
      generalize wr.drew.alloc (.cells (bytesRow x cap) 5 ((bytesRow x cap).size, (bytesRow x cap).size + 1)) = W1 at hcv hR1 K1 hz1'
      have HZ := Lib.hid hz1'
      rw [sl_length] at hR1
      have hK1 := hK.trans K1 (fun _ _ h => h)
      have hKa := hK1.alloc (.cells #[.slice (some ⟨wr.heap.size, 0, none⟩) x.size cap] 33)
      have K1a := (Keeps.refl (fun _ => False) W1).alloc (.cells #[.slice (some ⟨wr.heap.size, 0, none⟩) x.size cap] 33)
      have howna := own_keeps (own_keeps hown K1 (fun _ _ h => h)) K1a (fun _ _ h => h)
      have hRa := hR1.keeps K1a (fun _ _ h => h)
      have hA1 : ∀ q, ob A1 = some q → q < wr.heap.size := fun q hq => (hown.lt q (by rw [ownBlock_slice]; exact hq)).2
      have HCAP := Lib.hid hcap
      clear hcap hz1'
      go_wp2_with (at_builtin
                   refine wpList_append_rd _ rfl (.tmp 11) (.tmp 17) _ rfl w.heap.size 33 i0 _ 1 24 Tryz.underlying42 hi0 hz0 hz1 hz2 rfl Nat.one_pos A1 c1 k _ rfl howna (some ⟨W1.heap.size, 0, none⟩) 1 1 [.slice (some ⟨wr.heap.size, 0, none⟩) x.size cap] rfl (rd_one W1 33 _) (one_val _ rfl) (by simp only [maxLen]; omega) (by omega) hKa.size ?_
                   intro A2 c2 w2 hown2 hg2 hat2)
      have hK2 := hKa.grown hg2 (fun i hi => .inr (howna.lt i (by rw [ownBlock_slice]; exact hi)).1)
      have hl' : (Lib.byteCells (sl x)).length = x.size := by rw [Lib.byteCells_length, sl_length]
      have hRB2 := (((HRB.out.keeps K1).keeps K1a).snoc (xs := Lib.byteCells (sl x)) (B := some ⟨wr.heap.size, 0, none⟩) (d := cap) (by rw [hl']; exact hRa) (fun q hq => by
        simp [ob] at hq
        subst hq
        refine ⟨by have := K1.size; have := K1a.size; have := HZ.out; omega, fun e => ?_⟩
        have := hA1 _ e
        omega) hg2 hat2)
      rw [hl', ← HT.out] at hRB2
      go_roundw
      case rel => exact ⟨k + 1, A2, c2, _, by omega, by go_num, rfl, hown2, hRB2, hK2⟩
      case measure => (first | (simp [RowKit.intOf]; done) | (simp [RowKit.intOf]; omega))
    · have hkn : k = n := by omega
      subst hkn
      have e : xs.take k = xs := List.take_of_length_le (by rw [HL.out]; exact Nat.le_refl _)
      have hfin := HRB.out
      rw [e] at hfin
      have HFIN := Lib.hid (RB.rows hfin hown)
      clear hfin e
      go_wp2_with fail
      go_ret
      exact ⟨A1, c1, rfl, HFIN.out, hK⟩

/-- Texts, each behind its length. -/
def encB (LB : List (List UInt8)) : List UInt8 := (LB.map fun l => Lib.uvarint l.length ++ l).flatten
theorem encB_step {LB : List (List UInt8)} {k : Nat} {l : List UInt8} (h : LB[k]? = some l) : encB (LB.take (k + 1)) = encB (LB.take k) ++ Lib.uvarint l.length ++ l := by
  rw [encB, List.take_add_one, h]
  simp [encB, List.append_assoc]
theorem encB_le (LB : List (List UInt8)) (k : Nat) : (encB (LB.take k)).length ≤ (encB LB).length := by
  have := flat_le (LB.map fun l => Lib.uvarint l.length ++ l) k
  rw [← List.map_take] at this
  exact this

theorem own_base_le {w : World} {b b' : Nat} {e : TypeId} {size n : Nat} {v : Value} {xs : List Value} (h : w.ownsRow b e size v n xs) (hb : b' ≤ b) : w.ownsRow b' e size v n xs := by
  refine ⟨h.1, ?_⟩
  rcases h.2 with hn | ⟨g', cap, cur, rfl, hlo, rest⟩
  · exact .inl hn
  · exact .inr ⟨g', cap, cur, rfl, Nat.le_trans hb hlo, rest⟩


theorem enc_str (xs : List ByteArray) : encB (xs.map sl) = (xs.map strB).flatten := by
  rw [encB, List.map_map]
  congr 1


set_option maxHeartbeats 400000 in
theorem stJoinTwo (w : World) (g : Nat) (t : TypeId) (A B : Option Addr) (n c m c2 : Nat) (l d : List UInt8) (hW : Whole w g t #[.slice A n c, .slice B m c2]) (h1 : Rd w 1 A n (Lib.byteCells l)) (h2 : Rd w 1 B m (Lib.byteCells d)) (hn : n + m ≤ 70368744177664) :
    Calls Tryz.prog 13 #[.slice (some ⟨g, 0, none⟩) 2 2] w fun e w' => ∃ A' c', e = .returned (.slice A' (n + m) c') ∧ w'.ownsRow w.heap.size 5 1 (.slice A' (n + m) c') (n + m) (Lib.byteCells (l ++ d)) ∧ Keeps (fun _ => False) w w' ∧ ∀ k, ob A' = some k → w.heap.size ≤ k := by
  obtain ⟨i0, hi0, hz0, hz1, hz2⟩ := info_parts infoU8
  have hlt := hW.lt
  have c0 : w.cell? ⟨g, 0, none⟩ = some (.slice A n c) := hW.cell 0
  go_enter Tryz.func13, Tryz.ntmps13
  go_wp2_with fail
  refine wp_loop_rounds 3 ?_
  rw [rounds_succ]
  go_wp2_with (first
    | (at_builtin
       refine wpList_append_rd _ rfl (.tmp 11) (.tmp 15) _ rfl w.heap.size 5 i0 _ 1 1 Tryz.underlying33 hi0 hz0 hz1 hz2 rfl Nat.one_pos none 0 0 (Lib.byteCells []) rfl (World.ownsRow_nil _ _ _ _) A n c (Lib.byteCells l) rfl h1 (byteCells_one _) (by simp only [maxLen]; omega) (by omega) (Nat.le_refl _) ?_
       intro A1 c1 w1 o1 hg1 hat1
       have K1 := (Keeps.refl (fun _ => False) w).grown hg1 (fun k hk => by cases hk)
       have e1 : w1.cell? ⟨g, 1, none⟩ = some (.slice B m c2) := (hW.keeps K1 (fun h => h)).cell 1
       rw [← Lib.byteCells_append, Nat.zero_add, List.nil_append] at o1
       rw [Nat.zero_add]
       clear c0))
  rw [rounds_succ]
  go_wp2_with (first
    | (at_builtin
       refine wpList_append_rd _ rfl (.tmp 11) (.tmp 15) _ rfl w.heap.size 5 i0 _ 1 1 Tryz.underlying33 hi0 hz0 hz1 hz2 rfl Nat.one_pos A1 c1 n (Lib.byteCells l) rfl o1 B m c2 (Lib.byteCells d) rfl (h2.keeps K1 (fun _ _ h => h)) (byteCells_one _) (by simp only [maxLen]; omega) (by omega) K1.size ?_
       intro A2 c2' w2 o2 hg2 hat2
       have K2 := K1.grown hg2 (fun k hk => .inr (o1.lt k (by rw [ownBlock_slice]; exact hk)).1)
       rw [← Lib.byteCells_append] at o2))
  rw [rounds_succ]
  go_wp2_with fail
  go_ret
  exact ⟨A2, c2', rfl, o2, K2, fun k hk => (o2.lt k (by rw [ownBlock_slice]; exact hk)).1⟩
end Go.Proofs.YtpbnhhfpbadhjaaGreat
