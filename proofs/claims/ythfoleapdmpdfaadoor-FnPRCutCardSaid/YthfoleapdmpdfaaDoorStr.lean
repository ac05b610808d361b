/- Strings put into a buffer. Conditions: the buffer's block holds a row of the call's own; sizes far below the machine's. -/
import Derived.Test.YthfoleapdmpdfaaDoorUv
import Derived.Laws.IdiomStrings
import Derived.Lib.AppendStr
namespace Go.Proofs.YthfoleapdmpdfaaDoor
open Go.RowKit Go.Lib
/-- The bytes of a string, and those with their length ahead. -/
def sl (s : ByteArray) : List UInt8 := s.data.toList
def strB (s : ByteArray) : List UInt8 := Lib.uvarint s.size ++ sl s
theorem sl_length (s : ByteArray) : (sl s).length = s.size := by simp [sl]
theorem sl_back (s : ByteArray) : (⟨(sl s).toArray⟩ : ByteArray) = s := by simp [sl]
theorem strCells_sl (s : ByteArray) : strCells s = Lib.byteCells (sl s) := rfl

section
variable {P : Program} (w : World)
theorem run_append_str (base : Nat) (t u ty e : TypeId) (i : TypeInfo) (ht : P.underlying t = some (.slice e)) (hu : P.underlying u = some .string) (hi : P.info? e = some i) (hz : i.zero = some (.int .u8 0))
    (hsize : i.size = 1) (hby : i.bytes = 1) (A : Option Addr) (c n : Nat) (xs : List Value) (hown : w.ownsRow base e 1 (.slice A n c) n xs) (s : ByteArray)
    (h63 : n + s.size ≤ maxLen) (hbytes : n + s.size ≤ 70368744177664) (hbase : base ≤ w.heap.size) :
    ∃ A' c' w', (Builtin.append_ #[t, u] ty #[.slice A n c, .string s]).run P w = .ok (.slice A' (n + s.size) c') w' ∧ w'.ownsRow base e 1 (.slice A' (n + s.size) c') (n + s.size) (xs ++ strCells s) ∧ w.grownBy w' (ob A) ∧ (ob A' = ob A ∨ ob A' = some w.heap.size) := by
  have hxl : xs.length = n := by simpa using hown.1
  obtain ⟨v', w', hrun, hown', hg, hnil⟩ := run_append_own_string (P := P) w base t u ty e i ht hu hi hz hsize hby _ n xs hown s h63 (by omega) hbase
  have key : v'.ownBlock = ob A ∨ v'.ownBlock = some w.heap.size := by
    rcases hown.2 with ⟨h, h0⟩ | ⟨g, cap, cur, h, hbg, hg', hnc, hcm, hcs, _⟩
    · injection h with e1 e2 e3
      subst e1 h0 e3
      by_cases hm : s.size = 0
      · have := hnil.2 ⟨rfl, hm⟩
        subst this
        exact .inl rfl
      · have hr := run_append_nil_string (P := P) w t u ty e i (.int .u8 0) ht hu hi hz s (by omega) (by omega) (by rw [hby]; omega)
        rw [hr] at hrun
        injection hrun with e1 e2
        subst e1
        exact .inr rfl
    · injection h with e1 e2 e3
      subst e1 e3
      by_cases hroom : n + s.size ≤ c
      · have hr := run_append_room_string (P := P) w t u ty e i ht hu hi hsize g n c cur hg' s hroom (by simp at hcs; omega)
        rw [hr] at hrun
        injection hrun with e1 e2
        subst e1
        exact .inl rfl
      · have holds : ∀ j u, xs[j]? = some u → w.cell? ((⟨g, 0, none⟩ : Addr).add j) = some u := hown.cells (g := g) rfl
        have hr := run_append_grow_string (P := P) w t u ty e i (.int .u8 0) ht hu hi hz ⟨g, 0, none⟩ n c xs (by rw [hsize]; simpa using hxl) holds s (by omega) (by omega) (by rw [hby]; exact growslice_fits (by omega) (by omega))
        rw [hr] at hrun
        injection hrun with e1 e2
        subst e1
        exact .inr rfl
  have hv : ∃ A' c', v' = .slice A' (n + s.size) c' := by
    rcases hown'.2 with ⟨rfl, h0⟩ | ⟨g, cap, cur, rfl, _⟩
    · exact ⟨none, 0, by rw [h0]⟩
    · exact ⟨_, _, rfl⟩
  obtain ⟨A', c', rfl⟩ := hv
  rw [ownBlock_slice] at key hg
  exact ⟨A', c', w', hrun, hown', hg, key⟩

theorem wpList_append_str {ops : Array Oper} {rest : List Oper} {o : Oper} {a : Act} {Q : Exit → Act → World → Prop} (hgd : o.guard = none) (s x : Operand) (t u : TypeId)
    (ho : o.op = .call { callee := .builtin .append, args := #[s, x], argTypes := #[t, u] })
    (base : Nat) (e : TypeId) (i : TypeInfo) (ht : P.underlying t = some (.slice e)) (hu : P.underlying u = some .string) (hi : P.info? e = some i) (hz : i.zero = some (.int .u8 0))
    (hsize : i.size = 1) (hby : i.bytes = 1) (A : Option Addr) (c n : Nat) (xs : List Value) (hs : a.eval s = .slice A n c) (hown : w.ownsRow base e 1 (.slice A n c) n xs) (str : ByteArray) (hx : a.eval x = .string str)
    (h63 : n + str.size ≤ maxLen) (hbytes : n + str.size ≤ 70368744177664) (hbase : base ≤ w.heap.size)
    (h : ∀ A' c' w', w'.ownsRow base e 1 (.slice A' (n + str.size) c') (n + str.size) (xs ++ strCells str) → w.grownBy w' (ob A) → (ob A' = ob A ∨ ob A' = some w.heap.size) → wpList P ops Q rest (a.put o.dst (.slice A' (n + str.size) c')) w') : wpList P ops Q (o :: rest) a w := by
  refine wpList_plain hgd fun K hK => ?_
  obtain ⟨A', c', w', hrun, h2, h3, h4⟩ := run_append_str (P := P) w base t u o.type e i ht hu hi hz hsize hby A c n xs hown str h63 hbytes hbase
  unfold Oper.wp execOp
  simp only [ho, resolve, invoke, builtin, Sem.run_bind, Sem.run_pure, Result.andThen_ok, List.map_toArray, List.map_cons, List.map_nil, hs, hx, hrun]
  exact hK _ _ (h A' c' w' h2 h3 h4)
end

set_option maxRecDepth 100000 in
set_option maxHeartbeats 400000 in
theorem putString (w : World) (base bb : Nat) (A : Option Addr) (c : Nat) (l : List UInt8) (s : ByteArray) (hB : BufAt w base bb A c l) (hn : l.length ≤ 1000000) (hs : s.size ≤ 2147483647) :
    Calls Tryd.prog 67 #[.pointer (some ⟨bb, 0, none⟩), .string s] w fun e w' => ∃ A' c', e = .returned (.tuple #[]) ∧ Put w w' base bb A A' c' (l ++ strB s) := by
  obtain ⟨i0, hi0, hz0, hz1, hz2⟩ := info_parts infoU8
  have hul := Lib.uvarint_length64 (x := s.size) (by omega)
  have hs0 : (0 : Int) ≤ (s.size : Int) := by omega
  have hs1 : (s.size : Int) ≤ 2147483647 := by omega
  have HP := Lib.hid (putUv w base bb A c l s.size hB (by omega) (by omega))
  generalize hu : Lib.uvarint s.size = u at HP hul
  have e0 : strB s = u ++ sl s := by rw [← hu, strB]
  rw [e0]
  clear e0 hu
  have HS := Lib.hid hs
  clear hs
  go_enter Tryd.func67, Tryd.ntmps67
  go_wp2_with (go_at_call 66; go_in)
  refine HP.out.mono ?_
  rintro e w1 ⟨A1, c1, rfl, hP1⟩
  have hB1 := hP1.at'
  have hc1 : w1.cell? ⟨bb, 0, none⟩ = some (.slice A1 (l ++ u).length c1) := hB1.blk.cell 0
  have hlt := hB1.blk.lt
  generalize hq : l ++ u = q at hP1 hB1 hc1
  have hql : q.length ≤ 1000010 := by rw [← hq, List.length_append]; omega
  go_wp2_with fail
  try go_end0
  go_wp2_with (first
    | (at_builtin
       refine wpList_append_str _ rfl (.tmp 12) (.tmp 13) _ _ rfl base 5 i0 Tryd.underlying22 Tryd.underlying9 hi0 hz0 hz1 hz2 A1 c1 q.length (Lib.byteCells q) rfl hB1.own s rfl (by simp only [maxLen]; have := HS.out; omega) (by have := HS.out; omega) (Nat.le_trans hB1.lo (Nat.le_of_lt hlt)) ?_
       intro A2 c2 w2 hown hg hat
       rw [strCells_sl] at hown
       have hblk := hB1.blk.grown hg (Ne.symm hB1.far)
       have hc2 : w2.cell? ⟨bb, 0, none⟩ = some (.slice A1 q.length c1) := hblk.cell 0
       have hf2 : w2.frozen? ⟨bb, 0, none⟩ = false := hblk.frozen 0))
  go_end0
  have hfin := put_of (d := sl s) (sl_length s) hB1 (Keeps.refl _ _) hown hg hat
  have e : l ++ (u ++ sl s) = q ++ sl s := by rw [← hq, List.append_assoc]
  rw [e]
  first | exact ⟨A2, c2, rfl, hP1.trans hfin⟩ | exact ⟨rfl, A2, c2, hP1.trans hfin⟩
end Go.Proofs.YthfoleapdmpdfaaDoor
