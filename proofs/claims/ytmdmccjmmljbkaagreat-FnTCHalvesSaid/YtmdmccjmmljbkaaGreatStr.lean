/- Strings put into a buffer. Conditions: the buffer's block holds a row of the call's own; sizes far below the machine's. -/
import Derived.Test.YtmdmccjmmljbkaaGreatUv
import Derived.Laws.IdiomStrings
import Derived.Lib.AppendStr
namespace Go.Proofs.YtmdmccjmmljbkaaGreat
open Go.RowKit Go.Lib
/-- The bytes of a string, and those with their length ahead. -/
def sl (s : ByteArray) : List UInt8 := s.data.toList
def strB (s : ByteArray) : List UInt8 := Lib.uvarint s.size ++ sl s
theorem sl_length (s : ByteArray) : (sl s).length = s.size := by simp [sl]
theorem sl_back (s : ByteArray) : (⟨(sl s).toArray⟩ : ByteArray) = s := by simp [sl]
theorem strCells_sl (s : ByteArray) : strCells s = Lib.byteCells (sl s) := rfl

section
variable {P : Program} (w : World)
theorem run_append_str (base : Nat) (t u ty e : TypeId) (i : TypeInfo) (ht : P.underlying t = some (.slice e)) (hu : P.underlying u = some .string) (hi : P.info? e = some i) (hz : i.zero = some (.int .u8 0))
    (hsize : i.size = 1) (hby : i.bytes = 1) (A : Option Addr) (c n : Nat) (xs : List Value) (hown : w.ownsRow base e 1 (.slice A n c) n xs) (s : ByteArray)
    (h63 : n + s.size ≤ maxLen) (hbytes : n + s.size ≤ 70368744177664) (hbase : base ≤ w.heap.size) :
    ∃ A' c' w', (Builtin.append_ #[t, u] ty #[.slice A n c, .string s]).run P w = .ok (.slice A' (n + s.size) c') w' ∧ w'.ownsRow base e 1 (.slice A' (n + s.size) c') (n + s.size) (xs ++ strCells s) ∧ w.grownBy w' (ob A) ∧ (ob A' = ob A ∨ ob A' = some w.heap.size) := by
  have hxl : xs.length = n := by simpa using hown.1
  obtain ⟨v', w', hrun, hown', hg, hnil⟩ := run_append_own_string (P := P) w base t u ty e i ht hu hi hz hsize hby _ n xs hown s h63 (by omega) hbase
  have key : v'.ownBlock = ob A ∨ v'.ownBlock = some w.heap.size := by
    rcases hown.2 with ⟨h, h0⟩ | ⟨g, cap, cur, h, hbg, hg', hnc, hcm, hcs, _⟩
    · injection h with e1 e2 e3
      subst e1 h0 e3
      by_cases hm : s.size = 0
      · have := hnil.2 ⟨rfl, hm⟩
        subst this
        exact .inl rfl
      · have hr := run_append_nil_string (P := P) w t u ty e i (.int .u8 0) ht hu hi hz s (by omega) (by omega) (by rw [hby]; omega)
        rw [hr] at hrun
        injection hrun with e1 e2
        subst e1
        exact .inr rfl
    · injection h with e1 e2 e3
      subst e1 e3
      by_cases hroom : n + s.size ≤ c
      · have hr := run_append_room_string (P := P) w t u ty e i ht hu hi hsize g n c cur hg' s hroom (by simp at hcs; omega)
        rw [hr] at hrun
        injection hrun with e1 e2
        subst e1
        exact .inl rfl
      · have holds : ∀ j u, xs[j]? = some u → w.cell? ((⟨g, 0, none⟩ : Addr).add j) = some u := hown.cells (g := g) rfl
        have hr := run_append_grow_string (P := P) w t u ty e i (.int .u8 0) ht hu hi hz ⟨g, 0, none⟩ n c xs (by rw [hsize]; simpa using hxl) holds s (by omega) (by omega) (by rw [hby]; exact growslice_fits (by omega) (by omega))
        rw [hr] at hrun
        injection hrun with e1 e2
        subst e1
        exact .inr rfl
  have hv : ∃ A' c', v' = .slice A' (n + s.size) c' := by
    rcases hown'.2 with ⟨rfl, h0⟩ | ⟨g, cap, cur, rfl, _⟩
    · exact ⟨none, 0, by rw [h0]⟩
    · exact ⟨_, _, rfl⟩
  obtain ⟨A', c', rfl⟩ := hv
  rw [ownBlock_slice] at key hg
  exact ⟨A', c', w', hrun, hown', hg, key⟩

theorem wpList_append_str {ops : Array Oper} {rest : List Oper} {o : Oper} {a : Act} {Q : Exit → Act → World → Prop} (hgd : o.guard = none) (s x : Operand) (t u : TypeId)
    (ho : o.op = .call { callee := .builtin .append, args := #[s, x], argTypes := #[t, u] })
    (base : Nat) (e : TypeId) (i : TypeInfo) (ht : P.underlying t = some (.slice e)) (hu : P.underlying u = some .string) (hi : P.info? e = some i) (hz : i.zero = some (.int .u8 0))
    (hsize : i.size = 1) (hby : i.bytes = 1) (A : Option Addr) (c n : Nat) (xs : List Value) (hs : a.eval s = .slice A n c) (hown : w.ownsRow base e 1 (.slice A n c) n xs) (str : ByteArray) (hx : a.eval x = .string str)
    (h63 : n + str.size ≤ maxLen) (hbytes : n + str.size ≤ 70368744177664) (hbase : base ≤ w.heap.size)
    (h : ∀ A' c' w', w'.ownsRow base e 1 (.slice A' (n + str.size) c') (n + str.size) (xs ++ strCells str) → w.grownBy w' (ob A) → (ob A' = ob A ∨ ob A' = some w.heap.size) → wpList P ops Q rest (a.put o.dst (.slice A' (n + str.size) c')) w') : wpList P ops Q (o :: rest) a w := by
  refine wpList_plain hgd fun K hK => ?_
  obtain ⟨A', c', w', hrun, h2, h3, h4⟩ := run_append_str (P := P) w base t u o.type e i ht hu hi hz hsize hby A c n xs hown str h63 hbytes hbase
  unfold Oper.wp execOp
  simp only [ho, resolve, invoke, builtin, Sem.run_bind, Sem.run_pure, Result.andThen_ok, List.map_toArray, List.map_cons, List.map_nil, hs, hx, hrun]
  exact hK _ _ (h A' c' w' h2 h3 h4)
end

end Go.Proofs.YtmdmccjmmljbkaaGreat
