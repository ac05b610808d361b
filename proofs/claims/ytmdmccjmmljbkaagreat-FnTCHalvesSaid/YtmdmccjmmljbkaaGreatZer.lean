/- Zeros appended to a slice of bytes that the call owns: what Go makes of append(b, make([]byte, m)...): the number m stands in the slice's place. Conditions: m above 0; sizes far below the machine's. -/
import Derived.Test.YtmdmccjmmljbkaaGreatMem
import Derived.Lib.AppendZerosOnto
namespace Go.Proofs.YtmdmccjmmljbkaaGreat
open Go.RowKit Go.Lib
set_option linter.unusedVariables false
def zer (m : Nat) : List Value := List.replicate m (Value.int .u8 0)
theorem zer_length (m : Nat) : (zer m).length = m := by simp [zer]
theorem zer_one (m : Nat) : ∀ u ∈ zer m, u.oneCell' = true := by
  intro u hu
  rw [zer, List.mem_replicate] at hu
  rw [hu.2]
  rfl
theorem zeroCells_zer (m : Nat) : Builtin.zeroCells #[Value.int .u8 0] m = (zer m).toArray := by
  apply Array.ext
  · simp [Builtin.zeroCells, zer]
  · intro i h1 h2
    simp [Builtin.zeroCells, zer, Nat.mod_one]

section
variable {P : Program} (w : World)
theorem run_append_room_zeros (t tn ty e : TypeId) (i : TypeInfo) (k kn : IntKind) (ht : P.underlying t = some (.slice e)) (htn : P.underlying tn = some (.int kn)) (hi : P.info? e = some i) (hz : i.zero = some (.int .u8 0)) (hs1 : i.size = 1) (hb1 : i.bytes = 1)
    (g sLen sCap : Nat) (cur : Array Value) (hg : w.heap[g]? = some (.cells cur e (0, 0))) (m : Nat) (h0 : 0 < m) (hm : m ≤ 140737488355328) (hroom : sLen + m ≤ sCap) (hfit : sLen + m ≤ cur.size) :
    (Builtin.append_ #[t, tn] ty #[.slice (some ⟨g, 0, none⟩) sLen sCap, .int k m]).run P w =
      .ok (.slice (some ⟨g, 0, none⟩) (sLen + m) sCap) (w.setRow g (cur.toList.take sLen ++ zer m ++ cur.toList.drop (sLen + m)).toArray) := by
  have hst := run_storeCells_at P g sLen e (zer m) 0 cur w hg (by simpa [zer_length] using hfit) (zer_one m)
  simp only [Nat.add_zero, zer_length] at hst
  have hk : m ≠ 0 := by omega
  have hw : IntKind.i64.wrap (m : Int) = m := by rw [IntKind.wrap_i64]; omega
  have hneg : ¬ ((m : Int) < 0) := by omega
  have h48i : ¬ (281474976710656 < (m : Int)) := by omega
  simp [Builtin.append_, run_underlying ht, run_underlying htn, sizeOf, typeInfo, zeroValue, hi, hz, hs1, hb1, asInt, asIntOf, hw, hk, hneg, h48i, hroom, Value.cells, zeroCells_zer, Addr.add_lit, hst]

/-- Zeros appended to a value that owns xs: SOME value that owns xs and the zeros. -/
theorem run_append_own_zeros (base : Nat) (t tn ty e : TypeId) (i : TypeInfo) (k kn : IntKind) (ht : P.underlying t = some (.slice e)) (htn : P.underlying tn = some (.int kn)) (hi : P.info? e = some i) (hz : i.zero = some (.int .u8 0)) (hsize : i.size = 1) (hby : i.bytes = 1)
    (v : Value) (n : Nat) (xs : List Value) (hown : w.ownsRow base e 1 v n xs) (m : Nat) (h0 : 0 < m)
    (h63 : n + m ≤ maxLen) (hbytes : n + m ≤ 140737488355328) (hbase : base ≤ w.heap.size) :
    ∃ v' w', (Builtin.append_ #[t, tn] ty #[v, .int k m]).run P w = .ok v' w' ∧ w'.ownsRow base e 1 v' (n + m) (xs ++ zer m) ∧ w.grownBy w' v.ownBlock ∧ (v'.ownBlock = v.ownBlock ∨ v'.ownBlock = some w.heap.size) := by
  have hxl : xs.length = n := by simpa using hown.1
  have hlen : (xs ++ zer m).length = (n + m) * 1 := by rw [List.length_append, hxl, zer_length, Nat.mul_one]
  have grown : ∀ (old : Nat), old < n + m → ∀ (row : Option Nat),
      (w.drew.alloc (.cells (xs.toArray ++ Builtin.zeroCells (Value.int .u8 0).cells m ++ Builtin.zeroCells (Value.int .u8 0).cells (grownCap w (n + m) old e - (n + m))) e)).ownsRow base e 1
        (.slice (some ⟨w.heap.size, 0, none⟩) (n + m) (grownCap w (n + m) old e)) (n + m) (xs ++ zer m) ∧
      w.grownBy (w.drew.alloc (.cells (xs.toArray ++ Builtin.zeroCells (Value.int .u8 0).cells m ++ Builtin.zeroCells (Value.int .u8 0).cells (grownCap w (n + m) old e - (n + m))) e)) row := by
    intro old ho row
    have hge := grownCap_ge w (n + m) old e
    have hcm : grownCap w (n + m) old e ≤ maxLen := grownCap_le_maxLen w (n + m) old e h63
    refine ⟨⟨hlen, .inr ⟨w.heap.size, _, _, rfl, hbase, heap_alloc_new w.drew _, hge, hcm, ?_, ?_⟩⟩, ⟨rfl, rfl, rfl, by simp, fun k hk _ => Go.heap_alloc_old w.drew _ hk⟩⟩
    · simp only [Array.size_append, List.size_toArray, size_zeroCells, hxl, Value.cells, List.size_toArray, List.length_cons, List.length_nil]
      omega
    · simp only [Value.cells, zeroCells_zer, Array.toList_append, List.append_assoc]
      rw [← List.append_assoc, show n + m = (xs ++ zer m).length by rw [hlen, Nat.mul_one], Nat.mul_one]
      exact List.take_left
  rcases hown.2 with ⟨rfl, rfl⟩ | ⟨g, cap, cur, rfl, hbg, hg, hnc, hcm, hcs, htake⟩
  · have hx : xs = [] := List.eq_nil_of_length_eq_zero (by simpa using hown.1)
    subst hx
    have hr := run_append_nil_zeros (P := P) w t tn ty e i (.int .u8 0) k kn ht htn hi hz m h0 (by omega) (by omega) (by rw [hby]; omega)
    have hgr := grown 0 (by omega) (Value.ownBlock (.slice none 0 0))
    simp only [Nat.zero_add, List.nil_append, Array.empty_append] at hgr ⊢
    exact ⟨_, _, hr, hgr.1, hgr.2, Or.inr rfl⟩
  · by_cases hroom : n + m ≤ cap
    · have hr := run_append_room_zeros (P := P) w t tn ty e i k kn ht htn hi hz hsize hby g n cap cur hg m h0 (by omega) hroom (by rw [hcs]; omega)
      refine ⟨_, _, hr, ⟨hlen, .inr ⟨g, cap, _, rfl, hbg, setRow_heap w g cur _ e _ hg, hroom, hcm, ?_, ?_⟩⟩, ⟨rfl, rfl, rfl, by simp, fun k hk hne => setRow_other w g k _ (fun e => hne (by simp [Value.ownBlock, e]))⟩, Or.inl rfl⟩
      · simp only [List.size_toArray, List.length_append, List.length_take, List.length_drop, Array.length_toList, zer_length]
        omega
      · rw [Nat.mul_one] at htake
        rw [htake, show (n + m) * 1 = (xs ++ zer m).length by rw [hlen]]
        exact List.take_left
    · have holds : ∀ j u, xs[j]? = some u → w.cell? ((⟨g, 0, none⟩ : Addr).add j) = some u := hown.cells (g := g) rfl
      have hfo := run_firstCells_some (P := P) w.drew i.size n ⟨g, 0, none⟩ n cap xs (by rw [hsize]; omega) (by simpa using holds)
      have hr := run_append_grow_zeros (P := P) w t tn ty e i (.int .u8 0) k kn ht htn hi hz (some ⟨g, 0, none⟩) n cap xs hfo m h0 (by omega) (by omega) (by simp only [maxLen] at h63; omega) (by rw [hby]; omega) (growslice_fits (by omega) (by rw [hby]; omega))
      have hgr := grown cap (by omega) (Value.ownBlock (.slice (some ⟨g, 0, none⟩) n cap))
      exact ⟨_, _, hr, hgr.1, hgr.2, Or.inr rfl⟩

/-- At the operation. -/
theorem wpList_append_zeros {ops : Array Oper} {rest : List Oper} {o : Oper} {a : Act} {Q : Exit → Act → World → Prop} (hgd : o.guard = none) (s x : Operand) (t tn : TypeId)
    (ho : o.op = .call { callee := .builtin .append, args := #[s, x], argTypes := #[t, tn] })
    (base : Nat) (e : TypeId) (i : TypeInfo) (k kn : IntKind) (ht : P.underlying t = some (.slice e)) (htn : P.underlying tn = some (.int kn)) (hi : P.info? e = some i) (hz : i.zero = some (.int .u8 0)) (hsize : i.size = 1) (hby : i.bytes = 1)
    (v : Value) (n : Nat) (xs : List Value) (hs : a.eval s = v) (hown : w.ownsRow base e 1 v n xs) (m : Nat) (vx : Value) (hx : a.eval x = vx) (hvx : vx = .int k m) (h0 : 0 < m)
    (h63 : n + m ≤ maxLen) (hbytes : n + m ≤ 140737488355328) (hbase : base ≤ w.heap.size)
    (h : ∀ v' w', w'.ownsRow base e 1 v' (n + m) (xs ++ zer m) → w.grownBy w' v.ownBlock → (v'.ownBlock = v.ownBlock ∨ v'.ownBlock = some w.heap.size) → wpList P ops Q rest (a.put o.dst v') w') :
    wpList P ops Q (o :: rest) a w := by
  subst hvx
  obtain ⟨v', w', hr, h2, h3, h4⟩ := run_append_own_zeros (P := P) w base t tn o.type e i k kn ht htn hi hz hsize hby v n xs hown m h0 h63 hbytes hbase
  exact Lib.wpList_append_run w hgd s x t tn ho v (.int k m) hs hx v' w' hr (h v' w' h2 h3 h4)
end
end Go.Proofs.YtmdmccjmmljbkaaGreat
