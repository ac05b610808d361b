/- A column of arrays of strings: rows appended. Conditions: sizes far below the machine's. -/
import Derived.Test.YtpcjifhklofofaaCol
import Derived.Deep.RegionHeld3
import Derived.Deep.RegionLaw
import Derived.Deep.DrawnRows
import Derived.IntWalk
import Derived.Laws.Rows
import Derived.ChangeKeysEq
namespace Go.Proofs.Ytpcjifhklofofaa
open Go.RowKit Go.Lib
set_option linter.unusedVariables false
attribute [local go_sem ↓] Go.wp_at_zero Go.wp_at_succ
theorem infoU64E : (Try.prog.info? 53).map (fun i => (i.zero, i.size, i.bytes)) = some (some (.int .u64 0), 1, 8) := by kernel_rfl
/-- Where rows of these lengths end, from s on. -/
def ends : Nat → List Nat → List Nat
  | _, [] => []
  | s, k :: r => (s + k) :: ends (s + k) r
theorem ends_length : ∀ (s : Nat) (l : List Nat), (ends s l).length = l.length
  | _, [] => rfl
  | s, k :: r => by rw [ends, List.length_cons, ends_length, List.length_cons]
theorem ends_snoc : ∀ (s : Nat) (l : List Nat) (x : Nat), ends s (l ++ [x]) = ends s l ++ [s + l.sum + x]
  | s, [], x => by simp [ends]
  | s, k :: r, x => by rw [List.cons_append, ends, ends_snoc, ends, List.sum_cons, List.cons_append, Nat.add_assoc s k]
def offVals (RR : List (List ByteArray)) : List Value := (ends 0 (RR.map List.length)).map fun x : Nat => .int .u64 (x : Int)
theorem offVals_snoc (RR : List (List ByteArray)) (X : List ByteArray) : offVals (RR ++ [X]) = offVals RR ++ [.int .u64 ((RR.flatten.length + X.length : Nat) : Int)] := by
  rw [offVals, List.map_append, List.map_cons, List.map_nil, ends_snoc, List.map_append, Nat.zero_add, offVals, List.length_flatten]
  rfl
/-- A column of arrays of strings. -/
structure ArrAt (w : World) (base ga gs : Nat) (O : Option Addr) (ko : Nat) (A : Option Addr) (c : Nat) (B : Option Addr) (d : Nat) (RR : List (List ByteArray)) : Prop where
  blk : Whole w ga 88 #[.slice O RR.length ko, .iface 54 (.pointer (some ⟨gs, 0, none⟩))]
  off : w.ownsRow base 53 1 (.slice O RR.length ko) RR.length (offVals RR)
  col : ColAt w base gs A c B d (RR.flatten.map sl)
  lo : base ≤ ga
def ArrS (ga gs : Nat) (O A B : Option Addr) : Nat → Prop := fun k => k = ga ∨ ob O = some k ∨ k = gs ∨ ob A = some k ∨ ob B = some k
structure ArrPut (w w' : World) (base ga gs : Nat) (O A B O' : Option Addr) (ko : Nat) (A' : Option Addr) (c' : Nat) (B' : Option Addr) (d' : Nat) (RR : List (List ByteArray)) : Prop where
  at' : ArrAt w' base ga gs O' ko A' c' B' d' RR
  keeps : Keeps (ArrS ga gs O A B) w w'
  rowO : ob O' = ob O ∨ ∀ k, ob O' = some k → w.heap.size ≤ k
  rowA : ob A' = ob A ∨ ∀ k, ob A' = some k → w.heap.size ≤ k
  rowB : ob B' = ob B ∨ ∀ k, ob B' = some k → w.heap.size ≤ k
theorem ArrAt.new {w w' : World} {base ga gs ko c d : Nat} {O A B : Option Addr} {RR : List (List ByteArray)} (h : ArrAt w base ga gs O ko A c B d RR) (hk : Keeps (fun _ => False) w w') : ArrAt w' base ga gs O ko A c B d RR :=
  ⟨h.blk.keeps hk (fun h => h), own_keeps h.off hk (fun _ _ h => h), h.col.new hk, h.lo⟩
theorem ArrPut.trans {w w1 w2 : World} {base ga gs k1 k2 c1 d1 c2 d2 : Nat} {O A B O1 A1 B1 O2 A2 B2 : Option Addr} {R1 R2 : List (List ByteArray)} (h : ArrPut w w1 base ga gs O A B O1 k1 A1 c1 B1 d1 R1) (k : ArrPut w1 w2 base ga gs O1 A1 B1 O2 k2 A2 c2 B2 d2 R2) : ArrPut w w2 base ga gs O A B O2 k2 A2 c2 B2 d2 R2 := by
  have fr : ∀ (X X1 : Option Addr), (ob X1 = ob X ∨ ∀ k, ob X1 = some k → w.heap.size ≤ k) → ∀ i, i < w.heap.size → ob X1 = some i → ob X = some i := fun X X1 hx i hi hs => by
    rcases hx with hr | hr
    · rw [← hr]; exact hs
    · exact absurd (hr i hs) (by omega)
  have tr : ∀ (X X1 X2 : Option Addr), (ob X1 = ob X ∨ ∀ k, ob X1 = some k → w.heap.size ≤ k) → (ob X2 = ob X1 ∨ ∀ k, ob X2 = some k → w1.heap.size ≤ k) → (ob X2 = ob X ∨ ∀ k, ob X2 = some k → w.heap.size ≤ k) := fun X X1 X2 h1 h2 => by
    rcases h2 with hr | hr
    · rw [hr]; exact h1
    · exact .inr fun i hi => Nat.le_trans h.keeps.size (hr i hi)
  refine ⟨k.at', h.keeps.trans k.keeps ?_, tr _ _ _ h.rowO k.rowO, tr _ _ _ h.rowA k.rowA, tr _ _ _ h.rowB k.rowB⟩
  rintro i hi (h1 | h1 | h1 | h1 | h1)
  · exact .inl h1
  · exact .inr (.inl (fr _ _ h.rowO i hi h1))
  · exact .inr (.inr (.inl h1))
  · exact .inr (.inr (.inr (.inl (fr _ _ h.rowA i hi h1))))
  · exact .inr (.inr (.inr (.inr (fr _ _ h.rowB i hi h1))))
theorem ArrPut.refl {w : World} {base ga gs ko c d : Nat} {O A B : Option Addr} {RR : List (List ByteArray)} (h : ArrAt w base ga gs O ko A c B d RR) : ArrPut w w base ga gs O A B O ko A c B d RR := ⟨h, Keeps.refl _ _, .inl rfl, .inl rfl, .inl rfl⟩
def ArrRes (w : World) (base ga gs : Nat) (O A B : Option Addr) (RR : List (List ByteArray)) (e : Ending) (w' : World) : Prop := ∃ O' ko A' c' B' d', e = .returned (.tuple #[]) ∧ ArrPut w w' base ga gs O A B O' ko A' c' B' d' RR

theorem wrapNil (t u : TypeId) (a : Addr) (s : ByteArray) (n : String) : Builtin.ssaWrapNilChk_ #[t] u #[.pointer (some a), .string s, strVal n] = pure (.pointer (some a)) := rfl
theorem wrapNil' (t u : TypeId) (a : Addr) (m n : String) : Builtin.ssaWrapNilChk_ #[t] u #[.pointer (some a), strVal m, strVal n] = pure (.pointer (some a)) := rfl
theorem asAddr_some (a : Addr) : asAddr (.pointer (some a)) = pure a := rfl
/-- A method of a value's own type called through a pointer: the value is read where the pointer leads. -/
theorem method_val {P : Program} {fuel : Nat} {t elem : TypeId} {i : TypeInfo} {m : _} {name : String} {f : FuncId} {a : Addr} {w : World} {v : Value} (hi : P.info? t = some i) (hm : i.methods.find? (·.name == name) = some m) (hp : m.path = #[]) (hf : m.func = some (f, false))
    (hu : P.underlying t = some (.pointer elem)) (hl : (loadVar elem a).run P w = .ok v w) : (method (fuel + 1) t (.pointer (some a)) name).run P w = .ok (f, v) w := by
  unfold method
  simp only [Sem.run_bind, run_typeInfo w hi, Result.andThen_ok, hm, hp, hf, follow, Sem.run_pure, receiverAt, run_underlying hu, Place.get, wrapNil', asAddr_some, hl, Array.isEmpty_empty, if_true, List.toList_toArray]
theorem infoM : (Try.prog.info? 54).map (fun i => (i.methods.find? (·.name == "Rows")).map (fun m => (m.path.toList.length, m.func))) = some (some (0, some (63, false))) := by kernel_rfl
theorem infoCS : (Try.prog.info? 57).map (·.size) = some 2 := by kernel_rfl
theorem method_row {P : Program} {t : TypeId} {name : String} {f : FuncId} {b : Bool} (h : (P.info? t).map (fun i => (i.methods.find? (·.name == name)).map (fun m => (m.path.toList.length, m.func))) = some (some (0, some (f, b)))) :
    ∃ i m, P.info? t = some i ∧ i.methods.find? (·.name == name) = some m ∧ m.path = #[] ∧ m.func = some (f, b) := by
  rw [Option.map_eq_some_iff] at h
  obtain ⟨i, h1, h2⟩ := h
  rw [Option.map_eq_some_iff] at h2
  obtain ⟨m, h3, h4⟩ := h2
  injection h4 with h4 h5
  exact ⟨i, m, h1, h3, by simpa using h4, h5⟩
theorem mRows {w : World} {gs : Nat} {x y : Value} (hW : Whole w gs 57 #[x, y]) (fuel : Nat) : (method (fuel + 1) 54 (.pointer (some ⟨gs, 0, none⟩)) "Rows").run Try.prog w = .ok (63, .agg #[x, y]) w := by
  obtain ⟨i, m, h1, h2, h3, h4⟩ := method_row infoM
  exact method_val h1 h2 h3 h4 Try.underlying54 (run_loadVar_row (P := Try.prog) w gs 57 57 _ (0, 0) _ hW Try.underlying57 rfl infoCS)

theorem arr_done {w w1 v w3 : World} {base ga gs ko k1 d1 k3 M : Nat} {O A B A1 B1 O3 : Option Addr} {Q : List (List UInt8)} {vals : List Value} {x : Value} {RR : List (List ByteArray)} {X : List ByteArray} (hP : ColPut w w1 base gs A B A1 k1 B1 d1 Q) (K : Keeps (fun _ => False) w1 v)
    (hbv : Whole v ga 88 #[.slice O M ko, .iface 54 (.pointer (some ⟨gs, 0, none⟩))]) (hov : v.ownsRow base 53 1 (.slice O M ko) M vals) (hg : v.grownBy w3 (ob O)) (ho3 : w3.ownsRow base 53 1 (.slice O3 (M + 1) k3) (M + 1) (vals ++ [x])) (hat : ob O3 = ob O ∨ ob O3 = some v.heap.size) (hlo : base ≤ ga)
    (hQ : (RR ++ [X]).flatten.map sl = Q) (hM : (RR ++ [X]).length = M + 1) (hV : offVals (RR ++ [X]) = vals ++ [x]) :
    ArrPut w (w3.setCell ⟨ga, 0, none⟩ (.slice O3 (M + 1) k3)) base ga gs O A B O3 k3 A1 k1 B1 d1 (RR ++ [X]) := by
  have colv := hP.at'.new K
  have nS : ga ≠ gs := hbv.differ colv.blk (by decide)
  have nO : ob O ≠ some ga := by have := own_far hov hbv (by decide); rwa [ownBlock_slice] at this
  have nOS : ob O ≠ some gs := by have := own_far hov colv.blk (by decide); rwa [ownBlock_slice] at this
  have nOA : ∀ k, ob A1 = some k → ob O ≠ some k := by have := own_apart colv.buf hov (by decide); simpa only [ownBlock_slice] using this
  have nOB : ∀ k, ob B1 = some k → ob O ≠ some k := by have := own_apart colv.pos hov (by decide); simpa only [ownBlock_slice] using this
  have K3 : Keeps (fun i => ob O = some i) v w3 := (Keeps.refl _ v).grown hg (fun k hk => .inl hk)
  have col3 := colv.keeps K3 nOS nOA nOB
  have hb3 := hbv.keeps K3 nO
  have K4 := (Keeps.refl (fun i => i = ga) w3).setCell (p := ⟨ga, 0, none⟩) (.inl rfl) (.slice O3 (M + 1) k3)
  have nA1 : ob A1 ≠ some ga := by have := own_far col3.buf hb3 (by decide); rwa [ownBlock_slice] at this
  have nB1 : ob B1 ≠ some ga := by have := own_far col3.pos hb3 (by decide); rwa [ownBlock_slice] at this
  have nO3 : ob O3 ≠ some ga := by have := own_far ho3 hb3 (by decide); rwa [ownBlock_slice] at this
  have col4 := col3.keeps K4 (fun h => nS h.symm) (fun k hk h => nA1 (h ▸ hk)) (fun k hk h => nB1 (h ▸ hk))
  have hb4 := hb3.put 0 (.slice O3 (M + 1) k3)
  have o4 := own_keeps ho3 K4 (fun k hk h => by rw [ownBlock_slice] at hk; exact nO3 (h ▸ hk))
  refine ⟨⟨?_, ?_, ?_, hlo⟩, ?_, ?_, hP.rowA, hP.rowB⟩
  · rw [hM]; exact hb4
  · rw [hM, hV]; exact o4
  · rw [hQ]; exact col4
  · refine (((hP.keeps.mono (S' := ArrS ga gs O A B) (fun _ _ h => ?_)).trans K (fun _ _ h => h.elim)).trans K3 (fun _ _ h => .inr (.inl h))).trans K4 (fun _ _ h => .inl h)
    rcases h with h | h | h
    · exact .inr (.inr (.inl h))
    · exact .inr (.inr (.inr (.inl h)))
    · exact .inr (.inr (.inr (.inr h)))
  · rcases hat with h | h
    · exact .inl h
    · exact .inr fun k hk => by rw [h] at hk; injection hk with hk; have h1 := hP.keeps.size; have h2 := K.size; omega

end Go.Proofs.Ytpcjifhklofofaa
