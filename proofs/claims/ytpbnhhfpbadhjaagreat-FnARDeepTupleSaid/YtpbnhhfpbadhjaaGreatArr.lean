/- A column of arrays of strings: rows appended. Conditions: sizes far below the machine's. -/
import Derived.Test.YtpbnhhfpbadhjaaGreatCol
import Derived.Deep.RegionHeld3
import Derived.Deep.RegionLaw
import Derived.Deep.DrawnRows
import Derived.IntWalk
import Derived.Laws.Rows
import Derived.ChangeKeysEq
namespace Go.Proofs.YtpbnhhfpbadhjaaGreat
open Go.RowKit Go.Lib
set_option linter.unusedVariables false
attribute [local go_sem ↓] Go.wp_at_zero Go.wp_at_succ
theorem infoU64E : (Tryz.prog.info? 127).map (fun i => (i.zero, i.size, i.bytes)) = some (some (.int .u64 0), 1, 8) := by kernel_rfl
/-- Where rows of these lengths end, from s on. -/
def ends : Nat → List Nat → List Nat
  | _, [] => []
  | s, k :: r => (s + k) :: ends (s + k) r
theorem ends_length : ∀ (s : Nat) (l : List Nat), (ends s l).length = l.length
  | _, [] => rfl
  | s, k :: r => by rw [ends, List.length_cons, ends_length, List.length_cons]
theorem ends_snoc : ∀ (s : Nat) (l : List Nat) (x : Nat), ends s (l ++ [x]) = ends s l ++ [s + l.sum + x]
  | s, [], x => by simp [ends]
  | s, k :: r, x => by rw [List.cons_append, ends, ends_snoc, ends, List.sum_cons, List.cons_append, Nat.add_assoc s k]
def offVals (RR : List (List ByteArray)) : List Value := (ends 0 (RR.map List.length)).map fun x : Nat => .int .u64 (x : Int)
theorem offVals_snoc (RR : List (List ByteArray)) (X : List ByteArray) : offVals (RR ++ [X]) = offVals RR ++ [.int .u64 ((RR.flatten.length + X.length : Nat) : Int)] := by
  rw [offVals, List.map_append, List.map_cons, List.map_nil, ends_snoc, List.map_append, Nat.zero_add, offVals, List.length_flatten]
  rfl
/-- A column of arrays of strings. -/
structure ArrAt (w : World) (base ga gs : Nat) (O : Option Addr) (ko : Nat) (A : Option Addr) (c : Nat) (B : Option Addr) (d : Nat) (RR : List (List ByteArray)) : Prop where
  blk : Whole w ga 126 #[.slice O RR.length ko, .iface 56 (.pointer (some ⟨gs, 0, none⟩))]
  off : w.ownsRow base 127 1 (.slice O RR.length ko) RR.length (offVals RR)
  col : ColAt w base gs A c B d (RR.flatten.map sl)
  lo : base ≤ ga
def ArrS (ga gs : Nat) (O A B : Option Addr) : Nat → Prop := fun k => k = ga ∨ ob O = some k ∨ k = gs ∨ ob A = some k ∨ ob B = some k
structure ArrPut (w w' : World) (base ga gs : Nat) (O A B O' : Option Addr) (ko : Nat) (A' : Option Addr) (c' : Nat) (B' : Option Addr) (d' : Nat) (RR : List (List ByteArray)) : Prop where
  at' : ArrAt w' base ga gs O' ko A' c' B' d' RR
  keeps : Keeps (ArrS ga gs O A B) w w'
  rowO : ob O' = ob O ∨ ∀ k, ob O' = some k → w.heap.size ≤ k
  rowA : ob A' = ob A ∨ ∀ k, ob A' = some k → w.heap.size ≤ k
  rowB : ob B' = ob B ∨ ∀ k, ob B' = some k → w.heap.size ≤ k
theorem ArrAt.new {w w' : World} {base ga gs ko c d : Nat} {O A B : Option Addr} {RR : List (List ByteArray)} (h : ArrAt w base ga gs O ko A c B d RR) (hk : Keeps (fun _ => False) w w') : ArrAt w' base ga gs O ko A c B d RR :=
  ⟨h.blk.keeps hk (fun h => h), own_keeps h.off hk (fun _ _ h => h), h.col.new hk, h.lo⟩
theorem ArrPut.trans {w w1 w2 : World} {base ga gs k1 k2 c1 d1 c2 d2 : Nat} {O A B O1 A1 B1 O2 A2 B2 : Option Addr} {R1 R2 : List (List ByteArray)} (h : ArrPut w w1 base ga gs O A B O1 k1 A1 c1 B1 d1 R1) (k : ArrPut w1 w2 base ga gs O1 A1 B1 O2 k2 A2 c2 B2 d2 R2) : ArrPut w w2 base ga gs O A B O2 k2 A2 c2 B2 d2 R2 := by
  have fr : ∀ (X X1 : Option Addr), (ob X1 = ob X ∨ ∀ k, ob X1 = some k → w.heap.size ≤ k) → ∀ i, i < w.heap.size → ob X1 = some i → ob X = some i := fun X X1 hx i hi hs => by
    rcases hx with hr | hr
    · rw [← hr]; exact hs
    · exact absurd (hr i hs) (by omega)
  have tr : ∀ (X X1 X2 : Option Addr), (ob X1 = ob X ∨ ∀ k, ob X1 = some k → w.heap.size ≤ k) → (ob X2 = ob X1 ∨ ∀ k, ob X2 = some k → w1.heap.size ≤ k) → (ob X2 = ob X ∨ ∀ k, ob X2 = some k → w.heap.size ≤ k) := fun X X1 X2 h1 h2 => by
    rcases h2 with hr | hr
    · rw [hr]; exact h1
    · exact .inr fun i hi => Nat.le_trans h.keeps.size (hr i hi)
  refine ⟨k.at', h.keeps.trans k.keeps ?_, tr _ _ _ h.rowO k.rowO, tr _ _ _ h.rowA k.rowA, tr _ _ _ h.rowB k.rowB⟩
  rintro i hi (h1 | h1 | h1 | h1 | h1)
  · exact .inl h1
  · exact .inr (.inl (fr _ _ h.rowO i hi h1))
  · exact .inr (.inr (.inl h1))
  · exact .inr (.inr (.inr (.inl (fr _ _ h.rowA i hi h1))))
  · exact .inr (.inr (.inr (.inr (fr _ _ h.rowB i hi h1))))
theorem ArrPut.refl {w : World} {base ga gs ko c d : Nat} {O A B : Option Addr} {RR : List (List ByteArray)} (h : ArrAt w base ga gs O ko A c B d RR) : ArrPut w w base ga gs O A B O ko A c B d RR := ⟨h, Keeps.refl _ _, .inl rfl, .inl rfl, .inl rfl⟩
def ArrRes (w : World) (base ga gs : Nat) (O A B : Option Addr) (RR : List (List ByteArray)) (e : Ending) (w' : World) : Prop := ∃ O' ko A' c' B' d', e = .returned (.tuple #[]) ∧ ArrPut w w' base ga gs O A B O' ko A' c' B' d' RR

theorem wrapNil (t u : TypeId) (a : Addr) (s : ByteArray) (n : String) : Builtin.ssaWrapNilChk_ #[t] u #[.pointer (some a), .string s, strVal n] = pure (.pointer (some a)) := rfl
theorem wrapNil' (t u : TypeId) (a : Addr) (m n : String) : Builtin.ssaWrapNilChk_ #[t] u #[.pointer (some a), strVal m, strVal n] = pure (.pointer (some a)) := rfl
theorem asAddr_some (a : Addr) : asAddr (.pointer (some a)) = pure a := rfl
/-- A method of a value's own type called through a pointer: the value is read where the pointer leads. -/
theorem method_val {P : Program} {fuel : Nat} {t elem : TypeId} {i : TypeInfo} {m : _} {name : String} {f : FuncId} {a : Addr} {w : World} {v : Value} (hi : P.info? t = some i) (hm : i.methods.find? (·.name == name) = some m) (hp : m.path = #[]) (hf : m.func = some (f, false))
    (hu : P.underlying t = some (.pointer elem)) (hl : (loadVar elem a).run P w = .ok v w) : (method (fuel + 1) t (.pointer (some a)) name).run P w = .ok (f, v) w := by
  unfold method
  simp only [Sem.run_bind, run_typeInfo w hi, Result.andThen_ok, hm, hp, hf, follow, Sem.run_pure, receiverAt, run_underlying hu, Place.get, wrapNil', asAddr_some, hl, Array.isEmpty_empty, if_true, List.toList_toArray]
theorem infoM : (Tryz.prog.info? 56).map (fun i => (i.methods.find? (·.name == "Rows")).map (fun m => (m.path.toList.length, m.func))) = some (some (0, some (144, false))) := by kernel_rfl
theorem infoCS : (Tryz.prog.info? 59).map (·.size) = some 2 := by kernel_rfl
theorem method_row {P : Program} {t : TypeId} {name : String} {f : FuncId} {b : Bool} (h : (P.info? t).map (fun i => (i.methods.find? (·.name == name)).map (fun m => (m.path.toList.length, m.func))) = some (some (0, some (f, b)))) :
    ∃ i m, P.info? t = some i ∧ i.methods.find? (·.name == name) = some m ∧ m.path = #[] ∧ m.func = some (f, b) := by
  rw [Option.map_eq_some_iff] at h
  obtain ⟨i, h1, h2⟩ := h
  rw [Option.map_eq_some_iff] at h2
  obtain ⟨m, h3, h4⟩ := h2
  injection h4 with h4 h5
  exact ⟨i, m, h1, h3, by simpa using h4, h5⟩
theorem mRows {w : World} {gs : Nat} {x y : Value} (hW : Whole w gs 59 #[x, y]) (fuel : Nat) : (method (fuel + 1) 56 (.pointer (some ⟨gs, 0, none⟩)) "Rows").run Tryz.prog w = .ok (144, .agg #[x, y]) w := by
  obtain ⟨i, m, h1, h2, h3, h4⟩ := method_row infoM
  exact method_val h1 h2 h3 h4 Tryz.underlying56 (run_loadVar_row (P := Tryz.prog) w gs 59 59 _ (0, 0) _ hW Tryz.underlying59 rfl infoCS)

theorem arr_done {w w1 v w3 : World} {base ga gs ko k1 d1 k3 M : Nat} {O A B A1 B1 O3 : Option Addr} {Q : List (List UInt8)} {vals : List Value} {x : Value} {RR : List (List ByteArray)} {X : List ByteArray} (hP : ColPut w w1 base gs A B A1 k1 B1 d1 Q) (K : Keeps (fun _ => False) w1 v)
    (hbv : Whole v ga 126 #[.slice O M ko, .iface 56 (.pointer (some ⟨gs, 0, none⟩))]) (hov : v.ownsRow base 127 1 (.slice O M ko) M vals) (hg : v.grownBy w3 (ob O)) (ho3 : w3.ownsRow base 127 1 (.slice O3 (M + 1) k3) (M + 1) (vals ++ [x])) (hat : ob O3 = ob O ∨ ob O3 = some v.heap.size) (hlo : base ≤ ga)
    (hQ : (RR ++ [X]).flatten.map sl = Q) (hM : (RR ++ [X]).length = M + 1) (hV : offVals (RR ++ [X]) = vals ++ [x]) :
    ArrPut w (w3.setCell ⟨ga, 0, none⟩ (.slice O3 (M + 1) k3)) base ga gs O A B O3 k3 A1 k1 B1 d1 (RR ++ [X]) := by
  have colv := hP.at'.new K
  have nS : ga ≠ gs := hbv.differ colv.blk (by decide)
  have nO : ob O ≠ some ga := by have := own_far hov hbv (by decide); rwa [ownBlock_slice] at this
  have nOS : ob O ≠ some gs := by have := own_far hov colv.blk (by decide); rwa [ownBlock_slice] at this
  have nOA : ∀ k, ob A1 = some k → ob O ≠ some k := by have := own_apart colv.buf hov (by decide); simpa only [ownBlock_slice] using this
  have nOB : ∀ k, ob B1 = some k → ob O ≠ some k := by have := own_apart colv.pos hov (by decide); simpa only [ownBlock_slice] using this
  have K3 : Keeps (fun i => ob O = some i) v w3 := (Keeps.refl _ v).grown hg (fun k hk => .inl hk)
  have col3 := colv.keeps K3 nOS nOA nOB
  have hb3 := hbv.keeps K3 nO
  have K4 := (Keeps.refl (fun i => i = ga) w3).setCell (p := ⟨ga, 0, none⟩) (.inl rfl) (.slice O3 (M + 1) k3)
  have nA1 : ob A1 ≠ some ga := by have := own_far col3.buf hb3 (by decide); rwa [ownBlock_slice] at this
  have nB1 : ob B1 ≠ some ga := by have := own_far col3.pos hb3 (by decide); rwa [ownBlock_slice] at this
  have nO3 : ob O3 ≠ some ga := by have := own_far ho3 hb3 (by decide); rwa [ownBlock_slice] at this
  have col4 := col3.keeps K4 (fun h => nS h.symm) (fun k hk h => nA1 (h ▸ hk)) (fun k hk h => nB1 (h ▸ hk))
  have hb4 := hb3.put 0 (.slice O3 (M + 1) k3)
  have o4 := own_keeps ho3 K4 (fun k hk h => by rw [ownBlock_slice] at hk; exact nO3 (h ▸ hk))
  refine ⟨⟨?_, ?_, ?_, hlo⟩, ?_, ?_, hP.rowA, hP.rowB⟩
  · rw [hM]; exact hb4
  · rw [hM, hV]; exact o4
  · rw [hQ]; exact col4
  · refine (((hP.keeps.mono (S' := ArrS ga gs O A B) (fun _ _ h => ?_)).trans K (fun _ _ h => h.elim)).trans K3 (fun _ _ h => .inr (.inl h))).trans K4 (fun _ _ h => .inl h)
    rcases h with h | h | h
    · exact .inr (.inr (.inl h))
    · exact .inr (.inr (.inr (.inl h)))
    · exact .inr (.inr (.inr (.inr h)))
  · rcases hat with h | h
    · exact .inl h
    · exact .inr fun k hk => by rw [h] at hk; injection hk with hk; have h1 := hP.keeps.size; have h2 := K.size; omega

set_option maxRecDepth 100000 in
set_option maxHeartbeats 4000000 in
theorem arrAppend (w : World) (base ga gs : Nat) (O : Option Addr) (ko : Nat) (A : Option Addr) (c : Nat) (B : Option Addr) (d : Nat) (RR : List (List ByteArray)) (E : Option Addr) (n k0 : Nat) (X : List ByteArray) (hC : ArrAt w base ga gs O ko A c B d RR) (hn : (RR.flatten.map sl).flatten.length ≤ 10000000) (hL : RR.flatten.length ≤ 10000) (hr : RR.length ≤ 10000) (hl : X.length = n) (hR : Rd w 1 E n (X.map Value.string)) (hE : 0 < n → ∀ k, ob E = some k → ¬ ArrS ga gs O A B k) (hx : ∀ x ∈ X, x.size ≤ 1000) (hnn : n ≤ 10000) :
    Calls Tryz.prog 105 #[.pointer (some ⟨ga, 0, none⟩), .slice E n k0] w fun e w' => ArrRes w base ga gs O A B (RR ++ [X]) e w' := by
  obtain ⟨i0, hi0, hz0, hz1, hz2⟩ := info_parts infoU64E
  have hlt := hC.blk.lt
  have hltS := hC.col.blk.lt
  have hbase : base ≤ w.heap.size := by have := hC.lo; omega
  have nS : ga ≠ gs := hC.blk.differ hC.col.blk (by decide)
  have nA : ob A ≠ some ga := by have := own_far hC.col.buf hC.blk (by decide); rwa [ownBlock_slice] at this
  have nB : ob B ≠ some ga := by have := own_far hC.col.pos hC.blk (by decide); rwa [ownBlock_slice] at this
  have nO : ob O ≠ some ga := by have := own_far hC.off hC.blk (by decide); rwa [ownBlock_slice] at this
  have nOS : ob O ≠ some gs := by have := own_far hC.off hC.col.blk (by decide); rwa [ownBlock_slice] at this
  have nOA : ∀ k, ob O = some k → ob A ≠ some k := by have := own_apart hC.off hC.col.buf (by decide); simpa only [ownBlock_slice] using this
  have nOB : ∀ k, ob O = some k → ob B ≠ some k := by have := own_apart hC.off hC.col.pos (by decide); simpa only [ownBlock_slice] using this
  have c1 : w.cell? ⟨ga, 1, none⟩ = some (.iface 56 (.pointer (some ⟨gs, 0, none⟩))) := hC.blk.cell 1
  have HAP := Lib.hid (colAppendArr w base gs A c B d (RR.flatten.map sl) E n k0 X hC.col (by omega) (by rw [List.length_map]; omega) hl hR (fun h0 k hk => ⟨fun h => hE h0 k hk (.inr (.inr (.inl h))), fun h => hE h0 k hk (.inr (.inr (.inr (.inl h)))), fun h => hE h0 k hk (.inr (.inr (.inr (.inr h))))⟩) hx hnn)
  have HFL := Lib.hid (show RR.flatten.map sl ++ X.map sl = ((RR ++ [X]).flatten).map sl by simp)
  have hcnt : ((RR ++ [X]).flatten.map sl).length = RR.flatten.length + n := by rw [List.length_map, List.flatten_append, List.length_append]; simp [hl]
  have HLN := Lib.hid (show (RR ++ [X]).length = RR.length + 1 by simp)
  have HOV := Lib.hid (show offVals (RR ++ [X]) = offVals RR ++ [.int .u64 ((RR.flatten.length + n : Nat) : Int)] by rw [offVals_snoc, hl])
  have HB := Lib.hid (show Whole w ga 126 #[.slice O RR.length ko, .iface 56 (.pointer (some ⟨gs, 0, none⟩))] from hC.blk)
  have HO := Lib.hid (show w.ownsRow base 127 1 (.slice O RR.length ko) RR.length (offVals RR) from hC.off)
  have HLO := Lib.hid hC.lo
  rw [HFL.out] at HAP
  have HCNT := Lib.hid hcnt
  clear hC hl hR hE hx hcnt hn
  generalize hQ : (RR ++ [X]).flatten.map sl = Q at *
  have HQ := Lib.hid hQ
  generalize hF : RR.flatten.length = f at *
  generalize hM : RR.length = M at *
  clear hQ hF hM
  obtain ⟨fn, hfn⟩ : ∃ fn, fn = f + n := ⟨_, rfl⟩
  rw [← hfn] at HOV HCNT
  have hfn1 : fn ≤ 20000 := by omega
  have hwr : IntKind.u64.wrap (fn : Int) = (fn : Int) := IntWalk.u64_in _ (by omega)
  have HFN := Lib.hid hfn
  clear hfn
  go_enter Tryz.func105, Tryz.ntmps105
  go_wp2_with fail
  refine HAP.out.mono ?_
  rintro e w1 ⟨A1, k1, B1, d1, rfl, hP⟩
  have hs1 : ∀ i, i = ga ∨ ob O = some i → ¬ (i = gs ∨ ob A = some i ∨ ob B = some i) := by
    rintro i (rfl | h) (h2 | h2 | h2)
    · exact nS h2
    · exact nA h2
    · exact nB h2
    · exact nOS (h2 ▸ h)
    · exact nOA i h h2
    · exact nOB i h h2
  have hb1 := HB.out.keeps hP.keeps (hs1 _ (.inl rfl))
  have ho1 := own_keeps HO.out hP.keeps (fun k hk => hs1 k (.inr (by rw [ownBlock_slice] at hk; exact hk)))
  have e0 : w1.cell? ⟨ga, 0, none⟩ = some (.slice O M ko) := hb1.cell 0
  have e1 : w1.cell? ⟨ga, 1, none⟩ = some (.iface 56 (.pointer (some ⟨gs, 0, none⟩))) := hb1.cell 1
  have f0 : w1.frozen? ⟨ga, 0, none⟩ = false := hb1.frozen 0
  have hl1 := hb1.lt
  have hq := hP.at'.blk
  rw [HCNT.out] at hq
  have q0 : w1.cell? ⟨gs, 0, none⟩ = some (.slice A1 Q.flatten.length k1) := hq.cell 0
  have q1 : w1.cell? ⟨gs, 1, none⟩ = some (.slice B1 fn d1) := hq.cell 1
  have hlq := hq.lt
  have ho1d := own_keeps ho1 (Keeps.refl (fun _ => False) w1).drew (fun _ _ h => h)
  have hme : (method 469 56 (.pointer (some ⟨gs, 0, none⟩)) "Rows").run Tryz.prog w1.drew = .ok (144, .agg #[.slice A1 Q.flatten.length k1, .slice B1 fn d1]) w1.drew := mRows hq.drew _
  have HP := Lib.hid hP
  clear hP hq hs1 c1
  go_wp2_with fail
  go_region_law (first
    | (refine step_append_rd _ rfl (.tmp 14) (.tmp 21) _ rfl base 127 i0 _ 1 8 Tryz.underlying108 hi0 hz0 hz1 hz2 rfl Nat.one_pos O ko M _ rfl ho2a (some ⟨w2.heap.size, 0, none⟩) 1 1 [.int .u64 (fn : Int)] rfl (rd_one w2 127 _) (one_val _ rfl) (by simp only [maxLen]; omega) (by omega) hba ?_
       intro O3 k3 w3 o3 hg3 hat3
       have hb3 := hb2a.grown hg3 (Ne.symm nO)
       have e30 : w3.cell? ⟨ga, 0, none⟩ = some (.slice O M ko) := hb3.cell 0
       have f30 : w3.frozen? ⟨ga, 0, none⟩ = false := hb3.frozen 0
       have hl3 := hb3.lt)
    | (go_simp
       go_at_call 144
       refine (colRowsV _ _ _ _ _ _ _).mono ?_
       rintro e w2 ⟨rfl, K2⟩
       have hb2 := hb1.drew.keeps K2 (fun h => h)
       have ho2 := own_keeps ho1d K2 (fun _ _ h => h)
       have K2a := (Keeps.refl (fun _ => False) w2).alloc (.cells #[.int .u64 (fn : Int)] 127)
       have hb2a := hb2.keeps K2a (fun h => h)
       have ho2a := own_keeps ho2 K2a (fun _ _ h => h)
       have hba : base ≤ (World.heap (w2.alloc (.cells #[.int .u64 (fn : Int)] 127))).size := by have h1 := HP.out.keeps.size; have h2 := K2.size; have h3 := K2a.size; simp at h2; omega
       have e20 : w2.cell? ⟨ga, 0, none⟩ = some (.slice O M ko) := hb2.cell 0
       have hl2 := hb2.lt))
  all_goals
    have HD := Lib.hid (arr_done (RR := RR) (X := X) HP.out (((Keeps.refl (fun _ => False) w1).drew.trans K2 (fun _ _ h => h)).trans K2a (fun _ _ h => h)) hb2a ho2a hg3 o3 hat3 HLO.out HQ.out HLN.out HOV.out)
    go_end0
    exact ⟨O3, k3, A1, k1, B1, d1, rfl, HD.out⟩
end Go.Proofs.YtpbnhhfpbadhjaaGreat
