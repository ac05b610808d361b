/- A buffer: made as long as is asked, emptied, read. Conditions: sizes far below the machine's; what the variable EOF holds. -/
import Derived.Test.YthfoleapdmpdfaaDoorRdr
import Derived.Laws.CopyRow
import Derived.LaidEql
import Derived.Stop.LaidErr
import Derived.ChangeBears2
namespace Go.Proofs.YthfoleapdmpdfaaDoor
open Go.RowKit Go.Lib
set_option linter.unusedVariables false
def EofV (w : World) : Prop := ∃ a : Addr, w.cell? ⟨0, 0, none⟩ = some (.iface 162 (.pointer (some a)))
theorem lt_of_cell {w : World} {g o : Nat} {v : Value} (h : w.cell? ⟨g, o, none⟩ = some v) : g < w.heap.size := by
  rcases Nat.lt_or_ge g w.heap.size with h' | h'
  · exact h'
  · have hn : w.heap[g]? = none := Array.getElem?_eq_none h'
    unfold World.cell? at h
    simp [hn] at h
theorem star : "*errors.errorString" = "*" ++ "errors.errorString" := by decide
theorem rowErr (u : TypeId) (h : Tryd.prog.typeName? 3 u = some "*errors.errorString") : u = 162 :=
  typeName_ptr_named (nm := "errors.errorString") (by rw [← star]; kernel_rfl) (by kernel_rfl) (by decide) u (by rw [← star]; exact h)
theorem eofV_met {w : World} {text : List UInt8} (h : laidMet Tryd.prog [("io.EOF", .iface "*errors.errorString" (.ptr (.agg [.lit (.string text)])))] w) : EofV w := by
  obtain ⟨a, s, hv, _⟩ := laid_sentinel h (show Tryd.prog.globalNamed "io.EOF" = some 0 by kernel_rfl) (show (Tryd.prog.globals[0]?).map (·.type) = some 66 by kernel_rfl) Tryd.underlying66 rowErr Tryd.underlying162 Tryd.underlying179 rfl rfl Tryd.underlying9 (by kernel_rfl) (by kernel_rfl)
  exact ⟨a, (var?_cell (show Tryd.prog.globalNamed "io.EOF" = some 0 by kernel_rfl) hv 0).trans rfl⟩
theorem run_copy_less {P : Program} (w : World) (dT sT ty e : TypeId) (hu : P.underlying dT = some (.slice e)) (hs : (P.info? e).map (·.size) = some 1) (base : Nat)
    (C : Option Addr) (n k : Nat) (olds : List Value) (hown : w.ownsRow base e 1 (.slice C n k) n olds) (A : Option Addr) (m c : Nat) (xs : List Value) (hr : Rd w 1 A m xs) (h1 : ∀ u ∈ xs, u.oneCell' = true) (h0 : 0 < m) (hmn : m ≤ n) :
    ∃ w', (Builtin.copy_ #[dT, sT] ty #[.slice C n k, .slice A m c]).run P w = .ok (goInt m) w' ∧ w'.ownsRow base e 1 (.slice C n k) n (xs ++ olds.drop m) ∧ w.grownBy w' (ob C) := by
  have hxl : xs.length = m := by have := hr.1; omega
  obtain ⟨g, cap, hv, hbg, hlt⟩ := hown.form (by omega)
  injection hv with hv1 _ hv3
  subst hv1 hv3
  obtain ⟨ad, rfl, _, hc⟩ := hr.2 h0
  rcases hown.2 with ⟨h, _⟩ | ⟨g', cap', cur, h, hb, hg, hnc, hcm, hcs, hol⟩
  · cases h
  · injection h with h1' _ h3
    injection h1' with h1'
    injection h1' with h1'
    subst h1' h3
    have hrun := run_copy_row (P := P) w dT sT ty e g 0 n k ad m c cur e xs hu hs hg (by rw [hxl]; show m = min m n; omega) hc (by omega) h1
    rw [hxl] at hrun
    have hcz : cur.size = k := by omega
    refine ⟨_, hrun, ⟨by simp [hxl]; have := hown.1; omega, .inr ⟨g, k, _, rfl, hb, setRow_heap w g cur _ e _ hg, hnc, hcm, ?_, ?_⟩⟩, ⟨rfl, rfl, rfl, by simp, fun i _ hi => setRow_other w g i _ (fun e => hi (by rw [e]; rfl))⟩⟩
    · simp [hxl]; omega
    · simp only [Nat.mul_one] at hol ⊢
      subst hol
      simp only [List.take_zero, List.nil_append, Nat.zero_add]
      rw [show n = xs.length + (n - m) by omega, List.take_length_add_append, List.drop_take]
      congr 2
      omega
theorem wpList_copy_run {P : Program} {w : World} {ops : Array Oper} {rest : List Oper} {o : Oper} {a : Act} {Q : Exit → Act → World → Prop} (hgd : o.guard = none) (d s : Operand) (dT sT : TypeId)
    (ho : o.op = .call { callee := .builtin .copy, args := #[d, s], argTypes := #[dT, sT] }) (dv sv : Value) (hd : a.eval d = dv) (hx : a.eval s = sv) (x : Value) (w' : World) (hrun : (Builtin.copy_ #[dT, sT] o.type #[dv, sv]).run P w = .ok x w')
    (h : wpList P ops Q rest (a.put o.dst x) w') : wpList P ops Q (o :: rest) a w := by
  refine wpList_plain hgd fun K hK => ?_
  unfold Oper.wp
  simp [execOp, ho, resolve, invoke, builtin, hd, hx, hrun, Result.andThen]
  exact hK _ _ h
set_option maxRecDepth 10000 in
theorem bufReset (w : World) (base bb : Nat) (A : Option Addr) (c : Nat) (l : List UInt8) (hB : BufAt w base bb A c l) :
    Calls Tryd.prog 34 #[.pointer (some ⟨bb, 0, none⟩)] w fun e w' => e = .returned (.tuple #[]) ∧ w'.cell? ⟨bb, 0, none⟩ = some (.slice A 0 c) ∧ Keeps (fun k => k = bb) w w' := by
  have h0 : w.cell? ⟨bb, 0, none⟩ = some (.slice A l.length c) := hB.blk.cell 0
  have hf := hB.blk.frozen 0
  have hW := hB.blk.put 0 (.slice A 0 c)
  have HW := Lib.hid (hW.cell 0)
  have HK := Lib.hid ((Keeps.refl (fun k => k = bb) w).setCell (p := ⟨bb, 0, none⟩) (.inl rfl) (.slice A 0 c))
  clear hB hW
  go_enter Tryd.func34, Tryd.ntmps34
  go_wp2
  go_end0
  exact ⟨rfl, by simpa using HW.out, HK.out⟩
def ReadRes (w : World) (g : Nat) (r : Nat) (d : List UInt8) (bb : Nat) (e : Ending) (w' : World) : Prop :=
  ∃ xs, e = .returned (.tuple #[.int .i64 ((min r d.length : Nat) : Int), .nilIface]) ∧ Rd w' 1 (some ⟨g, 0, none⟩) (min r d.length) (Lib.byteCells (d.take r)) ∧ Keeps (fun k => k = bb ∨ k = g) w w' ∧ xs = r
set_option maxRecDepth 10000 in
theorem bufReadEof (w : World) (base bb : Nat) (A : Option Addr) (c : Nat) (hB : BufAt w base bb A c []) (C : Option Addr) (r k : Nat) (h0 : 0 < r) (ev : Value) (hE : w.cell? ⟨0, 0, none⟩ = some ev) :
    Calls Tryd.prog 32 #[.pointer (some ⟨bb, 0, none⟩), .slice C r k] w fun e w' => e = .returned (.tuple #[.int .i64 0, ev]) ∧ Keeps (fun _ => False) w w' := by
  have h0c : w.cell? ⟨bb, 0, none⟩ = some (.slice A 0 c) := hB.blk.cell 0
  have hr : ¬ (r = 0) := by omega
  clear hB
  have K := (Keeps.refl (fun _ => False) w).drew
  go_enter Tryd.func32, Tryd.ntmps32
  go_wp2_with fail
  go_region
  all_goals
    go_wp2_with fail
    go_ret2
    exact ⟨rfl, K⟩
set_option maxRecDepth 10000 in
set_option maxHeartbeats 800000 in
theorem bufRead (w : World) (base bb g : Nat) (A : Option Addr) (c : Nat) (l : List UInt8) (hB : BufAt w base bb A c l) (r k : Nat) (olds : List Value) (b0 : Nat) (hO : w.ownsRow b0 5 1 (.slice (some ⟨g, 0, none⟩) r k) r olds) (h0 : 0 < r) (hl : 0 < l.length) (hs : l.length ≤ 1000) (hgb : bb ≠ g) (hgA : ob A ≠ some g) :
    Calls Tryd.prog 32 #[.pointer (some ⟨bb, 0, none⟩), .slice (some ⟨g, 0, none⟩) r k] w fun e w' => e = .returned (.tuple #[.int .i64 ((min r l.length : Nat) : Int), .nilIface]) ∧ (∃ ys, w'.ownsRow b0 5 1 (.slice (some ⟨g, 0, none⟩) r k) r (Lib.byteCells (l.take r) ++ ys)) ∧ Keeps (fun q => q = bb ∨ q = g) w w' := by
  obtain ⟨mm, hmm⟩ : ∃ mm, mm = min r l.length := ⟨_, rfl⟩
  have hcp : ∃ ys w', (Builtin.copy_ #[22, 22] 3 #[.slice (some ⟨g, 0, none⟩) r k, .slice A l.length c]).run Tryd.prog w = .ok (goInt (mm : Int)) w' ∧ w'.ownsRow b0 5 1 (.slice (some ⟨g, 0, none⟩) r k) r (Lib.byteCells (l.take r) ++ ys) ∧ w.grownBy w' (some g) := by
    rcases Nat.lt_or_ge l.length r with h | h
    · obtain ⟨w', h1, h2, h3⟩ := run_copy_less (P := Tryd.prog) w 22 22 3 5 Tryd.underlying22 byteInfo1 b0 _ r k olds hO A l.length c (Lib.byteCells l) (Rd.own hB.own) (byteCells_one l) hl (by omega)
      rw [show mm = l.length by omega, List.take_of_length_le (by omega)]
      exact ⟨_, w', h1, h2, h3⟩
    · obtain ⟨w', h1, h2, h3⟩ := run_copy_rd (P := Tryd.prog) w 22 22 3 5 Tryd.underlying22 byteInfo1 b0 _ r k olds hO A l.length c (Lib.byteCells l) (Rd.own hB.own) (byteCells_one l) h
      rw [show mm = r by omega]
      refine ⟨[], w', h1, ?_, h3⟩
      rw [List.append_nil, show Lib.byteCells (l.take r) = (Lib.byteCells l).take r by simp [Lib.byteCells, List.map_take]]
      exact h2
  obtain ⟨ys, w1, hrun, hO1, hG⟩ := hcp
  have h0c : w.cell? ⟨bb, 0, none⟩ = some (.slice A l.length c) := hB.blk.cell 0
  have hB1 := hB.blk.grown hG (by simp; omega)
  have h1c : w1.cell? ⟨bb, 0, none⟩ = some (.slice A l.length c) := hB1.cell 0
  have h1f := hB1.frozen 0
  have hr : ¬ (r = 0) := by omega
  have hln : ¬ (l.length = 0) := by omega
  have hln2 : ¬ (l = []) := by rintro rfl; simp at hln
  have hm1 : mm ≤ l.length := by omega
  have HO := Lib.hid hO1
  have K1 : Keeps (fun q => q = bb ∨ q = g) w w1 := (Keeps.refl _ w).grown hG (fun q hq => by injection hq with hq; exact .inl (.inr hq.symm))
  have HK := Lib.hid K1
  rw [← hmm]
  have hcap : l.length ≤ c := by
    rcases hB.own.2 with ⟨h, _⟩ | ⟨g', cap', cur, h, _, _, hnc, _⟩
    · injection h with h1 h2 h3
      exact absurd h2 hln
    · injection h with h1 h2 h3
      omega
  have hA0 : ∃ ga, A = some ⟨ga, 0, none⟩ := by
    obtain ⟨ga, cap, hv, _, _⟩ := hB.own.form (by omega)
    injection hv with hv
    exact ⟨ga, hv⟩
  obtain ⟨ga, rfl⟩ := hA0
  have hm2 : mm ≤ c := by omega
  have HRUN := Lib.hid hrun
  clear hB hB1 hG hO hmm hO1 K1 hrun
  have fin : ∀ v, (∃ ys, (w1.setCell ⟨bb, 0, none⟩ v).ownsRow b0 5 1 (.slice (some ⟨g, 0, none⟩) r k) r (Lib.byteCells (l.take r) ++ ys)) ∧ Keeps (fun q => q = bb ∨ q = g) w (w1.setCell ⟨bb, 0, none⟩ v) := fun v =>
    ⟨⟨ys, own_keeps HO.out ((Keeps.refl (fun q => q = bb) w1).setCell (.inl rfl) v) (fun q hq h => by
      have : g = q := by simpa [Value.ownBlock] using hq
      omega)⟩, HK.out.setCell (.inl (.inl rfl)) v⟩
  have HFIN := Lib.hid fin
  clear fin
  by_cases hcm : mm = c
  · go_enter Tryd.func32, Tryd.ntmps32
    go_wp2_with (first
      | (with_reducible refine wpList_copy_run rfl (.tmp 16) (.tmp 20) _ _ rfl (.slice (some ⟨g, 0, none⟩) r k) (.slice (some ⟨ga, 0, none⟩) l.length c) rfl rfl (goInt (mm : Int)) w1 HRUN.out ?_))
    go_ret2
    exact ⟨by rw [hcm]; rfl, HFIN.out _⟩
  · go_enter Tryd.func32, Tryd.ntmps32
    go_wp2_with (first
      | (with_reducible refine wpList_copy_run rfl (.tmp 16) (.tmp 20) _ _ rfl (.slice (some ⟨g, 0, none⟩) r k) (.slice (some ⟨ga, 0, none⟩) l.length c) rfl rfl (goInt (mm : Int)) w1 HRUN.out ?_))
    go_ret2
    exact ⟨rfl, HFIN.out _⟩
set_option maxRecDepth 10000 in
theorem prEnsure (w : World) (A : Option Addr) (c : Nat) (l : List UInt8) (m : Nat) (hR : Rd w 1 A l.length (Lib.byteCells l)) (hl : l.length ≤ 1000) (hm : m ≤ 1000) :
    Calls Tryd.prog 19 #[.slice A l.length c, .int .i64 (m : Int)] w fun e w' => e = .returned (.int .i64 (m : Int)) ∧ Keeps (fun _ => False) w w' := by
  have hB := bufNew w (Nat.le_refl w.heap.size)
  have HP := Lib.hid (putRaw _ w.heap.size w.heap.size none 0 [] A c l hB (hR.alloc _) (by simp; omega))
  have HK := Lib.hid ((Keeps.refl (fun _ => False) w).alloc (.cells #[.slice none 0 0] 63))
  clear hB
  go_enter Tryd.func19, Tryd.ntmps19
  go_wp2_with fail
  refine HP.out.mono ?_
  rintro e w1 ⟨A1, c1, rfl, hP⟩
  have hB1 := hP.at'
  rw [List.nil_append] at hB1
  have k1 := HK.out.trans (S' := fun i => w.heap.size ≤ i) (hP.keeps.mono (fun i _ h => by
    rcases h with h | h
    · omega
    · simp [ob] at h)) (fun i hi h => by omega)
  have HE := Lib.hid (ensure w1 w.heap.size w.heap.size A1 l.length c1 m _ hB1.blk hB1.own hB1.lo (by omega))
  have HK1 := Lib.hid k1
  clear hB1 hP k1
  go_wp2_with fail
  refine HE.out.mono ?_
  rintro e w2 ⟨C, k, q, rfl, hW, _, hK2, _⟩
  have hc : w2.cell? ⟨w.heap.size, 0, none⟩ = some (.slice C m k) := hW.cell 0
  have HK2 := Lib.hid (HK1.out.trans (S' := fun i => i = w.heap.size) hK2 (fun i hi h => by omega))
  clear hW hK2
  go_wp2_with fail
  go_ret
  exact ⟨rfl, HK2.out⟩
set_option maxRecDepth 10000 in
theorem prReset (w : World) (A : Option Addr) (c : Nat) (l : List UInt8) (hR : Rd w 1 A l.length (Lib.byteCells l)) (hl : l.length ≤ 1000) :
    Calls Tryd.prog 20 #[.slice A l.length c] w fun e w' => e = .returned (.int .i64 0) ∧ Keeps (fun _ => False) w w' := by
  have hB := bufNew w (Nat.le_refl w.heap.size)
  have HP := Lib.hid (putRaw _ w.heap.size w.heap.size none 0 [] A c l hB (hR.alloc _) (by simp; omega))
  have HK := Lib.hid ((Keeps.refl (fun _ => False) w).alloc (.cells #[.slice none 0 0] 63))
  clear hB
  go_enter Tryd.func20, Tryd.ntmps20
  go_wp2_with fail
  refine HP.out.mono ?_
  rintro e w1 ⟨A1, c1, rfl, hP⟩
  have k1 := HK.out.trans (S' := fun i => w.heap.size ≤ i) (hP.keeps.mono (fun i _ h => by
    rcases h with h | h
    · omega
    · simp [ob] at h)) (fun i hi h => by omega)
  have HE := Lib.hid (bufReset w1 w.heap.size w.heap.size A1 c1 _ hP.at')
  have HK1 := Lib.hid k1
  clear hP k1
  go_wp2_with fail
  refine HE.out.mono ?_
  rintro e w2 ⟨rfl, hc, hK2⟩
  have HK2 := Lib.hid (HK1.out.trans (S' := fun i => i = w.heap.size) hK2 (fun i hi h => by omega))
  clear hK2
  go_wp2_with fail
  go_ret
  exact ⟨rfl, HK2.out⟩
theorem infoEr : (Tryd.prog.info? 162).map (·.comparable) = some true := by kernel_rfl
theorem infoEs : (Tryd.prog.info? 179).isSome = true := by kernel_rfl
theorem eofEq (a : Addr) (w : World) : (binOp .eql 66 (.iface 162 (.pointer (some a))) (.iface 162 (.pointer (some a)))).run Tryd.prog w = .ok (.bool true) w := by
  obtain ⟨i, hi, hc⟩ := Option.map_eq_some_iff.1 infoEr
  obtain ⟨j, hj⟩ := Option.isSome_iff_exists.1 infoEs
  exact run_eql_iface_ptr_same (P := Tryd.prog) w a Tryd.underlying66 Tryd.underlying162 hi hc hj
theorem eofNil (v : Value) (w : World) : (binOp .eql 66 .nilIface (.iface 162 v)).run Tryd.prog w = .ok (.bool false) w := run_eql_iface_nil_left w 162 v Tryd.underlying66
def PrRes (w : World) (l : List UInt8) (mm r : Nat) (e : Ending) (w' : World) : Prop := ∃ g k, e = .returned (.tuple #[.int .i64 (mm : Int), .bool (decide (l.length = 0)), .slice (some ⟨g, 0, none⟩) mm k]) ∧ Rd w' 1 (some ⟨g, 0, none⟩) mm (Lib.byteCells (l.take r)) ∧ mm ≤ k ∧ Keeps (fun _ => False) w w'
theorem prRes_of {w w' : World} {l : List UInt8} {mm r k b0 g : Nat} {ys : List Value} {b : Bool} {e : Ending} (hmm : mm = min r l.length) (hb : b = decide (l.length = 0)) (he : e = .returned (.tuple #[.int .i64 (mm : Int), .bool b, .slice (some ⟨g, 0, none⟩) mm k])) (hO : w'.ownsRow b0 5 1 (.slice (some ⟨g, 0, none⟩) r k) r (Lib.byteCells (l.take r) ++ ys)) (hr : 0 < r) (hK : Keeps (fun _ => False) w w') : PrRes w l mm r e w' := by
  subst hb
  obtain ⟨h1, h2⟩ := Rd.own hO
  obtain ⟨ad, e1, e2, e3⟩ := h2 hr
  injection e1 with e1
  subst e1
  have hk : r ≤ k := by
    rcases hO.2 with ⟨h, _⟩ | ⟨g', cap', cur, h, _, _, hnc, _⟩
    · cases h
    · injection h with h1 h2 h3
      omega
  have hlen : (Lib.byteCells (l.take r)).length = mm := by rw [Lib.byteCells_length, List.length_take]; omega
  refine ⟨g, k, he, ⟨by rw [hlen]; omega, fun _ => ⟨_, rfl, e2, fun j u hu => e3 j u ?_⟩⟩, by omega, hK⟩
  rw [List.getElem?_append_left]
  · exact hu
  · exact (List.getElem?_eq_some_iff.1 hu).1
set_option maxRecDepth 10000 in
set_option maxHeartbeats 1600000 in
theorem prRead (w : World) (A : Option Addr) (c : Nat) (l : List UInt8) (r : Nat) (hR : Rd w 1 A l.length (Lib.byteCells l)) (hl : l.length ≤ 1000) (h0 : 0 < r) (hr : r ≤ 1000) (hE : EofV w) :
    Calls Tryd.prog 18 #[.slice A l.length c, .int .i64 (r : Int)] w fun e w' => PrRes w l (min r l.length) r e w' := by
  obtain ⟨i0, hi0, hz0, hz1, hz2⟩ := info_parts infoU8
  obtain ⟨a, hE⟩ := hE
  have hElt := lt_of_cell hE
  have hB := bufNew w (Nat.le_refl w.heap.size)
  have HP := Lib.hid (putRaw _ w.heap.size w.heap.size none 0 [] A c l hB (hR.alloc _) (by simp; omega))
  have HK := Lib.hid ((Keeps.refl (fun _ => False) w).alloc (.cells #[.slice none 0 0] 63))
  have q1 : ¬ ((r : Int) < 0) := by omega
  have q2 : (0 : Int) ≤ (r : Int) := by omega
  have b2 : i0.bytes * r ≤ 281474976710656 := by rw [hz2]; omega
  have b3 : r ≤ maxLen := by simp only [maxLen]; omega
  obtain ⟨mm, hmm⟩ : ∃ mm, mm = min r l.length := ⟨_, rfl⟩
  rw [← hmm]
  have HMM := Lib.hid hmm
  have HE0 := Lib.hid hE
  have hmr : mm ≤ r := by omega
  clear hB hmm hE
  go_enter Tryd.func18, Tryd.ntmps18
  go_wp2_with fail
  refine HP.out.mono ?_
  rintro e w1 ⟨A1, c1, rfl, hP⟩
  have hB1 := hP.at'
  rw [List.nil_append] at hB1
  have k1 := HK.out.trans (S' := fun i => w.heap.size ≤ i) (hP.keeps.mono (fun i _ h => by
    rcases h with h | h
    · omega
    · simp [ob] at h)) (fun i hi h => by omega)
  have HB1 := Lib.hid hB1
  have HK1 := Lib.hid k1
  have b4 : w.heap.size ≤ w1.heap.size := k1.size
  have hbl := hB1.blk.lt
  have hrl := hB1.row_lo
  have HRL := Lib.hid hrl
  clear hB1 hP k1 hrl
  go_wp2_with (first
    | (refine wpList_make_full _ rfl (.tmp 13) (.tmp 13) _ rfl w.heap.size 5 i0 _ 1 Tryd.underlying22 hi0 hz0 hz1 .i64 .i64 _ _ r rfl rfl rfl rfl b2 b3 b4 ?_
       intro w2 hown2 hg2))
  have hB2 : BufAt w2 w.heap.size w.heap.size A1 c1 l := HB1.out.keeps ((Keeps.refl (fun _ => False) w1).grown hg2 (fun q hq => by cases hq)) (fun h => h) (fun _ _ h => h)
  have hK2 : Keeps (fun _ => False) w w2 := HK1.out.grown hg2 (fun q hq => by cases hq)
  have hE2 := (hK2.cell (p := ⟨0, 0, none⟩) hElt (fun h => h)).trans HE0.out
  have HB2 := Lib.hid hB2
  have HO2 := Lib.hid hown2
  have HK2 := Lib.hid hK2
  have HE2 := Lib.hid hE2
  have b5 : w.heap.size ≠ w1.heap.size := by omega
  have hs2 : w1.heap.size < w2.heap.size := (HO2.out.form h0).elim fun g h => h.elim fun c h => by
    have h1 := h.1
    injection h1 with h1
    injection h1 with h1
    injection h1 with h1
    have := h.2.2
    omega
  clear hB2 hown2 hK2 hE2 hg2
  by_cases hl0 : l.length = 0
  · obtain rfl : l = [] := List.eq_nil_of_length_eq_zero hl0
    refine (bufReadEof w2 _ _ _ _ HB2.out _ r r h0 _ HE2.out).mono ?_
    rintro e w3 ⟨rfl, K3⟩
    have he3 := (K3.cell (p := ⟨0, 0, none⟩) (show 0 < w2.heap.size by have := HK2.out.size; omega) (fun h => h)).trans HE2.out
    have K4 := Lib.hid ((HK2.out.trans K3 (fun _ _ h => h)).drew)
    have HO4 := Lib.hid ((own_keeps HO2.out K3 (fun _ _ h => h)))
    have hm0 : mm = 0 := by have := HMM.out; simp at this; omega
    have heq := eofEq a
    clear K3
    go_wp2_with fail
    go_region
    all_goals
      go_wp2_with fail
      go_ret3
      exact prRes_of (b0 := w.heap.size) (b := true) (ys := (madeCells (Value.int .u8 0).cells (r * 1)).toList) HMM.out rfl (by rw [hm0]; rfl) (by have h := HO4.out; rw [Nat.mul_one] at h; simp [Lib.byteCells]; exact h) h0 K4.out
  · have hgA : ob A1 ≠ some w1.heap.size := fun h => by have := (HRL.out _ h).2; omega
    have hb := bufRead w2 _ _ _ _ _ _ HB2.out r r _ _ HO2.out h0 (by omega) hl b5 hgA
    rw [← HMM.out] at hb
    refine hb.mono ?_
    rintro e w3 ⟨rfl, ⟨ys, hO3⟩, K3⟩
    have he3 := (K3.cell (p := ⟨0, 0, none⟩) (show 0 < w2.heap.size by have := HK2.out.size; omega) (fun h => by
      have h' : 0 = w.heap.size ∨ 0 = w1.heap.size := h
      omega)).trans HE2.out
    have K4 := Lib.hid ((HK2.out.trans K3 (fun i hi h => by
      have h' : i = w.heap.size ∨ i = w1.heap.size := h
      have := HK2.out.size
      omega)).drew)
    have HO4 := Lib.hid hO3
    have heq := eofNil (.pointer (some a))
    clear K3 hO3 hb
    have hd : decide (l.length = 0) = false := decide_eq_false hl0
    go_wp2_with fail
    go_region
    all_goals
      go_wp2_with fail
      go_ret3
      exact prRes_of (b0 := w.heap.size) (b := false) HMM.out hd.symm rfl HO4.out h0 K4.out
end Go.Proofs.YthfoleapdmpdfaaDoor
