/- Prim.put of truth values, wide numbers, strings and raw bytes. Conditions: the buffer is not too long. -/
import Derived.Test.YthfoleapdmpdfaaDoorQa
import Derived.Test.YthfoleapdmpdfaaDoorStr
import Derived.Deep.RegionWith
import Derived.Deep.AppendLies
import Derived.StillTailTactics
namespace Go.Proofs.YthfoleapdmpdfaaDoor
open Go.RowKit Go.Lib
set_option linter.unusedVariables false
theorem puts16 {cs : Array Value} {a b : List Value} (h : cs.size = 16) (ha : a.length = 8) (hb : b.length = 8) : (puts (puts cs 8 b) 0 a).toList = a ++ b := by
  rw [puts_list _ _ _ (by rw [puts_size]; omega), puts_list _ _ _ (by omega), ha, hb]
  have h1 : cs.toList.drop (8 + 8) = [] := List.drop_eq_nil_of_le (by simp; omega)
  rw [h1, List.append_nil, List.take_zero, List.nil_append, Nat.zero_add, List.drop_left' (by rw [List.length_take]; simp; omega)]
set_option maxRecDepth 100000 in
set_option maxHeartbeats 2000000 in
theorem binPut128 (w : World) (g : Nat) (t : TypeId) (cs : Array Value) (x y : Nat) (hW : Whole w g t cs) (hs : cs.size = 16) : Calls Tryd.prog 91 #[.slice (some ⟨g, 0, none⟩) 16 16, .agg #[.int .u64 (x : Int), .int .u64 (y : Int)]] w fun e w' =>
    e = .returned (.tuple #[]) ∧ Whole w' g t (puts (puts cs 8 (Lib.byteCells (leb 8 y))) 0 (Lib.byteCells (leb 8 x))) ∧ Keeps (fun k => k = g) w w' := by
  have hlt := hW.lt
  have hv := Whole.new w 116 #[.int .u64 (x : Int), .int .u64 (y : Int)]
  have K0 := (Keeps.refl (fun k => k = g) w).alloc (.cells #[.int .u64 (x : Int), .int .u64 (y : Int)] 116)
  have hWa := (hW.alloc (.cells #[.int .u64 (x : Int), .int .u64 (y : Int)] 116)).keeps ((Keeps.refl (fun _ => False) _).drew) (fun h => h)
  go_enter Tryd.func91, Tryd.ntmps91
  go_wp2_with fail
  have p1 : (w.alloc (.cells #[.int .u64 (x : Int), .int .u64 (y : Int)] 116)).cell? ⟨w.heap.size, 1, none⟩ = some (.int .u64 (y : Int)) := hv.cell 1
  generalize w.alloc (.cells #[.int .u64 (x : Int), .int .u64 (y : Int)] 116) = wa at *
  go_still_tail 5, (by kernel_rfl)
  change wpList _ _ _ _ _ wa.drew
  go_wp2_with fail
  refine (lePut64 _ g 8 8 8 t cs y hWa (by omega) (by omega)).mono ?_
  rintro e w1 ⟨rfl, hW1, K1⟩
  have hv1 := (hv.keeps ((Keeps.refl (fun _ => False) _).drew) (fun h => h)).keeps K1 (by show ¬ w.heap.size = g; omega)
  have k1 := K0.drew.trans K1 (fun _ _ h => h)
  have q0 : w1.cell? ⟨w.heap.size, 0, none⟩ = some (.int .u64 (x : Int)) := hv1.cell 0
  have hW1d := hW1.keeps ((Keeps.refl (fun _ => False) _).drew) (fun h => h)
  go_wp2_with fail
  go_still_tail 5, (by kernel_rfl)
  change wpList _ _ _ _ _ w1.drew
  go_wp2_with fail
  refine (lePut64 _ g 0 8 16 t _ x hW1d (by omega) (by rw [puts_size]; omega)).mono ?_
  rintro e w2 ⟨rfl, hW2, K2⟩
  have k2 := k1.drew.trans K2 (fun _ _ h => h)
  go_wp2_with fail
  go_end0
  exact ⟨rfl, hW2, k2⟩
set_option maxRecDepth 100000 in
set_option maxHeartbeats 2000000 in
theorem put128 (w : World) (base bb : Nat) (A : Option Addr) (c : Nat) (l : List UInt8) (hB : BufAt w base bb A c l) (hn : l.length < 70368744177664) (x y : Nat) : Calls Tryd.prog 63 #[.pointer (some ⟨bb, 0, none⟩), .agg #[.int .u64 (x : Int), .int .u64 (y : Int)]] w (PutOk w base bb A l (leb 8 x ++ leb 8 y)) := by
  obtain ⟨i0, hi0, hz0, hz1, hz2⟩ := info_parts infoU8
  have hlt := hB.blk.lt
  have hv := (Whole.new w 116 #[.int .u64 (x : Int), .int .u64 (y : Int)]).alloc (.cells #[.int .u8 0, .int .u8 0, .int .u8 0, .int .u8 0, .int .u8 0, .int .u8 0, .int .u8 0, .int .u8 0, .int .u8 0, .int .u8 0, .int .u8 0, .int .u8 0, .int .u8 0, .int .u8 0, .int .u8 0, .int .u8 0] 149)
  have hz := Whole.new (w.alloc (.cells #[.int .u64 (x : Int), .int .u64 (y : Int)] 116)) 149 #[.int .u8 0, .int .u8 0, .int .u8 0, .int .u8 0, .int .u8 0, .int .u8 0, .int .u8 0, .int .u8 0, .int .u8 0, .int .u8 0, .int .u8 0, .int .u8 0, .int .u8 0, .int .u8 0, .int .u8 0, .int .u8 0]
  rw [World.size_alloc] at hz
  have K0 := ((Keeps.refl (fun _ => False) w).alloc (.cells #[.int .u64 (x : Int), .int .u64 (y : Int)] 116)).alloc (.cells #[.int .u8 0, .int .u8 0, .int .u8 0, .int .u8 0, .int .u8 0, .int .u8 0, .int .u8 0, .int .u8 0, .int .u8 0, .int .u8 0, .int .u8 0, .int .u8 0, .int .u8 0, .int .u8 0, .int .u8 0, .int .u8 0] 149)
  have p0 : ((w.alloc (.cells #[.int .u64 (x : Int), .int .u64 (y : Int)] 116)).alloc (.cells #[.int .u8 0, .int .u8 0, .int .u8 0, .int .u8 0, .int .u8 0, .int .u8 0, .int .u8 0, .int .u8 0, .int .u8 0, .int .u8 0, .int .u8 0, .int .u8 0, .int .u8 0, .int .u8 0, .int .u8 0, .int .u8 0] 149)).cell? ⟨w.heap.size, 0, none⟩ = some (.int .u64 (x : Int)) := hv.cell 0
  have p1 : ((w.alloc (.cells #[.int .u64 (x : Int), .int .u64 (y : Int)] 116)).alloc (.cells #[.int .u8 0, .int .u8 0, .int .u8 0, .int .u8 0, .int .u8 0, .int .u8 0, .int .u8 0, .int .u8 0, .int .u8 0, .int .u8 0, .int .u8 0, .int .u8 0, .int .u8 0, .int .u8 0, .int .u8 0, .int .u8 0] 149)).cell? ⟨w.heap.size, 1, none⟩ = some (.int .u64 (y : Int)) := hv.cell 1
  go_enter Tryd.func63, Tryd.ntmps63
  go_wp2_with fail
  have hzd := hz.keeps ((Keeps.refl (fun _ => False) _).drew) (fun h => h)
  have K0d := K0.drew
  clear hz
  generalize (w.alloc (.cells #[.int .u64 (x : Int), .int .u64 (y : Int)] 116)).alloc (.cells #[.int .u8 0, .int .u8 0, .int .u8 0, .int .u8 0, .int .u8 0, .int .u8 0, .int .u8 0, .int .u8 0, .int .u8 0, .int .u8 0, .int .u8 0, .int .u8 0, .int .u8 0, .int .u8 0, .int .u8 0, .int .u8 0] 149) = wa at *
  go_still_tail 2, (by kernel_rfl)
  change wpList _ _ _ _ _ wa.drew
  go_wp2_with fail
  refine (binPut128 _ (w.heap.size + 1) 149 _ x y hzd rfl).mono ?_
  rintro e w1 ⟨rfl, hW, hK⟩
  have h0 : Keeps (fun _ => False) w w1 := K0d.trans hK (fun i hi h => by omega)
  have h0d := h0.drew
  have hB1 := hB.keeps h0d (fun h => h) (fun _ _ h => h)
  have hln : (leb 8 x ++ leb 8 y).length = 16 := by simp [leb_length]
  have hlist : (puts (puts #[.int .u8 0, .int .u8 0, .int .u8 0, .int .u8 0, .int .u8 0, .int .u8 0, .int .u8 0, .int .u8 0, .int .u8 0, .int .u8 0, .int .u8 0, .int .u8 0, .int .u8 0, .int .u8 0, .int .u8 0, .int .u8 0] 8 (Lib.byteCells (leb 8 y))) 0 (Lib.byteCells (leb 8 x))).toList = Lib.byteCells (leb 8 x ++ leb 8 y) := by
    rw [puts16 rfl (by simp [Lib.byteCells_length, leb_length]) (by simp [Lib.byteCells_length, leb_length]), Lib.byteCells_append]
  have hR : Rd w1.drew 1 (some ⟨w.heap.size + 1, 0, none⟩) 16 (Lib.byteCells (leb 8 x ++ leb 8 y)) := Rd.whole (hW.keeps ((Keeps.refl (fun _ => False) _).drew) (fun h => h)) hlist (by rw [Lib.byteCells_length]; exact hln)
  have hc : w1.cell? ⟨bb, 0, none⟩ = some (.slice A l.length c) := hB1.blk.cell 0
  obtain ⟨n1, n2, n3⟩ := put_asks hB h0d hn
  have o1 := byteCells_one (leb 8 x ++ leb 8 y)
  clear hW hK p0 p1
  go_wp2_with fail
  go_region_law (
    (refine step_append_rd _ rfl (.tmp 13) (.tmp 14) 22 rfl base 5 i0 (.int .u8 0) 1 1 Tryd.underlying22 hi0 hz0 hz1 hz2 rfl Nat.one_pos A c l.length (Lib.byteCells l) rfl hB1.own (some ⟨w.heap.size + 1, 0, none⟩) 16 16 (Lib.byteCells (leb 8 x ++ leb 8 y)) rfl hR o1 n1 n2 n3 ?_
     intro A' c' w2 hown hg hat
     have hblk := hB1.blk.grown hg (Ne.symm hB1.far)
     have hc1 : w2.cell? ⟨bb, 0, none⟩ = some (.slice A l.length c) := hblk.cell 0
     have hf1 : w2.frozen? ⟨bb, 0, none⟩ = false := hblk.frozen 0))
  go_wp2_with fail
  go_end0
  exact ⟨A', c', rfl, put_of (d := leb 8 x ++ leb 8 y) hln hB h0d hown hg hat⟩
set_option maxRecDepth 100000 in
set_option maxHeartbeats 2000000 in
theorem pt2 (w : World) (base bb : Nat) (A : Option Addr) (c : Nat) (l : List UInt8) (hB : BufAt w base bb A c l) (hn : l.length ≤ 1000000) (u : Nat) (v : Int) (S : Option Addr) (n cs : Nat) :
    Calls Tryd.prog 30 #[.agg #[.int .i64 2, .int .u64 (u : Int), .int .u64 v, .slice S n cs], .pointer (some ⟨bb, 0, none⟩)] w (PutOk w base bb A l ([if u = 0 then 0 else 1])) := by
  have K0 := (Keeps.refl (fun _ => False) w).alloc (.cells #[.int .i64 2, .int .u64 (u : Int), .int .u64 v, .slice S n cs] 28)
  by_cases h0 : u = 0
  · have HP := Lib.hid (putByte _ base bb A c l 0 0 rfl (hB.keeps K0 (fun h => h) (fun _ _ h => h)) (by omega))
    have e0 : ((u : Int) != 0) = false := by simp [h0]
    rw [if_pos h0]
    clear hB h0
    go_enter Tryd.func30, Tryd.ntmps30
    go_wp2_with (first | (go_at_call 49; go_in))
    refine HP.out.mono ?_
    rintro e w1 ⟨A1, c1, rfl, h1⟩
    go_wp2_with fail
    go_end0
    go_wp2_with fail
    go_end0
    exact ⟨A1, c1, rfl, h1.behind K0⟩
  · have HP := Lib.hid (putByte _ base bb A c l 1 1 rfl (hB.keeps K0 (fun h => h) (fun _ _ h => h)) (by omega))
    have e0 : ((u : Int) != 0) = true := by simp; omega
    rw [if_neg h0]
    clear hB h0
    go_enter Tryd.func30, Tryd.ntmps30
    go_wp2_with (first | (go_at_call 49; go_in))
    refine HP.out.mono ?_
    rintro e w1 ⟨A1, c1, rfl, h1⟩
    go_wp2_with fail
    go_end0
    go_wp2_with fail
    go_end0
    exact ⟨A1, c1, rfl, h1.behind K0⟩
set_option maxRecDepth 100000 in
set_option maxHeartbeats 2000000 in
theorem pt14 (w : World) (base bb : Nat) (A : Option Addr) (c : Nat) (l : List UInt8) (hB : BufAt w base bb A c l) (hn : l.length ≤ 1000000) (u : Nat) (v : Nat) (S : Option Addr) (n cs : Nat) :
    Calls Tryd.prog 30 #[.agg #[.int .i64 14, .int .u64 (u : Int), .int .u64 (v : Int), .slice S n cs], .pointer (some ⟨bb, 0, none⟩)] w (PutOk w base bb A l (leb 8 u ++ leb 8 v)) := by
  have K0 := (Keeps.refl (fun _ => False) w).alloc (.cells #[.int .i64 14, .int .u64 (u : Int), .int .u64 (v : Int), .slice S n cs] 28)
  have HP := Lib.hid (put128 _ base bb A c l (hB.keeps K0 (fun h => h) (fun _ _ h => h)) (by omega) u v)
  clear hB
  go_enter Tryd.func30, Tryd.ntmps30
  go_wp2_with (fail)
  refine HP.out.mono ?_
  rintro e w1 ⟨A1, c1, rfl, h1⟩
  go_wp2_with fail
  go_end0
  exact ⟨A1, c1, rfl, h1.behind K0⟩
set_option maxRecDepth 100000 in
set_option maxHeartbeats 2000000 in
theorem pt13 (w : World) (base bb : Nat) (A : Option Addr) (c : Nat) (l : List UInt8) (hB : BufAt w base bb A c l) (hn : l.length ≤ 1000000) (u : Nat) (v : Nat) (S : Option Addr) (n cs : Nat) :
    Calls Tryd.prog 30 #[.agg #[.int .i64 13, .int .u64 (u : Int), .int .u64 (v : Int), .slice S n cs], .pointer (some ⟨bb, 0, none⟩)] w (PutOk w base bb A l (leb 8 u ++ leb 8 v)) := by
  have K0 := (Keeps.refl (fun _ => False) w).alloc (.cells #[.int .i64 13, .int .u64 (u : Int), .int .u64 (v : Int), .slice S n cs] 28)
  have K1 := K0.alloc (.cells #[.int .u64 (u : Int), .int .u64 (v : Int)] 114)
  have HP := Lib.hid (put128 _ base bb A c l (hB.keeps K1 (fun h => h) (fun _ _ h => h)) (by omega) u v)
  clear hB
  go_enter Tryd.func30, Tryd.ntmps30
  go_wp2_with (first | (go_at_call 62; go_in))
  refine HP.out.mono ?_
  rintro e w1 ⟨A1, c1, rfl, h1⟩
  go_wp2_with fail
  go_end0
  go_wp2_with fail
  go_end0
  exact ⟨A1, c1, rfl, h1.behind K1⟩
set_option maxRecDepth 100000 in
set_option maxHeartbeats 2000000 in
theorem pt18 (w : World) (base bb : Nat) (A : Option Addr) (c : Nat) (l : List UInt8) (hB : BufAt w base bb A c l) (hn : l.length ≤ 1000000) (u : Nat) (v : Int) (S : Option Addr) (n cs : Nat) (s0 : List UInt8) (hs0 : s0.length ≤ 1000) (hS : Rd w 1 S n (Lib.byteCells s0)) :
    Calls Tryd.prog 30 #[.agg #[.int .i64 18, .int .u64 (u : Int), .int .u64 v, .slice S n cs], .pointer (some ⟨bb, 0, none⟩)] w (PutOk w base bb A l (Lib.uvarint s0.length ++ s0)) := by
  have K0 := (Keeps.refl (fun _ => False) w).alloc (.cells #[.int .i64 18, .int .u64 (u : Int), .int .u64 v, .slice S n cs] 28)
  have hcv := run_str_rd (P := Tryd.prog) (c := cs) Tryd.underlying22 Tryd.underlying5 Tryd.underlying9 (hS.keeps K0 (fun _ _ h => h))
  have hsz : (⟨s0.toArray⟩ : ByteArray).size = s0.length := by rw [← sl_length]; simp [sl]
  have hsb : strB ⟨s0.toArray⟩ = Lib.uvarint s0.length ++ s0 := by rw [strB, hsz]; simp [sl]
  rw [← hsb]
  have HP := Lib.hid (putString _ base bb A c l ⟨s0.toArray⟩ (hB.keeps K0 (fun h => h) (fun _ _ h => h)) hn (by rw [hsz]; omega))
  clear hB hS hsz hsb
  go_enter Tryd.func30, Tryd.ntmps30
  go_wp2_with (fail)
  refine HP.out.mono ?_
  rintro e w1 ⟨A1, c1, rfl, h1⟩
  go_wp2_with fail
  go_end0
  exact ⟨A1, c1, rfl, h1.behind K0⟩
set_option maxRecDepth 100000 in
set_option maxHeartbeats 2000000 in
theorem pt19 (w : World) (base bb : Nat) (A : Option Addr) (c : Nat) (l : List UInt8) (hB : BufAt w base bb A c l) (hn : l.length ≤ 1000000) (u : Nat) (v : Int) (S : Option Addr) (n cs : Nat) (s0 : List UInt8) (hs0 : s0.length ≤ 1000) (hnn : n = s0.length) (hS : Rd w 1 S n (Lib.byteCells s0)) :
    Calls Tryd.prog 30 #[.agg #[.int .i64 19, .int .u64 (u : Int), .int .u64 v, .slice S n cs], .pointer (some ⟨bb, 0, none⟩)] w (PutOk w base bb A l (s0)) := by
  have K0 := (Keeps.refl (fun _ => False) w).alloc (.cells #[.int .i64 19, .int .u64 (u : Int), .int .u64 v, .slice S n cs] 28)
  subst hnn
  have HP := Lib.hid (putRaw _ base bb A c l S cs s0 (hB.keeps K0 (fun h => h) (fun _ _ h => h)) (hS.keeps K0 (fun _ _ h => h)) (by omega))
  clear hB hS
  go_enter Tryd.func30, Tryd.ntmps30
  go_wp2_with (fail)
  refine HP.out.mono ?_
  rintro e w1 ⟨A1, c1, rfl, h1⟩
  go_wp2_with fail
  go_end0
  exact ⟨A1, c1, rfl, h1.behind K0⟩
end Go.Proofs.YthfoleapdmpdfaaDoor
