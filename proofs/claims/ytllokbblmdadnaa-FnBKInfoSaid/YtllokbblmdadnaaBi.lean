/- What is told of a block, put into a buffer and read again. Conditions as in the texts of the buffer and of the reader. -/
import Derived.Test.YtllokbblmdadnaaGot
import Derived.Test.YtllokbblmdadnaaRd4
import Derived.Test.YtllokbblmdadnaaEnc
import Derived.Test.YtllokbblmdadnaaClone
namespace Go.Proofs.Ytllokbblmdadnaa
open Go.RowKit

/-- The bytes of what is told of a block. -/
def biBytes (o : Bool) (x : Nat) : List UInt8 := [1, if o then 1 else 0, 2] ++ leb 4 x ++ [0]
theorem uv0 : Lib.uvarint 0 = [0] := Lib.uvarint_small (by decide)
theorem uv1 : Lib.uvarint 1 = [1] := Lib.uvarint_small (by decide)
theorem uv2 : Lib.uvarint 2 = [2] := Lib.uvarint_small (by decide)

set_option maxHeartbeats 1000000 in
theorem biEncode (w : World) (base bb : Nat) (A : Option Addr) (c : Nat) (l : List UInt8) (o : Bool) (v : Int) (x : Nat) (hx : IntKind.u32.wrap v = (x : Int)) (hv1 : -2147483648 ≤ v) (hv2 : v ≤ 2147483647) (hB : BufAt w base bb A c l) (hn : l.length < 70368744177000) :
    Calls Try.prog 97 #[.agg #[.bool o, .int .i64 v], .pointer (some ⟨bb, 0, none⟩)] w fun e w' => ∃ A' c', e = .returned (.tuple #[]) ∧ Put w w' base bb A A' c' (l ++ biBytes o x) := by
  have hlt := hB.blk.lt
  have h0 := (Keeps.refl (fun _ => False) w).alloc (.cells #[.bool o, .int .i64 v] 138)
  have hB0 := hB.keeps h0 (fun h => h) (fun _ _ h => h)
  have hW0 := Whole.new w 138 #[.bool o, .int .i64 v]
  have hrow := hB.row_lo
  have HX := Lib.hid hx
  clear hx
  go_enter Try.func97, Try.ntmps97
  go_wp2_with fail
  refine (putUv _ base bb A c l 1 hB0 (by omega) (by omega)).mono ?_
  rintro e w1 ⟨A1, c1, rfl, hP1⟩
  rw [uv1] at hP1
  have hW1 := hW0.keeps hP1.keeps (by rintro (h | h); (omega); exact absurd (hrow _ h).2 (by omega))
  have q1 : w1.cell? ⟨w.heap.size, 0, none⟩ = some (.bool o) := hW1.cell 0
  go_wp2_with fail
  refine (putBool w1 base bb A1 c1 _ o hP1.at' (by simp; omega)).mono ?_
  rintro e w2 ⟨A2, c2, rfl, hP2⟩
  have hP2' := hP1.trans hP2
  have hW2 := hW0.keeps hP2'.keeps (by rintro (h | h); (omega); exact absurd (hrow _ h).2 (by omega))
  go_wp2_with fail
  refine (putUv _ base bb A2 c2 _ 2 hP2.at' (by simp; omega) (by omega)).mono ?_
  rintro e w3 ⟨A3, c3, rfl, hP3⟩
  rw [uv2] at hP3
  have hP3' := hP2'.trans hP3
  have hW3 := hW0.keeps hP3'.keeps (by rintro (h | h); (omega); exact absurd (hrow _ h).2 (by omega))
  have q3 : w3.cell? ⟨w.heap.size, 1, none⟩ = some (.int .i64 v) := hW3.cell 1
  clear q1
  go_wp2_with fail
  refine (putInt32 w3 base bb A3 c3 _ v x HX.out hP3.at' (by simp; omega)).mono ?_
  rintro e w4 ⟨A4, c4, rfl, hP4⟩
  have hP4' := hP3'.trans hP4
  go_wp2_with fail
  refine (putUv _ base bb A4 c4 _ 0 hP4.at' (by simp [leb_length]; omega) (by omega)).mono ?_
  rintro e w5 ⟨A5, c5, rfl, hP5⟩
  rw [uv0] at hP5
  have hP5' := hP4'.trans hP5
  go_wp2_with fail
  go_end0
  refine ⟨A5, c5, rfl, ?_⟩
  have e : l ++ biBytes o x = l ++ [1] ++ [if o then 1 else 0] ++ [2] ++ leb 4 x ++ [0] := by simp [biBytes]
  rw [e]
  exact hP5'.behind h0

theorem fEnc : ∀ args w, (callFunc 97 args).run Try.prog w = .ok (.enter 97 args) w := fun args w => by kernel_rfl

set_option maxHeartbeats 400000 in
theorem biPut (w : World) (o : Bool) (v : Int) (x : Nat) (hx : IntKind.u32.wrap v = (x : Int)) (hv1 : -2147483648 ≤ v) (hv2 : v ≤ 2147483647) :
    Calls Try.prog 49 #[.bool o, .int .i64 v] w fun e w' => ∃ A c, e = .returned (.slice A (biBytes o x).length c) ∧ w'.ownsRow w.heap.size 5 1 (.slice A (biBytes o x).length c) (biBytes o x).length (Lib.byteCells (biBytes o x)) ∧ Keeps (fun _ => False) w w' ∧ ∀ k, ob A = some k → w.heap.size ≤ k := by
  have hmf : ∀ (fn : Fn) (first cap : Array Value) (w : World), (Instr.makeFunc fn first cap).run Try.prog w = .ok (.func fn first cap) w := fun _ _ _ _ => rfl
  have HX := Lib.hid hx
  clear hx
  go_enter Try.func49, Try.ntmps49
  go_wp2_with fail
  refine (encoded_any w (biBytes o x) 97 #[.agg #[.bool o, .int .i64 v]] fEnc (fun w1 hB1 hK1 => ?_)).mono ?_
  · refine (biEncode w1 w.heap.size w.heap.size none 0 [] o v x HX.out hv1 hv2 hB1 (by simp)).mono ?_
    rintro e w2 ⟨A, c, rfl, hP⟩
    exact ⟨rfl, A, c, hP⟩
  · rintro e w1 ⟨A, c, rfl, hown, hK, hA⟩
    go_wp2_with fail
    go_ret
    exact ⟨A, c, rfl, hown, hK, hA⟩



set_option maxRecDepth 100000 in
set_option maxHeartbeats 1000000 in
theorem biDecode_ok (w : World) (base rb bb ib : Nat) (D R : Option Nat) (b0 o : Bool) (v0 : Int) (l4 rest : List UInt8) (h4 : l4.length = 4) (hI : Whole w ib 138 #[.bool b0, .int .i64 v0]) (hD : D ≠ some ib)
    (hR : RdrOn w base rb bb D R (1 :: (if o then 1 else 0) :: 2 :: (l4 ++ (0 :: rest)))) :
    Calls Try.prog 98 #[.pointer (some ⟨ib, 0, none⟩), .pointer (some ⟨rb, 0, none⟩)] w fun e w' => e = .returned .nilIface ∧ (∃ R', RdrOn w' base rb bb D R' rest) ∧
      Whole w' ib 138 #[.bool o, .int .i64 (IntKind.i32.wrap (Lib.leNat l4))] ∧ Keeps (RdrX (fun i => i = ib) rb bb R) w w' := by
  have hlt := hI.lt
  go_enter Try.func98, Try.ntmps98
  go_wp2_with fail
  refine wp_loop_rounds 3 ?_
  rw [rounds_succ]
  go_wp2_with fail
  refine (uv_small w base rb bb D R 1 _ (by decide) hR).mono ?_
  rintro e w1 ⟨rfl, hG1⟩
  have hI1 := hI.keeps hG1.keeps (hR.apart hI (by decide) (by decide) (by decide))
  obtain ⟨R1, hR1, hS1⟩ := hG1.on
  go_wp2_with fail
  refine (bool_ok w1 base rb bb D R1 o _ hR1).mono ?_
  rintro e w2 ⟨rfl, hG2⟩
  have hI2 := hI1.keeps hG2.keeps (hR1.apart hI1 (by decide) (by decide) (by decide))
  have hG2' := RdrGo.trans hS1 hG1.keeps hG2
  have c20 : w2.cell? ⟨ib, 0, none⟩ = some (.bool b0) := hI2.cell 0
  have f20 := hI2.frozen 0
  go_wp2_with fail
  rw [rounds_succ]
  obtain ⟨R2, hR2, hS2⟩ := hG2'.on
  have hap2 := hR2.apart hI2 (by decide) (by decide) (by decide)
  have k3 : Keeps (fun i => i = ib) w2 (w2.setCell ⟨ib, 0, none⟩ (.bool o)) := (Keeps.refl (fun i => i = ib) w2).setCell (.inl rfl) _
  have hR3 := hR2.keeps k3 (fun h => hap2 (.inl h.symm)) (fun h => hap2 (.inr (.inl h.symm))) (fun i hi h => hap2 (.inr (.inr (h ▸ hi)))) (fun i hi h => hD (h ▸ hi))
  have hI3 := hI2.put 0 (.bool o)
  go_wp2_with fail
  refine (uv_small _ base rb bb D R2 2 _ (by decide) hR3).mono ?_
  rintro e w4 ⟨rfl, hG4⟩
  have hI4 := hI3.keeps hG4.keeps (hR3.apart hI3 (by decide) (by decide) (by decide))
  obtain ⟨R4, hR4, hS4⟩ := hG4.on
  go_wp2_with fail
  refine (int32_ok w4 base rb bb D R4 l4 _ h4 hR4).mono ?_
  generalize hval : IntKind.i32.wrap (Lib.leNat l4) = val
  have hvb : -2147483648 ≤ val ∧ val ≤ 2147483647 := by rw [← hval, IntKind.wrap_i32]; omega
  obtain ⟨hvb1, hvb2⟩ := hvb
  have HVAL := Lib.hid hval
  clear hval
  rintro e w5 ⟨rfl, hG5⟩
  have hI5 := hI4.keeps hG5.keeps (hR4.apart hI4 (by decide) (by decide) (by decide))
  have hG5' := RdrGo.trans hS4 hG4.keeps hG5
  have c51 : w5.cell? ⟨ib, 1, none⟩ = some (.int .i64 v0) := hI5.cell 1
  have f51 := hI5.frozen 1
  go_wp2_with fail
  rw [rounds_succ]
  obtain ⟨R5, hR5, hS5⟩ := hG5'.on
  have hap5 := hR5.apart hI5 (by decide) (by decide) (by decide)
  have k6 : Keeps (fun i => i = ib) w5 (w5.setCell ⟨ib, 1, none⟩ (.int .i64 val)) := (Keeps.refl (fun i => i = ib) w5).setCell (.inl rfl) _
  have hR6 := hR5.keeps k6 (fun h => hap5 (.inl h.symm)) (fun h => hap5 (.inr (.inl h.symm))) (fun i hi h => hap5 (.inr (.inr (h ▸ hi)))) (fun i hi h => hD (h ▸ hi))
  have hI6 := hI5.put 1 (.int .i64 val)
  go_wp2_with fail
  refine (uv_small _ base rb bb D R5 0 _ (by decide) hR6).mono ?_
  rintro e w7 ⟨rfl, hG7⟩
  have hI7 := hI6.keeps hG7.keeps (hR6.apart hI6 (by decide) (by decide) (by decide))
  obtain ⟨R7, hR7, hS7⟩ := hG7.on
  go_wp2_with fail
  go_ret
  refine ⟨rfl, ⟨R7, hR7⟩, by rw [HVAL.out]; exact hI7, ?_⟩
  have s0 : Keeps (RdrX (fun i => i = ib) rb bb R) w w2 := RdrX.step (Keeps.refl _ _) (.inl rfl) hG2'.keeps
  have s1 := RdrX.store s0 k3
  have s2 := RdrX.step s1 hS2 hG5'.keeps
  have s3 := RdrX.store s2 k6
  exact RdrX.step s3 (fresh_trans hS2 hS5 s1.size) hG7.keeps

set_option maxRecDepth 100000 in
set_option maxHeartbeats 1000000 in
theorem biDecode_e0 (w : World) (base rb bb ib : Nat) (D R : Option Nat) (b0 : Bool) (v0 : Int) (hI : Whole w ib 138 #[.bool b0, .int .i64 v0]) (_hD : D ≠ some ib)
    (hR : RdrOn w base rb bb D R ([])) :
    Calls Try.prog 98 #[.pointer (some ⟨ib, 0, none⟩), .pointer (some ⟨rb, 0, none⟩)] w fun e w' => (∃ v, e = .returned v ∧ IsErr v) ∧ Keeps (RdrX (fun i => i = ib) rb bb R) w w' := by
  have hlt := hI.lt
  go_enter Try.func98, Try.ntmps98
  go_wp2_with fail
  refine wp_loop_rounds 1 ?_
  rw [rounds_succ]
  go_wp2_with fail
  refine (uv_none w base rb bb D R hR).mono ?_
  rintro e w1 ⟨v, rfl, ⟨a, rfl⟩, m, hG⟩
  go_wp2_with (go_at_call 108; go_in)
  go_ret
  refine ⟨⟨_, rfl, ⟨_, rfl⟩⟩, ?_⟩
  exact (RdrX.step (Keeps.refl _ _) (.inl rfl) hG.keeps).trans ((Keeps.refl (fun _ => False) _).alloc _) (fun _ _ h => h.elim)

set_option maxRecDepth 100000 in
set_option maxHeartbeats 1000000 in
theorem biDecode_e1 (w : World) (base rb bb ib : Nat) (D R : Option Nat) (b0 : Bool) (v0 : Int) (hI : Whole w ib 138 #[.bool b0, .int .i64 v0]) (_hD : D ≠ some ib)
    (hR : RdrOn w base rb bb D R ([1])) :
    Calls Try.prog 98 #[.pointer (some ⟨ib, 0, none⟩), .pointer (some ⟨rb, 0, none⟩)] w fun e w' => (∃ v, e = .returned v ∧ IsErr v) ∧ Keeps (RdrX (fun i => i = ib) rb bb R) w w' := by
  have hlt := hI.lt
  go_enter Try.func98, Try.ntmps98
  go_wp2_with fail
  refine wp_loop_rounds 1 ?_
  rw [rounds_succ]
  go_wp2_with fail
  refine (uv_small w base rb bb D R 1 _ (by decide) hR).mono ?_
  rintro e w1 ⟨rfl, hG1⟩
  have hI1 := hI.keeps hG1.keeps (hR.apart hI (by decide) (by decide) (by decide))
  obtain ⟨R1, hR1, hS1⟩ := hG1.on
  go_wp2_with fail
  refine (bool_none w1 base rb bb D R1 hR1).mono ?_
  rintro e w2 ⟨v, rfl, ⟨a, rfl⟩, m, hG⟩
  go_wp2_with (go_at_call 108; go_in)
  go_ret
  refine ⟨⟨_, rfl, ⟨_, rfl⟩⟩, ?_⟩
  exact (RdrX.step (RdrX.step (Keeps.refl _ _) (.inl rfl) hG1.keeps) hS1 hG.keeps).trans ((Keeps.refl (fun _ => False) _).alloc _) (fun _ _ h => h.elim)

set_option maxRecDepth 100000 in
set_option maxHeartbeats 1000000 in
theorem biDecode_e2 (w : World) (base rb bb ib : Nat) (D R : Option Nat) (b0 o : Bool) (v0 : Int) (hI : Whole w ib 138 #[.bool b0, .int .i64 v0]) (hD : D ≠ some ib)
    (hR : RdrOn w base rb bb D R ([1, if o then 1 else 0])) :
    Calls Try.prog 98 #[.pointer (some ⟨ib, 0, none⟩), .pointer (some ⟨rb, 0, none⟩)] w fun e w' => (∃ v, e = .returned v ∧ IsErr v) ∧ Keeps (RdrX (fun i => i = ib) rb bb R) w w' := by
  have hlt := hI.lt
  go_enter Try.func98, Try.ntmps98
  go_wp2_with fail
  refine wp_loop_rounds 2 ?_
  rw [rounds_succ]
  go_wp2_with fail
  refine (uv_small w base rb bb D R 1 _ (by decide) hR).mono ?_
  rintro e w1 ⟨rfl, hG1⟩
  have hI1 := hI.keeps hG1.keeps (hR.apart hI (by decide) (by decide) (by decide))
  obtain ⟨R1, hR1, hS1⟩ := hG1.on
  go_wp2_with fail
  refine (bool_ok w1 base rb bb D R1 o _ hR1).mono ?_
  rintro e w2 ⟨rfl, hG2⟩
  have hI2 := hI1.keeps hG2.keeps (hR1.apart hI1 (by decide) (by decide) (by decide))
  have hG2' := RdrGo.trans hS1 hG1.keeps hG2
  have c20 : w2.cell? ⟨ib, 0, none⟩ = some (.bool b0) := hI2.cell 0
  have f20 := hI2.frozen 0
  go_wp2_with fail
  rw [rounds_succ]
  obtain ⟨R2, hR2, hS2⟩ := hG2'.on
  have hap2 := hR2.apart hI2 (by decide) (by decide) (by decide)
  have k3 : Keeps (fun i => i = ib) w2 (w2.setCell ⟨ib, 0, none⟩ (.bool o)) := (Keeps.refl (fun i => i = ib) w2).setCell (.inl rfl) _
  have hR3 := hR2.keeps k3 (fun h => hap2 (.inl h.symm)) (fun h => hap2 (.inr (.inl h.symm))) (fun i hi h => hap2 (.inr (.inr (h ▸ hi)))) (fun i hi h => hD (h ▸ hi))
  have hI3 := hI2.put 0 (.bool o)
  go_wp2_with fail
  refine (uv_none _ base rb bb D R2 hR3).mono ?_
  rintro e w4 ⟨v, rfl, ⟨a, rfl⟩, m, hG⟩
  go_wp2_with (go_at_call 108; go_in)
  go_ret
  refine ⟨⟨_, rfl, ⟨_, rfl⟩⟩, ?_⟩
  have s0 : Keeps (RdrX (fun i => i = ib) rb bb R) w w2 := RdrX.step (Keeps.refl _ _) (.inl rfl) hG2'.keeps
  exact (RdrX.step (RdrX.store s0 k3) hS2 hG.keeps).trans ((Keeps.refl (fun _ => False) _).alloc _) (fun _ _ h => h.elim)

set_option maxRecDepth 100000 in
set_option maxHeartbeats 1000000 in
theorem biDecode_e3 (w : World) (base rb bb ib : Nat) (D R : Option Nat) (b0 o : Bool) (v0 : Int) (l : List UInt8) (hl : l.length < 4) (hI : Whole w ib 138 #[.bool b0, .int .i64 v0]) (hD : D ≠ some ib)
    (hR : RdrOn w base rb bb D R (1 :: (if o then 1 else 0) :: 2 :: l)) :
    Calls Try.prog 98 #[.pointer (some ⟨ib, 0, none⟩), .pointer (some ⟨rb, 0, none⟩)] w fun e w' => (∃ v, e = .returned v ∧ IsErr v) ∧ Keeps (RdrX (fun i => i = ib) rb bb R) w w' := by
  have hlt := hI.lt
  go_enter Try.func98, Try.ntmps98
  go_wp2_with fail
  refine wp_loop_rounds 2 ?_
  rw [rounds_succ]
  go_wp2_with fail
  refine (uv_small w base rb bb D R 1 _ (by decide) hR).mono ?_
  rintro e w1 ⟨rfl, hG1⟩
  have hI1 := hI.keeps hG1.keeps (hR.apart hI (by decide) (by decide) (by decide))
  obtain ⟨R1, hR1, hS1⟩ := hG1.on
  go_wp2_with fail
  refine (bool_ok w1 base rb bb D R1 o _ hR1).mono ?_
  rintro e w2 ⟨rfl, hG2⟩
  have hI2 := hI1.keeps hG2.keeps (hR1.apart hI1 (by decide) (by decide) (by decide))
  have hG2' := RdrGo.trans hS1 hG1.keeps hG2
  have c20 : w2.cell? ⟨ib, 0, none⟩ = some (.bool b0) := hI2.cell 0
  have f20 := hI2.frozen 0
  go_wp2_with fail
  rw [rounds_succ]
  obtain ⟨R2, hR2, hS2⟩ := hG2'.on
  have hap2 := hR2.apart hI2 (by decide) (by decide) (by decide)
  have k3 : Keeps (fun i => i = ib) w2 (w2.setCell ⟨ib, 0, none⟩ (.bool o)) := (Keeps.refl (fun i => i = ib) w2).setCell (.inl rfl) _
  have hR3 := hR2.keeps k3 (fun h => hap2 (.inl h.symm)) (fun h => hap2 (.inr (.inl h.symm))) (fun i hi h => hap2 (.inr (.inr (h ▸ hi)))) (fun i hi h => hD (h ▸ hi))
  have hI3 := hI2.put 0 (.bool o)
  go_wp2_with fail
  refine (uv_small _ base rb bb D R2 2 _ (by decide) hR3).mono ?_
  rintro e w4 ⟨rfl, hG4⟩
  have hI4 := hI3.keeps hG4.keeps (hR3.apart hI3 (by decide) (by decide) (by decide))
  obtain ⟨R4, hR4, hS4⟩ := hG4.on
  go_wp2_with fail
  refine (int32_err w4 base rb bb D R4 l hR4 hl).mono ?_
  rintro e w5 ⟨v, rfl, ⟨a, rfl⟩, hG⟩
  go_wp2_with (go_at_call 108; go_in)
  go_ret
  refine ⟨⟨_, rfl, ⟨_, rfl⟩⟩, ?_⟩
  have s0 : Keeps (RdrX (fun i => i = ib) rb bb R) w w2 := RdrX.step (Keeps.refl _ _) (.inl rfl) hG2'.keeps
  exact (RdrX.step (RdrX.store s0 k3) hS2 (RdrGo.trans hS4 hG4.keeps hG).keeps).trans ((Keeps.refl (fun _ => False) _).alloc _) (fun _ _ h => h.elim)

set_option maxRecDepth 100000 in
set_option maxHeartbeats 1000000 in
theorem biDecode_e7 (w : World) (base rb bb ib : Nat) (D R : Option Nat) (b0 o : Bool) (v0 : Int) (l4 : List UInt8) (h4 : l4.length = 4) (hI : Whole w ib 138 #[.bool b0, .int .i64 v0]) (hD : D ≠ some ib)
    (hR : RdrOn w base rb bb D R (1 :: (if o then 1 else 0) :: 2 :: (l4 ++ []))) :
    Calls Try.prog 98 #[.pointer (some ⟨ib, 0, none⟩), .pointer (some ⟨rb, 0, none⟩)] w fun e w' => (∃ v, e = .returned v ∧ IsErr v) ∧ Keeps (RdrX (fun i => i = ib) rb bb R) w w' := by
  have hlt := hI.lt
  go_enter Try.func98, Try.ntmps98
  go_wp2_with fail
  refine wp_loop_rounds 3 ?_
  rw [rounds_succ]
  go_wp2_with fail
  refine (uv_small w base rb bb D R 1 _ (by decide) hR).mono ?_
  rintro e w1 ⟨rfl, hG1⟩
  have hI1 := hI.keeps hG1.keeps (hR.apart hI (by decide) (by decide) (by decide))
  obtain ⟨R1, hR1, hS1⟩ := hG1.on
  go_wp2_with fail
  refine (bool_ok w1 base rb bb D R1 o _ hR1).mono ?_
  rintro e w2 ⟨rfl, hG2⟩
  have hI2 := hI1.keeps hG2.keeps (hR1.apart hI1 (by decide) (by decide) (by decide))
  have hG2' := RdrGo.trans hS1 hG1.keeps hG2
  have c20 : w2.cell? ⟨ib, 0, none⟩ = some (.bool b0) := hI2.cell 0
  have f20 := hI2.frozen 0
  go_wp2_with fail
  rw [rounds_succ]
  obtain ⟨R2, hR2, hS2⟩ := hG2'.on
  have hap2 := hR2.apart hI2 (by decide) (by decide) (by decide)
  have k3 : Keeps (fun i => i = ib) w2 (w2.setCell ⟨ib, 0, none⟩ (.bool o)) := (Keeps.refl (fun i => i = ib) w2).setCell (.inl rfl) _
  have hR3 := hR2.keeps k3 (fun h => hap2 (.inl h.symm)) (fun h => hap2 (.inr (.inl h.symm))) (fun i hi h => hap2 (.inr (.inr (h ▸ hi)))) (fun i hi h => hD (h ▸ hi))
  have hI3 := hI2.put 0 (.bool o)
  go_wp2_with fail
  refine (uv_small _ base rb bb D R2 2 _ (by decide) hR3).mono ?_
  rintro e w4 ⟨rfl, hG4⟩
  have hI4 := hI3.keeps hG4.keeps (hR3.apart hI3 (by decide) (by decide) (by decide))
  obtain ⟨R4, hR4, hS4⟩ := hG4.on
  go_wp2_with fail
  refine (int32_ok w4 base rb bb D R4 l4 [] h4 hR4).mono ?_
  generalize hval : IntKind.i32.wrap (Lib.leNat l4) = val
  have hvb : -2147483648 ≤ val ∧ val ≤ 2147483647 := by rw [← hval, IntKind.wrap_i32]; omega
  obtain ⟨hvb1, hvb2⟩ := hvb
  have HVAL := Lib.hid hval
  clear hval
  rintro e w5 ⟨rfl, hG5⟩
  have hI5 := hI4.keeps hG5.keeps (hR4.apart hI4 (by decide) (by decide) (by decide))
  have hG5' := RdrGo.trans hS4 hG4.keeps hG5
  have c51 : w5.cell? ⟨ib, 1, none⟩ = some (.int .i64 v0) := hI5.cell 1
  have f51 := hI5.frozen 1
  go_wp2_with fail
  rw [rounds_succ]
  obtain ⟨R5, hR5, hS5⟩ := hG5'.on
  have hap5 := hR5.apart hI5 (by decide) (by decide) (by decide)
  have k6 : Keeps (fun i => i = ib) w5 (w5.setCell ⟨ib, 1, none⟩ (.int .i64 val)) := (Keeps.refl (fun i => i = ib) w5).setCell (.inl rfl) _
  have hR6 := hR5.keeps k6 (fun h => hap5 (.inl h.symm)) (fun h => hap5 (.inr (.inl h.symm))) (fun i hi h => hap5 (.inr (.inr (h ▸ hi)))) (fun i hi h => hD (h ▸ hi))
  have hI6 := hI5.put 1 (.int .i64 val)
  go_wp2_with fail
  refine (uv_none _ base rb bb D R5 hR6).mono ?_
  rintro e w7 ⟨v, rfl, ⟨a, rfl⟩, m, hG⟩
  go_wp2_with (go_at_call 108; go_in)
  go_ret
  refine ⟨⟨_, rfl, ⟨_, rfl⟩⟩, ?_⟩
  have s0 : Keeps (RdrX (fun i => i = ib) rb bb R) w w2 := RdrX.step (Keeps.refl _ _) (.inl rfl) hG2'.keeps
  have s1 := RdrX.store s0 k3
  have s2 := RdrX.step s1 hS2 hG5'.keeps
  have s3 := RdrX.store s2 k6
  exact (RdrX.step s3 (fresh_trans hS2 hS5 s1.size) hG.keeps).trans ((Keeps.refl (fun _ => False) _).alloc _) (fun _ _ h => h.elim)
end Go.Proofs.Ytllokbblmdadnaa
