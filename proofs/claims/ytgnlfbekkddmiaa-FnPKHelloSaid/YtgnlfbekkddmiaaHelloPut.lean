/- The client's hello put into a buffer. Conditions: short strings, numbers of 31 bits. -/
import Derived.Test.YtgnlfbekkddmiaaStr
import Derived.Test.YtgnlfbekkddmiaaEnc
namespace Go.Proofs.Ytgnlfbekkddmiaa
open Go.RowKit Go.Lib
set_option linter.unusedVariables false
theorem own_low {w : World} {b b' : Nat} {e : TypeId} {size n : Nat} {v : Value} {xs : List Value} (h : w.ownsRow b e size v n xs) (hb : b' ≤ b) : w.ownsRow b' e size v n xs := by
  refine ⟨h.1, ?_⟩
  rcases h.2 with hn | ⟨g', cap, cur, rfl, hlo, rest⟩
  · exact .inl hn
  · exact .inr ⟨g', cap, cur, rfl, Nat.le_trans hb hlo, rest⟩

set_option maxRecDepth 100000 in
set_option maxHeartbeats 400000 in
theorem putInt (w : World) (base bb : Nat) (A : Option Addr) (c : Nat) (l : List UInt8) (x : Nat) (hB : BufAt w base bb A c l) (hn : l.length ≤ 100000) (hx : x < 2147483648) :
    Calls Try.prog 44 #[.pointer (some ⟨bb, 0, none⟩), .int .i64 x] w fun e w' => ∃ A' c', e = .returned (.tuple #[]) ∧ Put w w' base bb A A' c' (l ++ Lib.uvarint x) := by
  have HP := Lib.hid (putUv w base bb A c l x hB (by omega) (by omega))
  have hx1 : (x : Int) ≤ 2147483647 := by omega
  have hx0 : (0 : Int) ≤ (x : Int) := by omega
  clear hx hn
  go_enter Try.func44, Try.ntmps44
  go_wp2_with fail
  refine HP.out.mono ?_
  rintro e w1 ⟨A1, c1, rfl, hP1⟩
  go_wp2_with fail
  go_end0
  first | exact ⟨A1, c1, rfl, hP1⟩ | exact ⟨rfl, A1, c1, hP1⟩

set_option maxRecDepth 100000 in
set_option maxHeartbeats 2000000 in
theorem helloEncode (w : World) (base bb : Nat) (A : Option Addr) (c : Nat) (t0 : ByteArray) (x1 : Nat) (x2 : Nat) (x3 : Nat) (t4 : ByteArray) (t5 : ByteArray) (t6 : ByteArray) (h0 : t0.size ≤ 1000) (h1 : x1 < 2147483648) (h2 : x2 < 2147483648) (h3 : x3 < 2147483648) (h4 : t4.size ≤ 1000) (h5 : t5.size ≤ 1000) (h6 : t6.size ≤ 1000) (hB : BufAt w base bb A c []) :
    Calls Try.prog 28 #[.agg #[.string t0, .int .i64 x1, .int .i64 x2, .int .i64 x3, .string t4, .string t5, .string t6], .pointer (some ⟨bb, 0, none⟩)] w fun e w' => ∃ A' c', e = .returned (.tuple #[]) ∧ Put w w' base bb A A' c' (0 :: (strB t0 ++ (Lib.uvarint x1 ++ (Lib.uvarint x2 ++ (Lib.uvarint x3 ++ (strB t4 ++ (strB t5 ++ (strB t6)))))))) := by
  have hlt := hB.blk.lt
  have k0 := (Keeps.refl (fun _ => False) w).alloc (.cells #[.string t0, .int .i64 x1, .int .i64 x2, .int .i64 x3, .string t4, .string t5, .string t6] 60)
  have hB0 := hB.keeps k0 (fun h => h) (fun _ _ h => h)
  have hW0 := Whole.new w 60 #[.string t0, .int .i64 x1, .int .i64 x2, .int .i64 x3, .string t4, .string t5, .string t6]
  have hrow := hB.row_lo
  have l0 : (strB t0).length ≤ 1010 := by have := Lib.uvarint_length64 (x := t0.size) (by omega); rw [strB, List.length_append, sl_length]; omega
  have l1 := Lib.uvarint_length64 (x := x1) (by omega)
  have l2 := Lib.uvarint_length64 (x := x2) (by omega)
  have l3 := Lib.uvarint_length64 (x := x3) (by omega)
  have l4 : (strB t4).length ≤ 1010 := by have := Lib.uvarint_length64 (x := t4.size) (by omega); rw [strB, List.length_append, sl_length]; omega
  have l5 : (strB t5).length ≤ 1010 := by have := Lib.uvarint_length64 (x := t5.size) (by omega); rw [strB, List.length_append, sl_length]; omega
  have l6 : (strB t6).length ≤ 1010 := by have := Lib.uvarint_length64 (x := t6.size) (by omega); rw [strB, List.length_append, sl_length]; omega
  have H0 := Lib.hid h0
  clear h0
  have H1 := Lib.hid h1
  clear h1
  have H2 := Lib.hid h2
  clear h2
  have H3 := Lib.hid h3
  clear h3
  have H4 := Lib.hid h4
  clear h4
  have H5 := Lib.hid h5
  clear h5
  have H6 := Lib.hid h6
  clear h6
  go_enter Try.func28, Try.ntmps28
  go_wp2_with (first | (go_at_call 43; go_in) | (go_at_call 54; go_in))
  refine (putByte _ base bb A c [] 0 0 rfl hB0 (by simp)).mono ?_
  rintro e w0 ⟨A0, c0, rfl, hP0⟩
  have hW00 := hW0.keeps hP0.keeps (by rintro (h | h); (omega); exact absurd (hrow _ h).2 (by omega))
  have q0 : w0.cell? ⟨w.heap.size, 0, none⟩ = some (.string t0) := hW00.cell 0
  go_wp2_with fail
  go_end0
  go_wp2_with fail
  go_end0
  go_wp2_with fail
  refine (putString w0 base bb A0 c0 _ t0 hP0.at' (by simp only [List.length_append, List.length_cons, List.length_nil]; omega) (by have := H0.out; omega)).mono ?_
  rintro e w1 ⟨A1, c1, rfl, hQ1⟩
  have hP1 := hP0.trans hQ1
  have hW1 := hW0.keeps hP1.keeps (by rintro (h | h); (omega); exact absurd (hrow _ h).2 (by omega))
  have q1 : w1.cell? ⟨w.heap.size, 1, none⟩ = some (.int .i64 x1) := hW1.cell 1
  go_wp2_with fail
  refine (putInt w1 base bb A1 c1 _ x1 hP1.at' (by simp only [List.length_append, List.length_cons, List.length_nil]; omega) H1.out).mono ?_
  rintro e w2 ⟨A2, c2, rfl, hQ2⟩
  have hP2 := hP1.trans hQ2
  have hW2 := hW0.keeps hP2.keeps (by rintro (h | h); (omega); exact absurd (hrow _ h).2 (by omega))
  have q2 : w2.cell? ⟨w.heap.size, 2, none⟩ = some (.int .i64 x2) := hW2.cell 2
  go_wp2_with fail
  refine (putInt w2 base bb A2 c2 _ x2 hP2.at' (by simp only [List.length_append, List.length_cons, List.length_nil]; omega) H2.out).mono ?_
  rintro e w3 ⟨A3, c3, rfl, hQ3⟩
  have hP3 := hP2.trans hQ3
  have hW3 := hW0.keeps hP3.keeps (by rintro (h | h); (omega); exact absurd (hrow _ h).2 (by omega))
  have q3 : w3.cell? ⟨w.heap.size, 3, none⟩ = some (.int .i64 x3) := hW3.cell 3
  go_wp2_with fail
  refine (putInt w3 base bb A3 c3 _ x3 hP3.at' (by simp only [List.length_append, List.length_cons, List.length_nil]; omega) H3.out).mono ?_
  rintro e w4 ⟨A4, c4, rfl, hQ4⟩
  have hP4 := hP3.trans hQ4
  have hW4 := hW0.keeps hP4.keeps (by rintro (h | h); (omega); exact absurd (hrow _ h).2 (by omega))
  have q4 : w4.cell? ⟨w.heap.size, 4, none⟩ = some (.string t4) := hW4.cell 4
  go_wp2_with fail
  refine (putString w4 base bb A4 c4 _ t4 hP4.at' (by simp only [List.length_append, List.length_cons, List.length_nil]; omega) (by have := H4.out; omega)).mono ?_
  rintro e w5 ⟨A5, c5, rfl, hQ5⟩
  have hP5 := hP4.trans hQ5
  have hW5 := hW0.keeps hP5.keeps (by rintro (h | h); (omega); exact absurd (hrow _ h).2 (by omega))
  have q5 : w5.cell? ⟨w.heap.size, 5, none⟩ = some (.string t5) := hW5.cell 5
  go_wp2_with fail
  refine (putString w5 base bb A5 c5 _ t5 hP5.at' (by simp only [List.length_append, List.length_cons, List.length_nil]; omega) (by have := H5.out; omega)).mono ?_
  rintro e w6 ⟨A6, c6, rfl, hQ6⟩
  have hP6 := hP5.trans hQ6
  have hW6 := hW0.keeps hP6.keeps (by rintro (h | h); (omega); exact absurd (hrow _ h).2 (by omega))
  have q6 : w6.cell? ⟨w.heap.size, 6, none⟩ = some (.string t6) := hW6.cell 6
  go_wp2_with fail
  refine (putString w6 base bb A6 c6 _ t6 hP6.at' (by simp only [List.length_append, List.length_cons, List.length_nil]; omega) (by have := H6.out; omega)).mono ?_
  rintro e w7 ⟨A7, c7, rfl, hQ7⟩
  have hP7 := hP6.trans hQ7
  go_wp2_with fail
  go_end0
  have e : (0 :: (strB t0 ++ (Lib.uvarint x1 ++ (Lib.uvarint x2 ++ (Lib.uvarint x3 ++ (strB t4 ++ (strB t5 ++ (strB t6))))))) : List UInt8) = [] ++ [0] ++ strB t0 ++ Lib.uvarint x1 ++ Lib.uvarint x2 ++ Lib.uvarint x3 ++ strB t4 ++ strB t5 ++ strB t6 := by simp
  rw [e]
  first | exact ⟨A7, c7, rfl, hP7.behind k0⟩ | exact ⟨rfl, A7, c7, hP7.behind k0⟩

theorem fHelloEnc : ∀ args w, (callFunc 28 args).run Try.prog w = .ok (.enter 28 args) w := fun args w => by kernel_rfl

set_option maxRecDepth 100000 in
set_option maxHeartbeats 1000000 in
theorem helloPut (w : World) (t0 : ByteArray) (x1 : Nat) (x2 : Nat) (x3 : Nat) (t4 : ByteArray) (t5 : ByteArray) (t6 : ByteArray) (h0 : t0.size ≤ 1000) (h1 : x1 < 2147483648) (h2 : x2 < 2147483648) (h3 : x3 < 2147483648) (h4 : t4.size ≤ 1000) (h5 : t5.size ≤ 1000) (h6 : t6.size ≤ 1000) :
    Calls Try.prog 14 #[.agg #[.string t0, .int .i64 x1, .int .i64 x2, .int .i64 x3, .string t4, .string t5, .string t6]] w fun e w' => ∃ A c, e = .returned (.slice A (0 :: (strB t0 ++ (Lib.uvarint x1 ++ (Lib.uvarint x2 ++ (Lib.uvarint x3 ++ (strB t4 ++ (strB t5 ++ (strB t6))))))) : List UInt8).length c) ∧ w'.ownsRow w.heap.size 5 1 (.slice A (0 :: (strB t0 ++ (Lib.uvarint x1 ++ (Lib.uvarint x2 ++ (Lib.uvarint x3 ++ (strB t4 ++ (strB t5 ++ (strB t6))))))) : List UInt8).length c) (0 :: (strB t0 ++ (Lib.uvarint x1 ++ (Lib.uvarint x2 ++ (Lib.uvarint x3 ++ (strB t4 ++ (strB t5 ++ (strB t6))))))) : List UInt8).length (Lib.byteCells (0 :: (strB t0 ++ (Lib.uvarint x1 ++ (Lib.uvarint x2 ++ (Lib.uvarint x3 ++ (strB t4 ++ (strB t5 ++ (strB t6))))))))) ∧ Keeps (fun _ => False) w w' ∧ ∀ k, ob A = some k → w.heap.size ≤ k := by
  have hmf : ∀ (fn : Fn) (first cap : Array Value) (w : World), (Instr.makeFunc fn first cap).run Try.prog w = .ok (.func fn first cap) w := fun _ _ _ _ => rfl
  have k0 := (Keeps.refl (fun _ => False) w).alloc (.cells #[.string t0, .int .i64 x1, .int .i64 x2, .int .i64 x3, .string t4, .string t5, .string t6] 36)
  have henc := encoded_any (w.alloc (.cells #[.string t0, .int .i64 x1, .int .i64 x2, .int .i64 x3, .string t4, .string t5, .string t6] 36)) (0 :: (strB t0 ++ (Lib.uvarint x1 ++ (Lib.uvarint x2 ++ (Lib.uvarint x3 ++ (strB t4 ++ (strB t5 ++ (strB t6)))))))) 28 #[.agg #[.string t0, .int .i64 x1, .int .i64 x2, .int .i64 x3, .string t4, .string t5, .string t6]] fHelloEnc (fun w1 hB1 hK1 => by
    refine (helloEncode w1 _ _ none 0 t0 x1 x2 x3 t4 t5 t6 h0 h1 h2 h3 h4 h5 h6 hB1).mono ?_
    rintro e w2 ⟨A, c, rfl, hP⟩
    exact ⟨rfl, A, c, hP⟩)
  clear h0 h1 h2 h3 h4 h5 h6
  generalize (0 :: (strB t0 ++ (Lib.uvarint x1 ++ (Lib.uvarint x2 ++ (Lib.uvarint x3 ++ (strB t4 ++ (strB t5 ++ (strB t6))))))) : List UInt8) = d at henc ⊢
  go_enter Try.func14, Try.ntmps14
  go_wp2_with fail
  refine henc.mono ?_
  clear henc
  rintro e w2 ⟨A, c, rfl, hown, hK, hA⟩
  go_wp2_with fail
  go_ret
  exact ⟨A, c, rfl, own_low hown k0.size, k0.trans hK (fun _ _ h => h), fun i hi => Nat.le_trans k0.size (hA i hi)⟩
end Go.Proofs.Ytgnlfbekkddmiaa
