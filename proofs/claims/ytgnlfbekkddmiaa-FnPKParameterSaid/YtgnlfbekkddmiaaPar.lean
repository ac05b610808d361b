/- A setting that is custom, and a parameter: put into a buffer, and read from bytes that may be cut off. Conditions: short strings, the key not empty. -/
import Derived.Test.YtgnlfbekkddmiaaStr
import Derived.Test.YtgnlfbekkddmiaaEnc
import Derived.Test.YtgnlfbekkddmiaaStrR
import Derived.Test.YtgnlfbekkddmiaaGotC
namespace Go.Proofs.Ytgnlfbekkddmiaa
open Go.RowKit Go.Lib
set_option linter.unusedVariables false

set_option maxRecDepth 100000 in
set_option maxHeartbeats 2000000 in
theorem setEncode (w : World) (base bb : Nat) (A : Option Addr) (c : Nat) (k v : ByteArray) (hk : k.size ≤ 1000) (hv : v.size ≤ 1000) (hB : BufAt w base bb A c []) :
    Calls Try.prog 25 #[.agg #[.string k, .string v, .bool false, .bool true, .bool false], .pointer (some ⟨bb, 0, none⟩)] w fun e w' => ∃ A' c', e = .returned (.tuple #[]) ∧ Put w w' base bb A A' c' (strB k ++ (Lib.uvarint 2 ++ strB v)) := by
  have hlt := hB.blk.lt
  have k0 := (Keeps.refl (fun _ => False) w).alloc (.cells #[.string k, .string v, .bool false, .bool true, .bool false] 54)
  have hB0 := hB.keeps k0 (fun h => h) (fun _ _ h => h)
  have hW0 := Whole.new w 54 #[.string k, .string v, .bool false, .bool true, .bool false]
  have hrow := hB.row_lo
  have l0 : (strB k).length ≤ 1010 := by have := Lib.uvarint_length64 (x := k.size) (by omega); rw [strB, List.length_append, sl_length]; omega
  have l1 := Lib.uvarint_length64 (x := 2) (by omega)
  have hor : Go.bits .or .u64 0 2 = 2 := by decide
  have HK := Lib.hid hk
  have HV := Lib.hid hv
  clear hk hv
  go_enter Try.func25, Try.ntmps25
  go_wp2_with fail
  refine (putString _ base bb A c [] k hB0 (by simp) (by have := HK.out; omega)).mono ?_
  rintro e w1 ⟨A1, c1, rfl, hP1⟩
  have hW1 := hW0.keeps hP1.keeps (by rintro (h | h); (omega); exact absurd (hrow _ h).2 (by omega))
  have q2 : w1.cell? ⟨w.heap.size, 2, none⟩ = some (.bool false) := hW1.cell 2
  have q3 : w1.cell? ⟨w.heap.size, 3, none⟩ = some (.bool true) := hW1.cell 3
  have q4 : w1.cell? ⟨w.heap.size, 4, none⟩ = some (.bool false) := hW1.cell 4
  go_wp2_with fail
  refine (putUv w1 base bb A1 c1 _ 2 hP1.at' (by simp only [List.length_append, List.length_nil]; omega) (by omega)).mono ?_
  rintro e w2 ⟨A2, c2, rfl, hQ2⟩
  have hP2 := hP1.trans hQ2
  have hW2 := hW0.keeps hP2.keeps (by rintro (h | h); (omega); exact absurd (hrow _ h).2 (by omega))
  have q1 : w2.cell? ⟨w.heap.size, 1, none⟩ = some (.string v) := hW2.cell 1
  go_wp2_with fail
  refine (putString w2 base bb A2 c2 _ v hP2.at' (by simp only [List.length_append, List.length_nil]; omega) (by have := HV.out; omega)).mono ?_
  rintro e w3 ⟨A3, c3, rfl, hQ3⟩
  have hP3 := hP2.trans hQ3
  go_wp2_with fail
  go_end0
  have e : (strB k ++ (Lib.uvarint 2 ++ strB v) : List UInt8) = [] ++ strB k ++ Lib.uvarint 2 ++ strB v := by simp
  rw [e]
  first | exact ⟨A3, c3, rfl, hP3.behind k0⟩ | exact ⟨rfl, A3, c3, hP3.behind k0⟩

set_option maxRecDepth 100000 in
set_option maxHeartbeats 1000000 in
theorem parEncode (w : World) (base bb : Nat) (A : Option Addr) (c : Nat) (k v : ByteArray) (hk : k.size ≤ 1000) (hv : v.size ≤ 1000) (hB : BufAt w base bb A c []) :
    Calls Try.prog 21 #[.agg #[.string k, .string v], .pointer (some ⟨bb, 0, none⟩)] w fun e w' => ∃ A' c', e = .returned (.tuple #[]) ∧ Put w w' base bb A A' c' (strB k ++ (Lib.uvarint 2 ++ strB v)) := by
  have k0 := (Keeps.refl (fun _ => False) w).alloc (.cells #[.string k, .string v] 50)
  have HS := Lib.hid (setEncode _ base bb A c k v hk hv (hB.keeps k0 (fun h => h) (fun _ _ h => h)))
  clear hk hv hB
  generalize strB k ++ (Lib.uvarint 2 ++ strB v) = d at *
  go_enter Try.func21, Try.ntmps21
  go_wp2_with fail
  refine HS.out.mono ?_
  rintro e w1 ⟨A1, c1, rfl, hP1⟩
  go_wp2_with fail
  go_end0
  first | exact ⟨A1, c1, rfl, hP1.behind k0⟩ | exact ⟨rfl, A1, c1, hP1.behind k0⟩

theorem fSetEnc : ∀ args w, (callFunc 25 args).run Try.prog w = .ok (.enter 25 args) w := fun args w => by kernel_rfl
theorem fParEnc : ∀ args w, (callFunc 21 args).run Try.prog w = .ok (.enter 21 args) w := fun args w => by kernel_rfl
theorem fParDec : ∀ args w, (callFunc 23 args).run Try.prog w = .ok (.enter 23 args) w := fun args w => by kernel_rfl
theorem own_low {w : World} {b b' : Nat} {e : TypeId} {size n : Nat} {v : Value} {xs : List Value} (h : w.ownsRow b e size v n xs) (hb : b' ≤ b) : w.ownsRow b' e size v n xs := by
  refine ⟨h.1, ?_⟩
  rcases h.2 with hn | ⟨g', cap, cur, rfl, hlo, rest⟩
  · exact .inl hn
  · exact .inr ⟨g', cap, cur, rfl, Nat.le_trans hb hlo, rest⟩

set_option maxRecDepth 100000 in
set_option maxHeartbeats 1000000 in
theorem parPut (w : World) (k v : ByteArray) (hk : k.size ≤ 1000) (hv : v.size ≤ 1000) :
    Calls Try.prog 6 #[.string k, .string v] w fun e w' => ∃ A c, e = .returned (.slice A (strB k ++ (Lib.uvarint 2 ++ strB v) : List UInt8).length c) ∧ w'.ownsRow w.heap.size 5 1 (.slice A (strB k ++ (Lib.uvarint 2 ++ strB v) : List UInt8).length c) (strB k ++ (Lib.uvarint 2 ++ strB v) : List UInt8).length (Lib.byteCells (strB k ++ (Lib.uvarint 2 ++ strB v))) ∧ Keeps (fun _ => False) w w' ∧ ∀ k, ob A = some k → w.heap.size ≤ k := by
  have hmf : ∀ (fn : Fn) (first cap : Array Value) (w : World), (Instr.makeFunc fn first cap).run Try.prog w = .ok (.func fn first cap) w := fun _ _ _ _ => rfl
  have henc := encoded_any w (strB k ++ (Lib.uvarint 2 ++ strB v)) 21 #[.agg #[.string k, .string v]] fParEnc (fun w1 hB1 hK1 => by
    refine (parEncode w1 _ _ none 0 k v hk hv hB1).mono ?_
    rintro e w2 ⟨A, c, rfl, hP⟩
    exact ⟨rfl, A, c, hP⟩)
  clear hk hv
  generalize (strB k ++ (Lib.uvarint 2 ++ strB v) : List UInt8) = d at henc ⊢
  go_enter Try.func6, Try.ntmps6
  go_wp2_with fail
  refine henc.mono ?_
  clear henc
  rintro e w2 ⟨A, c, rfl, hown, hK, hA⟩
  go_wp2_with fail
  go_ret
  exact ⟨A, c, rfl, hown, hK, hA⟩

theorem infoPSet : (Try.prog.info? 54).map (·.size) = some 5 := by kernel_rfl
theorem infoISet : (Try.prog.info? 33).map (·.size) = some 5 := by kernel_rfl
set_option maxRecDepth 100000 in
set_option maxHeartbeats 1000000 in
theorem setting1 (w : World) (k v : ByteArray) :
    Calls Try.prog 24 #[.agg #[.string k, .string v, .bool false, .bool true, .bool false]] w fun e w' => e = .returned (.agg #[.string k, .string v, .bool false, .bool true, .bool false]) ∧ Keeps (fun _ => False) w w' := by
  go_enter Try.func24, Try.ntmps24
  go_wp2_with fail
  exact bodyPost_ret (v := .agg #[.string k, .string v, .bool false, .bool true, .bool false]) (by simp [results, Try.results24, go_sem]) rfl ⟨rfl, ((Keeps.refl (fun _ => False) w).alloc _).alloc _⟩

set_option maxRecDepth 100000 in
set_option maxHeartbeats 1000000 in
theorem setPut (w : World) (k v : ByteArray) (hk : k.size ≤ 1000) (hv : v.size ≤ 1000) :
    Calls Try.prog 11 #[.agg #[.string k, .string v, .bool false, .bool true, .bool false]] w fun e w' => ∃ A c, e = .returned (.slice A (strB k ++ (Lib.uvarint 2 ++ strB v) : List UInt8).length c) ∧ w'.ownsRow w.heap.size 5 1 (.slice A (strB k ++ (Lib.uvarint 2 ++ strB v) : List UInt8).length c) (strB k ++ (Lib.uvarint 2 ++ strB v) : List UInt8).length (Lib.byteCells (strB k ++ (Lib.uvarint 2 ++ strB v))) ∧ Keeps (fun _ => False) w w' ∧ ∀ k, ob A = some k → w.heap.size ≤ k := by
  have hmf : ∀ (fn : Fn) (first cap : Array Value) (w : World), (Instr.makeFunc fn first cap).run Try.prog w = .ok (.func fn first cap) w := fun _ _ _ _ => rfl
  have k0 := (Keeps.refl (fun _ => False) w).alloc (.cells #[.string k, .string v, .bool false, .bool true, .bool false] 33)
  have henc : ∀ w0 : World, _ := fun w0 => encoded_any w0 (strB k ++ (Lib.uvarint 2 ++ strB v)) 25 #[.agg #[.string k, .string v, .bool false, .bool true, .bool false]] fSetEnc (fun w1 hB1 hK1 => by
    refine (setEncode w1 _ _ none 0 k v hk hv hB1).mono ?_
    rintro e w2 ⟨A, c, rfl, hP⟩
    exact ⟨rfl, A, c, hP⟩)
  clear hk hv
  generalize (strB k ++ (Lib.uvarint 2 ++ strB v) : List UInt8) = d at henc ⊢
  go_enter Try.func11, Try.ntmps11
  go_wp2_with fail
  refine (setting1 _ k v).mono ?_
  rintro e w1 ⟨rfl, K1⟩
  go_wp2_with fail
  refine (henc w1).mono ?_
  clear henc
  rintro e w2 ⟨A, c, rfl, hown, hK, hA⟩
  have k1 := k0.trans K1 (fun _ _ h => h)
  go_wp2_with fail
  go_ret
  exact ⟨A, c, rfl, own_low hown k1.size, k1.trans hK (fun _ _ h => h), fun i hi => Nat.le_trans k1.size (hA i hi)⟩

/-- How the reading ends: m bytes of those that are L long were there. -/
def ParEnd (w : World) (base rb bb g : Nat) (t : TypeId) (D R : Option Nat) (cs : Array Value) (L m : Nat) (rest : List UInt8) (e : Ending) (w' : World) : Prop :=
  ((∃ m', m = L + m' ∧ e = .returned .nilIface ∧ (∃ R', RdrOn w' base rb bb D R' (rest.take m') ∧ (R' = R ∨ ∀ i, R' = some i → w.heap.size ≤ i)) ∧ Whole w' g t cs) ∨ (m < L ∧ ∃ v, e = .returned v ∧ IsErr v)) ∧ Keeps (RdrX (fun i => i = g) rb bb R) w w'

set_option maxRecDepth 100000 in
set_option maxHeartbeats 4000000 in
theorem setDecode (w : World) (base rb bb g : Nat) (D R : Option Nat) (k v : ByteArray) (m : Nat) (hk : k.size ≤ 1000) (hk0 : k.size ≠ 0) (hv : v.size ≤ 1000) (rest : List UInt8)
    (hI : Whole w g 54 #[.string ⟨#[]⟩, .string ⟨#[]⟩, .bool false, .bool false, .bool false]) (hD : D ≠ some g) (hR : RdrOn w base rb bb D R ((strB k ++ (Lib.uvarint 2 ++ (strB v ++ rest))).take m)) :
    Calls Try.prog 38 #[.pointer (some ⟨g, 0, none⟩), .pointer (some ⟨rb, 0, none⟩)] w fun e w' => ParEnd w base rb bb g 54 D R #[.string k, .string v, .bool false, .bool true, .bool false] ((strB k).length + (Lib.uvarint 2).length + (strB v).length) m rest e w' := by
  have hlt := hI.lt
  have HK := Lib.hid hk
  have HV := Lib.hid hv
  have hne3 : k.toList.isEmpty = false := by
    rw [ByteArray.toList_eq]
    cases h : k.data.toList with
    | nil => exact absurd (show k.size = 0 from by have := congrArg List.length h; simpa using this) hk0
    | cons a l => rfl
  have hb1 : Go.bits .and .u64 2 1 = 0 := by decide
  have hb2 : Go.bits .and .u64 2 2 = 2 := by decide
  have hb4 : Go.bits .and .u64 2 4 = 0 := by decide
  clear hk hv hk0
  generalize hL0 : (strB k).length = n0 at *
  generalize hL1 : (Lib.uvarint 2).length = n1 at *
  generalize hL2 : (strB v).length = n2 at *
  have s0 := Keeps.refl (RdrX (fun i => i = g) rb bb R) w
  go_enter Try.func38, Try.ntmps38
  go_wp2_with fail
  refine (strStep _ base rb bb D R k m _ (by have := HK.out; omega) hR).mono ?_
  intro e v0 hst
  rcases hst with ⟨m1, hm1, rfl, hG0⟩ | ⟨hm, z, l, rfl, ⟨a, rfl⟩, hG⟩
  case inr =>
    rw [hL0] at hm
    go_wp2_with (go_at_call 39; go_in)
    go_ret
    exact ⟨.inr ⟨by omega, _, rfl, ⟨_, rfl⟩⟩, (RdrX.step s0 (.inl rfl) hG.keeps).trans ((Keeps.refl (fun _ => False) _).alloc _) (fun _ _ h => h.elim)⟩
  rw [hL0] at hm1
  have J0 := hI.keeps hG0.keeps (hR.apart hI (by decide) (by decide) (by decide))
  obtain ⟨R1, hR1, hF0⟩ := hG0.on
  have s1 := RdrX.step s0 (.inl rfl) hG0.keeps
  have hS1 := fresh_trans (w := w) (R := R) (R1 := R) (.inl rfl) hF0 (s0.size)
  go_wp2_with fail
  refine (uv_step _ base rb bb D R1 2 m1 _ (by omega) hR1).mono ?_
  intro e v1 hst
  rcases hst with ⟨m2, hm2, rfl, hG1⟩ | ⟨hm, z, l, rfl, ⟨a, rfl⟩, hG⟩
  case inr =>
    rw [hL1] at hm
    go_wp2_with (go_at_call 39; go_in)
    go_ret
    exact ⟨.inr ⟨by omega, _, rfl, ⟨_, rfl⟩⟩, (RdrX.step s1 hS1 hG.keeps).trans ((Keeps.refl (fun _ => False) _).alloc _) (fun _ _ h => h.elim)⟩
  rw [hL1] at hm2
  have J1 := J0.keeps hG1.keeps (hR1.apart J0 (by decide) (by decide) (by decide))
  obtain ⟨R2, hR2, hF1⟩ := hG1.on
  have s2 := RdrX.step s1 hS1 hG1.keeps
  have hS2 := fresh_trans (w := w) (R := R) (R1 := R1) hS1 hF1 (s1.size)
  go_wp2_with fail
  refine (strStep _ base rb bb D R2 v m2 _ (by have := HV.out; omega) hR2).mono ?_
  intro e v2 hst
  rcases hst with ⟨m3, hm3, rfl, hG2⟩ | ⟨hm, z, l, rfl, ⟨a, rfl⟩, hG⟩
  case inr =>
    rw [hL2] at hm
    go_wp2_with (first | (go_at_call 51; go_in) | (go_at_call 39; go_in))
    go_ret
    exact ⟨.inr ⟨by omega, _, rfl, ⟨_, rfl⟩⟩, (RdrX.step s2 hS2 hG.keeps).trans (((Keeps.refl (fun _ => False) _).alloc _).alloc _) (fun _ _ h => h.elim)⟩
  rw [hL2] at hm3
  have J2 := J1.keeps hG2.keeps (hR2.apart J1 (by decide) (by decide) (by decide))
  obtain ⟨R3, hR3, hF2⟩ := hG2.on
  have s3 := RdrX.step s2 hS2 hG2.keeps
  have hS3 := fresh_trans (w := w) (R := R) (R1 := R2) hS2 hF2 (s2.size)
  have ap := hR3.apart J2 (by decide) (by decide) (by decide)
  have gl := J2.lt
  have c0 : v2.cell? ⟨g, 0, none⟩ = some (.string ⟨#[]⟩) := J2.cell 0
  have c1 : v2.cell? ⟨g, 1, none⟩ = some (.string ⟨#[]⟩) := J2.cell 1
  have c2 : v2.cell? ⟨g, 2, none⟩ = some (.bool false) := J2.cell 2
  have c3 : v2.cell? ⟨g, 3, none⟩ = some (.bool false) := J2.cell 3
  have c4 : v2.cell? ⟨g, 4, none⟩ = some (.bool false) := J2.cell 4
  have f0 := J2.frozen 0
  have f1 := J2.frozen 1
  have f2 := J2.frozen 2
  have f3 := J2.frozen 3
  have f4 := J2.frozen 4
  have kk := ((((((Keeps.refl (fun i => i = g) v2).setCell (p := ⟨g, 0, none⟩) (.inl rfl) (.string k)).setCell (p := ⟨g, 2, none⟩) (.inl rfl) (.bool false)).setCell (p := ⟨g, 3, none⟩) (.inl rfl) (.bool true)).setCell (p := ⟨g, 4, none⟩) (.inl rfl) (.bool false)).setCell (p := ⟨g, 1, none⟩) (.inl rfl) (.string v))
  have hWf := ((((J2.put 0 (.string k)).put 2 (.bool false)).put 3 (.bool true)).put 4 (.bool false)).put 1 (.string v)
  have hRf := hR3.keeps kk (fun h => ap (.inl h.symm)) (fun h => ap (.inr (.inl h.symm))) (fun i hi h => ap (.inr (.inr (h ▸ hi)))) (fun i hi h => hD (h ▸ hi))
  go_wp2_with fail
  go_ret
  exact ⟨.inl ⟨m3, by omega, rfl, ⟨R3, hRf, hS3⟩, hWf⟩, RdrX.store s3 kk⟩
end Go.Proofs.Ytgnlfbekkddmiaa
