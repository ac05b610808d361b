/- A parameter decoded from bytes that may be cut off, and read by PKParameterGet. Conditions: short strings, the key not empty. -/
import Derived.Test.YtgnlfbekkddmiaaPar
import Derived.BigQuiet
import Derived.Deep.QuietTactic
namespace Go.Proofs.Ytgnlfbekkddmiaa
open Go.RowKit Go.Lib
set_option linter.unusedVariables false
theorem res_tmp4 {fn : Func} {t u v x : Tmp} (h : fn.results = #[.tmp t, .tmp u, .tmp v, .tmp x]) (tmps : Array Value) (P : Program) (w : World) :
    (results fn tmps).run P w = .ok (.tuple #[tmps.getD t undef, tmps.getD u undef, tmps.getD v undef, tmps.getD x undef]) w := by
  simp [results, h]

set_option maxRecDepth 100000 in
set_option maxHeartbeats 4000000 in
theorem parDecode (w : World) (base rb bb g : Nat) (D R : Option Nat) (k v : ByteArray) (m : Nat) (hk : k.size ≤ 1000) (hk0 : k.size ≠ 0) (hv : v.size ≤ 1000) (rest : List UInt8)
    (hI : Whole w g 50 #[.string ⟨#[]⟩, .string ⟨#[]⟩]) (hD : D ≠ some g) (hD1 : ∀ i, D = some i → i < w.heap.size) (hR : RdrOn w base rb bb D R ((strB k ++ (Lib.uvarint 2 ++ (strB v ++ rest))).take m)) :
    Calls Try.prog 23 #[.pointer (some ⟨g, 0, none⟩), .pointer (some ⟨rb, 0, none⟩)] w fun e w' => ParEnd w base rb bb g 50 D R #[.string k, .string v] ((strB k).length + (Lib.uvarint 2).length + (strB v).length) m rest e w' := by
  have hlt := hI.lt
  have k0 := (Keeps.refl (fun _ => False) w).alloc (.cells #[.string ⟨#[]⟩, .string ⟨#[]⟩, .bool false, .bool false, .bool false] 54)
  have hS0 := Whole.new w 54 #[.string ⟨#[]⟩, .string ⟨#[]⟩, .bool false, .bool false, .bool false]
  have HD := Lib.hid (setDecode _ base rb bb w.heap.size D R k v m hk hk0 hv rest hS0 (fun h => by have := hD1 _ h; omega) (hR.new k0))
  have hrl := hR.facts
  have hap := hR.apart hI (by decide) (by decide) (by decide)
  clear hk hk0 hv
  generalize (strB k).length + (Lib.uvarint 2).length + (strB v).length = L at *
  go_enter Try.func23, Try.ntmps23
  go_wp2_with fail
  refine HD.out.mono ?_
  rintro e w1 ⟨hst, hK⟩
  have hK1 : Keeps (RdrX (fun i => i = g) rb bb R) w w1 := (k0.mono (S' := RdrX (fun i => i = g) rb bb R) (fun _ _ h => h.elim)).trans hK (fun i hi h => by
    rcases h with h | h
    · omega
    · exact .inr h)
  rcases hst with ⟨m', hm', rfl, ⟨R', hR', hF'⟩, hW⟩ | ⟨hm, z, rfl, a, rfl⟩
  · have hne : w.heap.size ≠ g := by omega
    have J := (hI.alloc (.cells #[.string ⟨#[]⟩, .string ⟨#[]⟩, .bool false, .bool false, .bool false] 54)).keeps hK (by
      rintro (h | h)
      · omega
      · exact hap h)
    have ap := hR'.apart J (by decide) (by decide) (by decide)
    have gl := J.lt
    have wl := hW.lt
    have c0 : w1.cell? ⟨g, 0, none⟩ = some (.string ⟨#[]⟩) := J.cell 0
    have c1 : w1.cell? ⟨g, 1, none⟩ = some (.string ⟨#[]⟩) := J.cell 1
    have f0 := J.frozen 0
    have f1 := J.frozen 1
    have s0 : w1.cell? ⟨w.heap.size, 0, none⟩ = some (.string k) := hW.cell 0
    have s1 : w1.cell? ⟨w.heap.size, 1, none⟩ = some (.string v) := hW.cell 1
    have kk := (((Keeps.refl (fun i => i = g) w1).setCell (p := ⟨g, 0, none⟩) (.inl rfl) (.string k)).setCell (p := ⟨g, 1, none⟩) (.inl rfl) (.string v))
    have hWf := (J.put 0 (.string k)).put 1 (.string v)
    have hRf := hR'.keeps kk (fun h => ap (.inl h.symm)) (fun h => ap (.inr (.inl h.symm))) (fun i hi h => ap (.inr (.inr (h ▸ hi)))) (fun i hi h => hD (h ▸ hi))
    have s2 : (w1.setCell ⟨g, 0, none⟩ (.string k)).cell? ⟨w.heap.size, 1, none⟩ = some (.string v) := (hW.far (by simpa using hne) _).cell 1
    go_wp2_with fail
    go_ret
    exact ⟨.inl ⟨m', hm', rfl, ⟨R', hRf, by rcases hF' with h | h; (exact .inl h); exact .inr (fun i hi => Nat.le_trans k0.size (h i hi))⟩, hWf⟩, RdrX.store hK1 kk⟩
  · go_wp2_with (go_at_call 39; go_in)
    go_ret
    exact ⟨.inr ⟨hm, _, rfl, ⟨_, rfl⟩⟩, hK1.trans ((Keeps.refl (fun _ => False) _).alloc _) (fun _ _ h => h.elim)⟩

set_option maxRecDepth 100000 in
set_option maxHeartbeats 2000000 in
theorem parGet_ok (w : World) (A : Option Addr) (c : Nat) (k v : ByteArray) (hk : k.size ≤ 1000) (hk0 : k.size ≠ 0) (hv : v.size ≤ 1000) (rest d : List UInt8) (hd : d = strB k ++ (Lib.uvarint 2 ++ (strB v ++ rest))) (hR : Rd w 1 A d.length (Lib.byteCells d)) (hc : d.length ≤ c) (hA : ∀ i, ob A = some i → i < w.heap.size) :
    Calls Try.prog 7 #[.slice A d.length c] w fun e w' => e = .returned (.tuple #[.string k, .string v, .int .i64 rest.length, .bool true]) ∧ Keeps (fun _ => False) w w' := by
  have hmf : ∀ (fn : Fn) (first cap : Array Value) (w : World), (Instr.makeFunc fn first cap).run Try.prog w = .ok (.func fn first cap) w := fun _ _ _ _ => rfl
  have k0 := (Keeps.refl (fun _ => False) w).alloc (.cells #[.string ⟨#[]⟩, .string ⟨#[]⟩] 50)
  have hsz : (World.heap (w.alloc (.cells #[.string ⟨#[]⟩, .string ⟨#[]⟩] 50))).size = w.heap.size + 1 := by simp only [World.size_alloc]
  have hI : Whole (w.alloc (.cells #[.string ⟨#[]⟩, .string ⟨#[]⟩] 50)) w.heap.size 50 #[.string ⟨#[]⟩, .string ⟨#[]⟩] := Whole.new w 50 #[.string ⟨#[]⟩, .string ⟨#[]⟩]
  have hR4 : Rd (w.alloc (.cells #[.string ⟨#[]⟩, .string ⟨#[]⟩] 50)) 1 A d.length (Lib.byteCells d) := hR.alloc _
  generalize hG : (w.alloc (.cells #[.string ⟨#[]⟩, .string ⟨#[]⟩] 50)) = W4 at k0 hsz hI hR4
  have hS : ¬ RdrX (fun i => i = w.heap.size) (W4.heap.size + 1 + 1) (W4.heap.size + 1) none W4.heap.size := by
    rintro (h | h | h | h)
    · omega
    · omega
    · omega
    · cases h
  have hgot := got_ok W4 A c d rest hR4 hc (fun i hi => by have := hA i hi; omega) 23 #[.pointer (some ⟨w.heap.size, 0, none⟩)] fParDec (RdrX (fun i => i = w.heap.size) (W4.heap.size + 1 + 1) (W4.heap.size + 1) none) hS (fun w2 => Whole w2 w.heap.size 50 #[.string k, .string v]) (by
    intro w1 hR1 hK1
    have hI1 := hI.keeps hK1 (fun h => h)
    refine (parDecode w1 _ _ _ w.heap.size (ob A) none k v d.length hk hk0 hv rest hI1 (fun h => by have := hA _ h; omega) (fun i hi => by have := hA i hi; have := hK1.size; omega) (by rw [← hd, List.take_length]; exact hR1)).mono ?_
    rintro e w2 ⟨⟨m', hm', rfl, ⟨R', hR', _⟩, h2⟩ | ⟨hm, _⟩, h3⟩
    · have hl : m' = rest.length := by rw [hd] at hm'; simp only [List.length_append] at hm'; omega
      rw [hl, List.take_length] at hR'
      exact ⟨rfl, ⟨R', hR'⟩, h3, h2⟩
    · rw [hd] at hm; simp only [List.length_append] at hm; omega)
  clear hk hk0 hv hd hR hR4 hI hS
  generalize d.length = n at hgot hc ⊢
  generalize rest.length = mm at hgot ⊢
  go_enter Try.func7, Try.ntmps7
  go_wp2_with fail
  try simp only [hG]
  refine hgot.mono ?_
  clear hgot
  rintro e w3 ⟨w2, rfl, hI2, hK2, hK3⟩
  have hI3 := hI2.keeps hK3 (by omega)
  have ql := hI3.lt
  have q0 : w3.cell? ⟨w.heap.size, 0, none⟩ = some (.string k) := hI3.cell 0
  have q1 : w3.cell? ⟨w.heap.size, 1, none⟩ = some (.string v) := hI3.cell 1
  go_wp2_with fail
  go_quiet (fail)
  go_wp2_with fail
  refine bodyPost_ret (res_tmp4 rfl _ _ _) rfl ⟨rfl, ?_⟩
  refine Keeps.drewN ?_ _
  refine (k0.trans hK2 ?_).trans hK3 ?_
  · rintro i hi (h | h | h | h)
    · omega
    · omega
    · omega
    · cases h
  · intro i hi h
    omega

set_option maxRecDepth 100000 in
set_option maxHeartbeats 2000000 in
theorem parGet_err (w : World) (A : Option Addr) (c : Nat) (k v : ByteArray) (hk : k.size ≤ 1000) (hk0 : k.size ≠ 0) (hv : v.size ≤ 1000) (d : List UInt8) (m : Nat) (hm : m < (strB k ++ (Lib.uvarint 2 ++ strB v)).length) (hd : d = (strB k ++ (Lib.uvarint 2 ++ strB v)).take m) (hR : Rd w 1 A d.length (Lib.byteCells d)) (hc : d.length ≤ c) (hA : ∀ i, ob A = some i → i < w.heap.size) :
    Calls Try.prog 7 #[.slice A d.length c] w fun e w' => e = .returned (.tuple #[.string ⟨#[]⟩, .string ⟨#[]⟩, .int .i64 0, .bool false]) ∧ Keeps (fun _ => False) w w' := by
  have hmf : ∀ (fn : Fn) (first cap : Array Value) (w : World), (Instr.makeFunc fn first cap).run Try.prog w = .ok (.func fn first cap) w := fun _ _ _ _ => rfl
  have k0 := (Keeps.refl (fun _ => False) w).alloc (.cells #[.string ⟨#[]⟩, .string ⟨#[]⟩] 50)
  have hsz : (World.heap (w.alloc (.cells #[.string ⟨#[]⟩, .string ⟨#[]⟩] 50))).size = w.heap.size + 1 := by simp only [World.size_alloc]
  have hI : Whole (w.alloc (.cells #[.string ⟨#[]⟩, .string ⟨#[]⟩] 50)) w.heap.size 50 #[.string ⟨#[]⟩, .string ⟨#[]⟩] := Whole.new w 50 #[.string ⟨#[]⟩, .string ⟨#[]⟩]
  have hR4 : Rd (w.alloc (.cells #[.string ⟨#[]⟩, .string ⟨#[]⟩] 50)) 1 A d.length (Lib.byteCells d) := hR.alloc _
  generalize hG : (w.alloc (.cells #[.string ⟨#[]⟩, .string ⟨#[]⟩] 50)) = W4 at k0 hsz hI hR4
  have hS : ¬ RdrX (fun i => i = w.heap.size) (W4.heap.size + 1 + 1) (W4.heap.size + 1) none W4.heap.size := by
    rintro (h | h | h | h)
    · omega
    · omega
    · omega
    · cases h
  have hgot := got_err W4 A c d hR4 hc (fun i hi => by have := hA i hi; omega) 23 #[.pointer (some ⟨w.heap.size, 0, none⟩)] fParDec (RdrX (fun i => i = w.heap.size) (W4.heap.size + 1 + 1) (W4.heap.size + 1) none) hS (fun _ => True) (by
    intro w1 hR1 hK1
    have hI1 := hI.keeps hK1 (fun h => h)
    refine (parDecode w1 _ _ _ w.heap.size (ob A) none k v m hk hk0 hv [] hI1 (fun h => by have := hA _ h; omega) (fun i hi => by have := hA i hi; have := hK1.size; omega) (by rw [hd] at hR1; simpa using hR1)).mono ?_
    rintro e w2 ⟨⟨m', hm', _⟩ | ⟨_, z, rfl, hz⟩, h3⟩
    · simp only [List.length_append] at hm; omega
    · exact ⟨⟨z, rfl, hz⟩, h3, trivial⟩)
  clear hk hk0 hv hd hm hR hR4 hI hS
  generalize d.length = n at hgot hc ⊢
  go_enter Try.func7, Try.ntmps7
  go_wp2_with fail
  try simp only [hG]
  refine hgot.mono ?_
  clear hgot
  rintro e w3 ⟨w2, rfl, _, hK2, hK3⟩
  go_wp2_with fail
  refine bodyPost_ret (res_tmp4 rfl _ _ _) rfl ⟨rfl, ?_⟩
  refine (k0.trans hK2 ?_).trans hK3 ?_
  · rintro i hi (h | h | h | h)
    · omega
    · omega
    · omega
    · cases h
  · intro i hi h
    omega
end Go.Proofs.Ytgnlfbekkddmiaa
