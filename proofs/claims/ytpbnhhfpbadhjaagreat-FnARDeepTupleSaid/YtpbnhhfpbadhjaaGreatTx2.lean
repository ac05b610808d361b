/- ARTuple: strings, numbers and rows of strings encoded as a tuple of three columns. Conditions: sizes far below the machine's. -/
import Derived.Test.YtpbnhhfpbadhjaaGreatTw
import Derived.Test.YtpbnhhfpbadhjaaGreatSn
namespace Go.Proofs.YtpbnhhfpbadhjaaGreat
open Go.RowKit Go.Lib
set_option linter.unusedVariables false
theorem ArrAt.keepsN {w w' : World} {base ga gs : Nat} {S : Nat → Prop} (h : ArrAt w base ga gs none 0 none 0 none 0 []) (hk : Keeps S w w') (h1 : ¬ S ga) (h2 : ¬ S gs) : ArrAt w' base ga gs none 0 none 0 none 0 [] :=
  ⟨h.blk.keeps hk h1, own_keeps h.off hk (fun k hk => by rw [ownBlock_slice] at hk; cases hk), h.col.keeps hk h2 (fun k hk => by cases hk) (fun k hk => by cases hk), h.lo⟩
def tupB (a : List ByteArray) (b : List Nat) (c : List (List ByteArray)) : List UInt8 := encB (a.map sl) ++ (u32s b ++ arrB c)
set_option maxRecDepth 100000 in
set_option maxHeartbeats 4000000 in
theorem arTuple (w : World) (Ea : Option Addr) (na ka : Nat) (a : List ByteArray) (Eb : Option Addr) (nb kb : Nat) (b : List Nat) (Ec : Option Addr) (nc kc : Nat) (c : List (List ByteArray)) (ha : a.length = na) (hb : b.length = nb) (hc : c.length = nc)
    (hRa : Rd w 1 Ea na (a.map Value.string)) (hRb : Rd w 1 Eb nb (nv b)) (hRc : RowsOf w Ec c) (xa : ∀ x ∈ a, x.size ≤ 1000) (xc : ∀ L ∈ c, ∀ x ∈ L, x.size ≤ 1000) (la : na ≤ 1000) (lb : nb ≤ 1000) (lc : nc ≤ 1000) (fc : c.flatten.length ≤ 1000)
    (sa : (a.map sl).flatten.length ≤ 1000000) (sc : (c.flatten.map sl).flatten.length ≤ 1000000) (st : (tupB a b c).length ≤ 1000000) :
    Calls Tryz.prog 12 #[.slice Ea na ka, .slice Eb nb kb, .slice Ec nc kc] w fun e w' => ArOk w (tupB a b c) e w' := by
  have HA := Lib.hid (And.intro ha (And.intro hRa (And.intro xa sa)))
  have HB := Lib.hid (And.intro hb hRb)
  have HC := Lib.hid (And.intro hc (And.intro hRc (And.intro xc (And.intro fc sc))))
  have HT := Lib.hid st
  have HS := Lib.hid (fun w => strsNew w)
  clear ha hb hc hRa hRb hRc xa xc fc sa sc st
  have KA := Lib.hid ((Keeps.refl (fun _ => False) w).alloc (.cells #[.slice none 0 0, .slice none 0 0] 59))
  have KB := Lib.hid ((Keeps.refl (fun _ => False) (w.alloc (.cells #[.slice none 0 0, .slice none 0 0] 59))).alloc (.cells #[.slice none 0 0] 68))
  have X0 := Lib.hid (colNew w (base := w.heap.size) (Nat.le_refl _))
  have hY0 := numNew (w.alloc (.cells #[.slice none 0 0, .slice none 0 0] 59)) (base := w.heap.size) (by rw [World.size_alloc]; omega)
  rw [World.size_alloc] at hY0
  have Y0 := Lib.hid hY0
  clear hY0
  go_enter Tryz.func12, Tryz.ntmps12
  go_wp2_with fail
  refine (HS.out _).mono ?_
  rintro e w3 ⟨ga, gs, rfl, K3, hZ⟩
  simp only [World.size_alloc] at hZ
  have hlz := hZ.lo
  have hlg := hZ.col.lo
  have hga := hZ.blk.lt
  have hgs := hZ.col.blk.lt
  have hX3 := (X0.out.new KB.out).new K3
  have hY3 := Y0.out.new K3
  have hx0 := hX3.blk.lt
  have hy0 := hY3.blk.lt
  have HK3 := Lib.hid ((KA.out.trans KB.out (fun _ _ h => h)).trans K3 (fun _ _ h => h))
  have HX := Lib.hid (colAppendArr w3 w.heap.size w.heap.size none 0 none 0 [] Ea na ka a hX3 (by simp) (by simp) HA.out.1 (HA.out.2.1.keeps HK3.out (fun _ _ h => h)) (fun h0 k hk => by
    obtain ⟨ad2, e, hb2, _⟩ := HA.out.2.1.2 h0
    rw [e] at hk
    injection hk with hk
    have hk2 : ad2.block = k := hk
    exact ⟨by omega, (fun h => by cases h), (fun h => by cases h)⟩) HA.out.2.2.1 (by omega))
  have HY3 := Lib.hid hY3
  have HZ3 := Lib.hid hZ
  clear hX3 hY3 hZ K3
  go_wp2_with fail
  refine HX.out.mono ?_
  rintro e w4 ⟨A1, c1, B1, d1, rfl, hP⟩
  rw [List.nil_append] at hP
  have hs4 := hP.keeps.size
  have hK4 : Keeps (fun _ => False) w w4 := HK3.out.trans hP.keeps (by
    rintro i hi (h | h | h)
    · omega
    · cases h
    · cases h)
  have hfA : ∀ k, ob A1 = some k → w3.heap.size ≤ k := fun k hk => by
    rcases hP.rowA with h | h
    · rw [h] at hk; cases hk
    · exact h k hk
  have hfB : ∀ k, ob B1 = some k → w3.heap.size ≤ k := fun k hk => by
    rcases hP.rowB with h | h
    · rw [h] at hk; cases hk
    · exact h k hk
  have hS4 : ∀ i, i ≠ w.heap.size → ¬ (i = w.heap.size ∨ ob (none : Option Addr) = some i ∨ ob (none : Option Addr) = some i) := by
    rintro i h (h' | h' | h')
    · exact h h'
    · cases h'
    · cases h'
  have hY4 := HY3.out.keeps hP.keeps (hS4 _ (by omega)) (fun k hk => by cases hk)
  have hZ4 := HZ3.out.keepsN hP.keeps (hS4 _ (by omega)) (hS4 _ (by omega))
  have HN := Lib.hid (numAppendArr w4 w.heap.size (w.heap.size + 1) none 0 [] Eb nb kb b hY4 (by simp) (by omega) HB.out.1 (HB.out.2.keeps hK4 (fun _ _ h => h)))
  have HX4 := Lib.hid hP.at'
  have HZ4 := Lib.hid hZ4
  have HK4 := Lib.hid hK4
  have HFA := Lib.hid hfA
  have HFB := Lib.hid hfB
  clear hP hK4 hS4 hY4 hZ4 hfA hfB
  go_wp2_with fail
  refine HN.out.mono ?_
  rintro e w5 ⟨A2, c2, rfl, hN, K5, hf2⟩
  rw [List.nil_append] at hN
  have hs5 := K5.size
  have hf2' : ∀ k, ob A2 = some k → w4.heap.size ≤ k := fun k hk => by
    rcases hf2 with h | h
    · rw [h] at hk; cases hk
    · exact h k hk
  have hK5 : Keeps (fun _ => False) w w5 := HK4.out.trans K5 (by
    rintro i hi (h | h)
    · omega
    · cases h)
  have hS5 : ∀ i, i ≠ w.heap.size + 1 → ¬ (i = w.heap.size + 1 ∨ ob (none : Option Addr) = some i) := by
    rintro i h (h' | h')
    · exact h h'
    · cases h'
  have hX5 := HX4.out.keeps K5 (hS5 _ (by omega)) (fun k hk => hS5 _ (by have := HFA.out k hk; omega)) (fun k hk => hS5 _ (by have := HFB.out k hk; omega))
  have hZ5 := HZ4.out.keepsN K5 (hS5 _ (by omega)) (hS5 _ (by omega))
  have HAR := Lib.hid (arrAppendArr w w5 (w.heap.size + 1 + 1) ga gs Ec nc kc c hZ5 HC.out.1 HC.out.2.1 hK5 (by omega) HC.out.2.2.1 HC.out.2.2.2.1 lc)
  have HX5 := Lib.hid hX5
  have HY5 := Lib.hid hN
  have HK5 := Lib.hid hK5
  have HF2 := Lib.hid hf2'
  clear hX5 hZ5 hN hK5 hS5 K5 hf2 hf2'
  go_wp2_with fail
  refine HAR.out.mono ?_
  rintro e w6 ⟨O, ko, A3, c3, B3, d3, rfl, hQ⟩
  have hs6 := hQ.keeps.size
  have hS6 : ∀ i, i ≠ ga → i ≠ gs → ¬ ArrS ga gs none none none i := by
    rintro i h1 h2 (h | h | h | h | h)
    · exact h1 h
    · cases h
    · exact h2 h
    · cases h
    · cases h
  have hX6 := HX5.out.keeps hQ.keeps (hS6 _ (by omega) (by omega)) (fun k hk => by have := HFA.out k hk; exact hS6 _ (by omega) (by omega)) (fun k hk => by have := HFB.out k hk; exact hS6 _ (by omega) (by omega))
  have hY6 := HY5.out.keeps hQ.keeps (hS6 _ (by omega) (by omega)) (fun k hk => by have := HF2.out k hk; exact hS6 _ (by omega) (by omega))
  have hK6 : Keeps (fun _ => False) w w6 := HK5.out.trans hQ.keeps (by
    rintro i hi h
    exact hS6 i (by omega) (by omega) h)
  have KT := (Keeps.refl (fun _ => False) w6).alloc (.cells #[.iface 56 (.pointer (some ⟨w.heap.size, 0, none⟩)), .iface 67 (.pointer (some ⟨w.heap.size + 1, 0, none⟩)), .iface 51 (.pointer (some ⟨ga, 0, none⟩))] 77)
  have hWT := Whole.new w6 77 #[.iface 56 (.pointer (some ⟨w.heap.size, 0, none⟩)), .iface 67 (.pointer (some ⟨w.heap.size + 1, 0, none⟩)), .iface 51 (.pointer (some ⟨ga, 0, none⟩))]
  have hX7 := hX6.new KT
  have hY7 := hY6.new KT
  have hZ7 := hQ.at'.new KT
  have htc : tcB [⟨56, .pointer (some ⟨w.heap.size, 0, none⟩), encB (a.map sl)⟩, ⟨67, .pointer (some ⟨w.heap.size + 1, 0, none⟩), u32s b⟩, ⟨51, .pointer (some ⟨ga, 0, none⟩), arrB c⟩] = tupB a b c := by simp [tcB, tupB]
  have HEN := Lib.hid (encodesTuple _ (some ⟨w6.heap.size, 0, none⟩) 3 3 [⟨56, .pointer (some ⟨w.heap.size, 0, none⟩), encB (a.map sl)⟩, ⟨67, .pointer (some ⟨w.heap.size + 1, 0, none⟩), u32s b⟩, ⟨51, .pointer (some ⟨ga, 0, none⟩), arrB c⟩] rfl (Rd.whole hWT rfl rfl) (fun w' K q hq => by
    have h1 := HA.out.1
    have h2 := HB.out.1
    have h3 := HC.out.1
    rcases List.mem_cons.1 hq with rfl | hq
    · exact ⟨strEncodes (hX7.new K) HA.out.2.2.2 (by rw [List.length_map]; omega), strReady _ _ _⟩
    rcases List.mem_cons.1 hq with rfl | hq
    · exact ⟨numEncodes (hY7.new K) (by omega), numReady _ _ _⟩
    rw [List.mem_singleton.1 hq]
    exact ⟨arrEncodes (hZ7.new K) (by omega) HC.out.2.2.2.2 (by have := HC.out.2.2.2.1; omega), arrReady _ (hZ7.new K).blk⟩) (by rw [htc]; exact HT.out) (by omega))
  rw [htc] at HEN
  have HK6 := Lib.hid (hK6.trans KT (fun _ _ h => h))
  clear hX6 hY6 hX7 hY7 hZ7 hQ hK6 KT hWT hS6 htc
  generalize htl : tupB a b c = l at *
  have HTL := Lib.hid htl
  clear htl
  go_wp2_with fail
  refine HEN.out.mono ?_
  rintro e w8 ⟨Az, cz, bz, rfl, hbz, hoz, Kz⟩
  go_wp2_with fail
  go_ret2
  rw [HTL.out]
  exact ArOk.of HK6.out ⟨Az, cz, bz, rfl, hbz, hoz, Kz⟩
end Go.Proofs.YtpbnhhfpbadhjaaGreat
