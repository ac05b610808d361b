/- A column of strings: strings appended. Conditions: sizes far below the machine's. -/
import Derived.Test.YtpbnhhfpbadhjaaGreatSc
import Derived.Test.YtpbnhhfpbadhjaaGreatArL
namespace Go.Proofs.YtpbnhhfpbadhjaaGreat
open Go.RowKit Go.Lib
set_option linter.unusedVariables false
theorem infoPos : (Tryz.prog.info? 238).map (fun i => (i.zero, i.size, i.bytes)) = some (some (.agg #[.int .i64 0, .int .i64 0]), 2, 16) := by kernel_rfl
def ColRes (w : World) (base g : Nat) (A B : Option Addr) (L : List (List UInt8)) (e : Ending) (w' : World) : Prop := ∃ A' c' B' d', e = .returned (.tuple #[]) ∧ ColPut w w' base g A B A' c' B' d' L

set_option maxRecDepth 100000 in
set_option maxHeartbeats 2000000 in
theorem colAppend (w : World) (base g : Nat) (A : Option Addr) (c : Nat) (B : Option Addr) (d : Nat) (L : List (List UInt8)) (v : ByteArray) (hC : ColAt w base g A c B d L) (hn : L.flatten.length ≤ 1000000000) (hL : L.length ≤ 1000000) (hv : v.size ≤ 1000000) :
    Calls Tryz.prog 42 #[.pointer (some ⟨g, 0, none⟩), .string v] w fun e w' => ColRes w base g A B (L ++ [sl v]) e w' := by
  obtain ⟨i0, hi0, hz0, hz1, hz2⟩ := info_parts infoU8
  obtain ⟨j0, hj0, hy0, hy1, hy2⟩ := info_parts infoPos
  have hlt := hC.blk.lt
  have hbase : base ≤ w.heap.size := by have := hC.lo; omega
  have nA : ob A ≠ some g := by have := own_far hC.buf hC.blk (by decide); rwa [ownBlock_slice] at this
  have nB : ob B ≠ some g := by have := own_far hC.pos hC.blk (by decide); rwa [ownBlock_slice] at this
  have nAB : ∀ k, ob B = some k → ob A ≠ some k := by have := own_apart hC.pos hC.buf (by decide); simpa only [ownBlock_slice] using this
  have c0 : w.cell? ⟨g, 0, none⟩ = some (.slice A L.flatten.length c) := hC.blk.cell 0
  have c1 : w.cell? ⟨g, 1, none⟩ = some (.slice B L.length d) := hC.blk.cell 1
  have hfl : (L ++ [sl v]).flatten = L.flatten ++ sl v := by simp
  have hln : (L ++ [sl v]).length = L.length + 1 := by simp
  have hps := posCells_snoc 0 L (sl v)
  rw [Nat.zero_add, sl_length] at hps
  have HC := Lib.hid hC
  have HB := Lib.hid (show w.ownsRow base 5 1 (.slice A L.flatten.length c) L.flatten.length (Lib.byteCells L.flatten) from hC.buf)
  have HP := Lib.hid (show w.ownsRow base 238 2 (.slice B L.length d) L.length (posCells 0 L) from hC.pos)
  have HW := Lib.hid (show Whole w g 59 #[.slice A L.flatten.length c, .slice B L.length d] from hC.blk)
  have HFL := Lib.hid hfl
  have HLN := Lib.hid hln
  have HPS := Lib.hid hps
  clear hfl hln hps hC
  generalize hN : L.flatten.length = N at *
  generalize hM : L.length = M at *
  have HN := Lib.hid hN
  have HM := Lib.hid hM
  clear hN hM
  go_enter Tryz.func42, Tryz.ntmps42
  go_wp2_with (first
    | (at_builtin
       refine wpList_append_str _ rfl (.tmp 15) (.tmp 16) _ _ rfl base 5 i0 Tryz.underlying33 Tryz.underlying9 hi0 hz0 hz1 hz2 A c N _ rfl HB.out v rfl (by simp only [maxLen]; omega) (by omega) hbase ?_
       intro A1 k1 w1 o1 hg1 hat1
       have K1 := (Keeps.refl (fun i => ob A = some i) w).grown hg1 (fun k hk => .inl hk)
       have hb1 := HW.out.keeps K1 nA
       have e0 : w1.cell? ⟨g, 0, none⟩ = some (.slice A N c) := hb1.cell 0
       have e1 : w1.cell? ⟨g, 1, none⟩ = some (.slice B M d) := hb1.cell 1
       have f0 : w1.frozen? ⟨g, 0, none⟩ = false := hb1.frozen 0
       have f1 : w1.frozen? ⟨g, 1, none⟩ = false := hb1.frozen 1
       have hl1 := hb1.lt
       have p1 := own_keeps HP.out K1 (fun k hk => by rw [ownBlock_slice] at hk; exact nAB k hk)
       have K2 := (Keeps.refl (fun i => i = g) w1).setCell (p := ⟨g, 0, none⟩) (.inl rfl) (.slice A1 (N + v.size) k1)
       have hb2 := hb1.put 0 (.slice A1 (N + v.size) k1)
       have nA1 : ob A1 ≠ some g := by have := own_far o1 hb1 (by decide); rwa [ownBlock_slice] at this
       have o2 := own_keeps o1 K2 (fun k hk h => by rw [ownBlock_slice] at hk; rw [h] at hk; exact nA1 hk)
       have p2 := own_keeps p1 K2 (fun k hk h => by rw [ownBlock_slice] at hk; rw [h] at hk; exact nB hk)
       have K3 := (Keeps.refl (fun _ => False) (w1.setCell ⟨g, 0, none⟩ (.slice A1 (N + v.size) k1))).alloc (.cells #[.int .i64 (N : Int), .int .i64 ((N : Int) + (v.size : Int))] 238)
       have o3 := own_keeps o2 K3 (fun _ _ h => h)
       have p3 := own_keeps p2 K3 (fun _ _ h => h)
       have hb3 := hb2.keeps K3 (fun h => h)
       have hs3 : (World.heap ((w1.setCell ⟨g, 0, none⟩ (.slice A1 (N + v.size) k1)).alloc (.cells #[.int .i64 (N : Int), .int .i64 ((N : Int) + (v.size : Int))] 238))).size = w1.heap.size + 1 := by simp
       have hrd : Rd ((w1.setCell ⟨g, 0, none⟩ (.slice A1 (N + v.size) k1)).alloc (.cells #[.int .i64 (N : Int), .int .i64 ((N : Int) + (v.size : Int))] 238)) 2 (some ⟨w1.heap.size, 0, none⟩) 1 [.int .i64 (N : Int), .int .i64 ((N : Int) + (v.size : Int))] := by
         have hw := Whole.new (w1.setCell ⟨g, 0, none⟩ (.slice A1 (N + v.size) k1)) 238 #[.int .i64 (N : Int), .int .i64 ((N : Int) + (v.size : Int))]
         have hsz : (World.heap (w1.setCell ⟨g, 0, none⟩ (.slice A1 (N + v.size) k1))).size = w1.heap.size := by simp
         rw [hsz] at hw
         exact ⟨rfl, fun _ => ⟨_, rfl, hw.lt, fun j u hu => by rw [add_lit', Nat.zero_add, hw.cell j, ← Array.getElem?_toList]; exact hu⟩⟩
       have HS3 := Lib.hid hs3
       clear hs3)
    | (at_builtin
       refine wpList_append_rd _ rfl (.tmp 29) (.tmp 33) _ rfl base 238 j0 _ 2 16 Tryz.underlying57 hj0 hy0 hy1 hy2 rfl (by omega) B d M _ rfl p3 (some ⟨w1.heap.size, 0, none⟩) 1 1 [.int .i64 (N : Int), .int .i64 ((N : Int) + (v.size : Int))] rfl hrd (by intro u hu; rcases List.mem_cons.1 hu with rfl | hu; rfl; rw [List.mem_singleton.1 hu]; rfl) (by simp only [maxLen]; omega) (by omega) (by have := HS3.out; have := K1.size; omega) ?_
       intro B1 k2 w4 o4 hg4 hat4
       have K4 := (Keeps.refl (fun i => ob B = some i) _).grown hg4 (fun k hk => .inl hk)
       have hb4 := hb3.keeps K4 nB
       have e40 : w4.cell? ⟨g, 1, none⟩ = some (.slice B M d) := hb4.cell 1
       have f40 : w4.frozen? ⟨g, 1, none⟩ = false := hb4.frozen 1
       have hl4 := hb4.lt))
  go_end0
  have nB1 : ob B1 ≠ some g := by have := own_far o4 hb4 (by decide); rwa [ownBlock_slice] at this
  have nAB1 : ∀ k, ob A1 = some k → ob B ≠ some k := by have := own_apart o3 p3 (by decide); simpa only [ownBlock_slice] using this
  have b4 := own_keeps o3 K4 (fun k hk => by rw [ownBlock_slice] at hk; exact nAB1 k hk)
  have K5 := (Keeps.refl (fun i => i = g) w4).setCell (p := ⟨g, 1, none⟩) (.inl rfl) (.slice B1 (M + 1) k2)
  have hb5 := hb4.put 1 (.slice B1 (M + 1) k2)
  have o5 := own_keeps o4 K5 (fun k hk h => by rw [ownBlock_slice] at hk; rw [h] at hk; exact nB1 hk)
  have b5 := own_keeps b4 K5 (fun k hk h => by rw [ownBlock_slice] at hk; rw [h] at hk; exact nA1 hk)
  have hlen : (L ++ [sl v]).flatten.length = N + v.size := by rw [HFL.out, List.length_append, HN.out, sl_length]
  have hsum : (N : Int) + (v.size : Int) = ((N + v.size : Nat) : Int) := by omega
  refine ⟨A1, k1, B1, k2, rfl, ⟨⟨?_, ?_, ?_, HC.out.lo⟩, ?_, ?_, ?_⟩⟩
  · rw [hlen, HLN.out]
    exact hb5
  · rw [hlen, HFL.out, Lib.byteCells_append]
    exact b5
  · rw [HLN.out, HPS.out]
    rw [hsum] at o5
    exact o5
  · refine ((((K1.mono (S' := fun k => k = g ∨ ob A = some k ∨ ob B = some k) (fun _ _ h => .inr (.inl h))).trans K2 (fun _ _ h => .inl h)).trans K3 (fun _ _ h => h.elim)).trans K4 (fun _ _ h => .inr (.inr h))).trans K5 (fun _ _ h => .inl h)
  · rcases hat1 with h | h
    · exact .inl h
    · exact .inr fun k hk => by rw [h] at hk; injection hk with hk; omega
  · rcases hat4 with h | h
    · exact .inl h
    · exact .inr fun k hk => by rw [h] at hk; injection hk with hk; have := HS3.out; have := K1.size; omega

theorem flat_map_sl (L : List (List UInt8)) (xs : List ByteArray) (k : Nat) (h : ∀ x ∈ xs, x.size ≤ 1000) : (L ++ (xs.take k).map sl).flatten.length ≤ L.flatten.length + k * 1000 := by
  induction k with
  | zero => simp
  | succ k ih =>
    rcases Nat.lt_or_ge k xs.length with hlt | hge
    · rw [List.take_add_one, List.getElem?_eq_getElem hlt]
      have := h _ (List.getElem_mem hlt)
      simp only [Option.toList, List.map_append, List.map_cons, List.map_nil, List.flatten_append, List.length_append, List.flatten_cons, List.flatten_nil, List.append_nil, sl_length] at ih ⊢
      omega
    · rw [List.take_of_length_le (by omega)]
      rw [List.take_of_length_le (by omega)] at ih
      exact Nat.le_trans ih (Nat.add_le_add_left (Nat.mul_le_mul_right _ (Nat.le_succ k)) _)

set_option maxRecDepth 100000 in
set_option maxHeartbeats 2000000 in
theorem colAppendArr (w : World) (base g : Nat) (A : Option Addr) (c : Nat) (B : Option Addr) (d : Nat) (L : List (List UInt8)) (E : Option Addr) (n k0 : Nat) (xs : List ByteArray) (hC : ColAt w base g A c B d L) (hn : L.flatten.length ≤ 10000000) (hL : L.length ≤ 100000) (hl : xs.length = n) (hR : Rd w 1 E n (xs.map Value.string)) (hE : 0 < n → ∀ k, ob E = some k → k ≠ g ∧ ob A ≠ some k ∧ ob B ≠ some k) (hx : ∀ x ∈ xs, x.size ≤ 1000) (hnn : n ≤ 10000) :
    Calls Tryz.prog 30 #[.pointer (some ⟨g, 0, none⟩), .slice E n k0] w fun e w' => ColRes w base g A B (L ++ xs.map sl) e w' := by
  have HR := Lib.hid hR
  have HL := Lib.hid hl
  have HX := Lib.hid hx
  have HC := Lib.hid hC
  have HE := Lib.hid hE
  have HF := Lib.hid (fun k => flat_map_sl L xs k hx)
  clear hR hl hx hC hE
  go_enter Tryz.func30, Tryz.ntmps30
  go_wp2_with fail
  go_loopw [8] (fun i wr => ∃ (k : Nat) (A1 : Option Addr) (c1 : Nat) (B1 : Option Addr) (d1 : Nat), k ≤ n ∧ i = .int .i64 k ∧ ColPut w wr base g A B A1 c1 B1 d1 (L ++ (xs.take k).map sl)) (fun i _ => n - (RowKit.intOf i).toNat)
  case atStart => exact ⟨0, A, c, B, d, Nat.zero_le _, rfl, by simpa using ColPut.refl HC.out⟩
  case round =>
    obtain ⟨k, A1, c1, B1, d1, hk, rfl, hP⟩ := hrel
    have HP := Lib.hid hP
    clear hP
    by_cases hlt : k < n
    · obtain ⟨x, hx⟩ : ∃ x, xs[k]? = some x := ⟨_, List.getElem?_eq_getElem (by rw [HL.out]; exact hlt)⟩
      have HT := Lib.hid (show L ++ (xs.take (k + 1)).map sl = (L ++ (xs.take k).map sl) ++ [sl x] by rw [List.take_add_one, hx]; simp)
      have hRw : Rd wr 1 E n (xs.map Value.string) := HR.out.keeps HP.out.keeps (fun i hi h => by
        obtain ⟨h1, h2, h3⟩ := HE.out (by omega) i hi
        rcases h with h | h | h
        · exact h1 h
        · exact h2 h
        · exact h3 h)
      obtain ⟨ad, u, rfl, hb, hu, hcell⟩ := hRw.at' hlt
      have hu' : u = .string x := by
        rw [List.getElem?_map, hx] at hu
        injection hu with hu
        exact hu.symm
      subst hu'
      have hxs := HX.out x (List.mem_of_getElem? hx)
      have HA := Lib.hid (colAppend wr base g A1 c1 B1 d1 (L ++ (xs.take k).map sl) x HP.out.at' (by have := HF.out k; omega) (by rw [List.length_append, List.length_map, List.length_take]; omega) (by omega))
      clear hu hx hRw
      go_wp2_with fail
      refine HA.out.mono ?_
      rintro e w2 ⟨A2, c2, B2, d2, rfl, hP2⟩
      rw [← HT.out] at hP2
      have HP2 := Lib.hid (HP.out.trans hP2)
      clear hP2
      go_wp2_with fail
      go_roundw
      case rel => exact ⟨k + 1, A2, c2, B2, d2, by omega, by go_num, HP2.out⟩
      case measure => (first | (simp [RowKit.intOf]; done) | (simp [RowKit.intOf]; omega))
    · have hkn : k = n := by omega
      subst hkn
      have hfin := HP.out
      rw [List.take_of_length_le (by rw [HL.out]; exact Nat.le_refl _)] at hfin
      have HFIN := Lib.hid hfin
      clear hfin
      go_wp2_with fail
      go_end0
      exact ⟨A1, c1, B1, d1, rfl, HFIN.out⟩

set_option maxRecDepth 100000 in
set_option maxHeartbeats 400000 in
theorem colRowsV (w : World) (A B : Option Addr) (m c n d : Nat) : Calls Tryz.prog 144 #[.agg #[.slice A m c, .slice B n d]] w fun e w' => e = .returned (.int .i64 n) ∧ Keeps (fun _ => False) w w' := by
  go_enter Tryz.func144, Tryz.ntmps144
  go_wp2
  go_ret
  exact ⟨rfl, (Keeps.refl (fun _ => False) w).alloc _⟩
end Go.Proofs.YtpbnhhfpbadhjaaGreat
