/- The law of FnXNumbers. Conditions: the rows read as lists of numbers of 32 bits. -/
import Derived.Test.YtoilbojaenfalaaGreatKh
import Derived.Test.YtoilbojaenfalaaGreatNo
import Derived.Test.YtoilbojaenfalaaGreatFn
import Derived.Test.YtoilbojaenfalaaGreatClone
namespace Go.Proofs.YtoilbojaenfalaaGreat
open Go.RowKit Go.Lib
set_option linter.unusedVariables false
theorem wpList_append_rdg {P : Program} {w : World} {ops : Array Oper} {rest : List Oper} {o : Oper} {a : Act} {Q : Exit → Act → World → Prop} (hw : Region.wanted o (yielded ops a.tmps) = true) (s x : Operand) (t : TypeId)
    (ho : o.op = .call { callee := .builtin .append, args := #[s, x], argTypes := #[t, t] })
    (base : Nat) (e : TypeId) (i : TypeInfo) (z : Value) (size bytes : Nat) (ht : P.underlying t = some (.slice e)) (hi : P.info? e = some i) (hz : i.zero = some z)
    (hsize : i.size = size) (hby : i.bytes = bytes) (hzs : z.cells.size = size) (hsz : 0 < size)
    (A : Option Addr) (c n : Nat) (xs : List Value) (hs : a.eval s = .slice A n c) (hown : w.ownsRow base e size (.slice A n c) n xs)
    (A2 : Option Addr) (m c2 : Nat) (news : List Value) (hx : a.eval x = .slice A2 m c2) (hr : Rd w size A2 m news) (h1 : ∀ u ∈ news, u.oneCell' = true)
    (h63 : n + m ≤ maxLen) (hbytes : (n + m) * bytes ≤ 140737488355328) (hbase : base ≤ w.heap.size)
    (h : ∀ A' c' w', w'.ownsRow base e size (.slice A' (n + m) c') (n + m) (xs ++ news) → w.grownBy w' (ob A) → (ob A' = ob A ∨ ob A' = some w.heap.size) → wpList P ops Q rest (a.put o.dst (.slice A' (n + m) c')) w') : wpList P ops Q (o :: rest) a w :=
  wpList_step fun K hK => by
    rw [if_pos hw]
    exact wp_append_rd w s x t ho base e i z size bytes ht hi hz hsize hby hzs hsz A c n xs hs hown A2 m c2 news hx hr h1 h63 hbytes hbase fun A' c' w' h2 h3 h4 => hK _ _ (h A' c' w' h2 h3 h4)
theorem oneZ (z : Int) : ∀ u ∈ [Value.int .u64 z, .int .u64 0, .int .u64 0, .int .u64 0], u.oneCell' = true := by
  intro u hu
  simp only [List.mem_cons, List.not_mem_nil, or_false] at hu
  rcases hu with rfl | rfl | rfl | rfl <;> rfl
theorem ends_le : ∀ {s : Nat} {l : List Nat} {x : Nat}, x ∈ ends s l → x ≤ s + l.sum
  | _, [], _, h => by cases h
  | s, k :: r, x, h => by
    rw [ends, List.mem_cons] at h
    rw [List.sum_cons]
    rcases h with rfl | h
    · omega
    · have := ends_le h
      omega
theorem RowsIn.new {w w' : World} {A : Option Addr} {LL : List (List Nat)} (h : RowsIn w A LL) (k : Keeps (fun _ => False) w w') : RowsIn w' A LL := fun i X hX => by
  obtain ⟨ad, B, d, e, hl, hc, hd, hr⟩ := h i X hX
  exact ⟨ad, B, d, e, Nat.lt_of_lt_of_le hl k.size, (k.cell (by rw [blk_add]; exact hl) (fun h => h)).trans hc, hd, hr.keeps k (fun _ _ h => h)⟩
theorem numsOf_rowsIn {w : World} {A : Option Addr} {LL : List (List Nat)} (h : RowsIn w A LL) : NumsOf w A LL := fun i xs hx => by
  rw [List.getElem?_map] at hx
  obtain ⟨X, hX, rfl⟩ := Option.map_eq_some_iff.mp hx
  obtain ⟨ad, B, d, e, hl, hc, hd, hr⟩ := h i X hX
  have hn : (nv X).length = X.length := by rw [nv, List.length_map]
  rw [← hn] at hc hr
  exact ⟨ad, B, d, e, hl, hc, hr⟩
theorem rowsN_app (xs : List Nat) (x : Nat) : (xs.map rowN).flatten ++ [.int .u64 (x : Int), .int .u64 0, .int .u64 0, .int .u64 0] = ((xs ++ [x]).map rowN).flatten := by simp [rowN]
theorem rowsN_len (xs : List Nat) : (xs.map rowN).flatten.length = xs.length * 4 := by
  induction xs with
  | nil => rfl
  | cons x r ih => rw [List.map_cons, List.flatten_cons, List.length_append, ih]; simp [rowN]; omega
theorem rowsN_rs (xs : List Nat) : (xs.map rowN).flatten = ((xs.map (fun x : Nat => ((x : Int), (0 : Int), (0 : Int), (0 : Int)))).map rowC).flatten := by
  rw [List.map_map]; rfl
set_option maxRecDepth 100000 in
set_option maxHeartbeats 4000000 in
theorem xnWalk (w : World) (E : Option Addr) (n c : Nat) (LL : List (List Nat)) (hl : LL.length = n) (hR : RowsIn w E LL) (hn : n ≤ 9223372036854775807) (hi : ∀ X ∈ LL, X.length ≤ 9223372036854775807) (hxs : ∀ X ∈ LL, ∀ x ∈ X, x < 4294967296) : Calls Tryz.prog 3 #[.slice E n c] w fun e w' => e = .returned (.bool true) ∧ Below w.heap.size w w' := by
  obtain ⟨i0, hi0, hz0, hz1, hz2⟩ := info_parts infoR4
  have HF := Lib.hid (fits3 w E n c LL hl hR hn)
  have HL := Lib.hid hl
  have HR := Lib.hid hR
  have HI := Lib.hid hi
  have HX := Lib.hid hxs
  clear hl hR hi hxs
  go_enter Tryz.func3, Tryz.ntmps3
  go_wp2_with fail
  refine HF.out.mono ?_
  rintro e w1 ⟨⟨b, rfl⟩, rfl⟩
  rcases b with _ | _
  · go_wp2_with fail
    go_ret
    exact ⟨rfl, Below.refl _ _⟩
  by_cases h20 : (20 : Int) < (n : Int)
  · go_wp2_with fail
    go_ret
    exact ⟨rfl, Below.refl _ _⟩
  go_wp2_with fail
  go_loopw [3, 4, 19] (fun v e i wr => ∃ (k M : Nat) (A1 : Option Addr) (c1 : Nat) (B1 : Option Addr) (d1 : Nat), k ≤ n ∧ i = .int .i64 k ∧ v = .slice A1 M c1 ∧ e = .slice B1 k d1 ∧ Hid (M = (LL.take k).flatten.length ∧ M ≤ 12 * k) ∧ Hid (wr.ownsRow w.heap.size 29 4 (.slice A1 M c1) M (((LL.take k).flatten.map rowN).flatten)) ∧ Hid (wr.ownsRow w.heap.size 29 4 (.slice B1 k d1) k (((ends 0 ((LL.take k).map List.length)).map rowN).flatten)) ∧ Hid (∀ q, ob A1 = some q → ob B1 ≠ some q) ∧ Hid (Keeps (fun _ => False) w wr)) (fun _ _ i _ => n - (RowKit.intOf i).toNat)
  case atStart => exact ⟨0, 0, none, 0, none, 0, Nat.zero_le _, rfl, rfl, rfl, Lib.hid (by simp), Lib.hid (World.ownsRow_nil _ _ _ _), Lib.hid (World.ownsRow_nil _ _ _ _), Lib.hid (fun q h => by cases h), Lib.hid (Keeps.refl _ _)⟩
  case round =>
    obtain ⟨k, M, A1, c1, B1, d1, hk, rfl, rfl, rfl, HM, HA, HB, HDIS, HK⟩ := hrel
    by_cases hlt : k < n
    · obtain ⟨X, hX⟩ : ∃ X, LL[k]? = some X := ⟨_, List.getElem?_eq_getElem (by rw [HL.out]; exact hlt)⟩
      obtain ⟨ad, B, d, rfl, hb, hcell0, hXd, hRX⟩ := HR.out k X hX
      have hcell : wr.cell? (ad.add k) = some (.slice B X.length d) := (HK.out.cell (by rw [blk_add]; exact hb) (fun h => h)).trans hcell0
      obtain ⟨m, hm⟩ : ∃ m, m = X.length := ⟨_, rfl⟩
      have hxb := HX.out X (List.mem_of_getElem? hX)
      have hmi := HI.out X (List.mem_of_getElem? hX)
      rw [← hm] at hcell hRX hmi
      have HMX := Lib.hid hm
      have HRX := Lib.hid hRX
      have HXB := Lib.hid hxb
      have HLX := Lib.hid hX
      clear hcell0 hXd hRX hm hxb hX
      by_cases h12 : (12 : Int) < (m : Int)
      · go_wp2_with fail
        go_ret
        exact ⟨rfl, HK.out.below (Nat.le_refl _) (fun _ h => h.elim)⟩
      go_wp2_with fail
      go_loopw [3, 28] (fun v j w2 => ∃ (q : Nat) (A2 : Option Addr) (c2 : Nat), q ≤ m ∧ j = .int .i64 q ∧ v = .slice A2 (M + q) c2 ∧ Hid (w2.ownsRow w.heap.size 29 4 (.slice A2 (M + q) c2) (M + q) ((((LL.take k).flatten ++ X.take q).map rowN).flatten)) ∧ Hid (w2.ownsRow w.heap.size 29 4 (.slice B1 k d1) k (((ends 0 ((LL.take k).map List.length)).map rowN).flatten)) ∧ Hid (∀ q, ob A2 = some q → ob B1 ≠ some q) ∧ Hid (Keeps (fun _ => False) w w2)) (fun _ j _ => m - (RowKit.intOf j).toNat)
      case atStart => exact ⟨0, A1, c1, Nat.zero_le _, rfl, rfl, Lib.hid (by simpa using HA.out), HB, HDIS, HK⟩
      case round =>
        obtain ⟨q, A2, c2, hq, rfl, rfl, HA2, HB2, HD2, HK2⟩ := hrel
        by_cases hlq : q < m
        · obtain ⟨x, hx⟩ : ∃ x, X[q]? = some x := ⟨_, List.getElem?_eq_getElem (by rw [← HMX.out]; exact hlq)⟩
          obtain ⟨ae, u, hBe, hb2, hu, hc0⟩ := (HRX.out.keeps HK2.out (fun _ _ h => h)).at' hlq
          have hu' : u = .int .u32 (x : Int) := by
            rw [nv, List.getElem?_map, hx] at hu
            exact (Option.some.inj hu).symm
          subst hu' hBe
          have hx1 := HXB.out x (List.mem_of_getElem? hx)
          have hx2 : IntKind.u64.wrap (x : Int) = (x : Int) := by rw [IntKind.wrap_u64]; omega
          have HT := Lib.hid (show ((LL.take k).flatten ++ X.take q) ++ [x] = (LL.take k).flatten ++ X.take (q + 1) by rw [List.take_add_one, hx, List.append_assoc]; rfl)
          have HRA := Lib.hid (rowsN_app ((LL.take k).flatten ++ X.take q) x)
          rw [HT.out] at HRA
          have hM := HM.out.2
          have k1 := HK2.out.alloc (.cells #[.int .u64 (x : Int), .int .u64 0, .int .u64 0, .int .u64 0] 29)
          have k0 := (Keeps.refl (fun _ => False) wr).alloc (.cells #[.int .u64 (x : Int), .int .u64 0, .int .u64 0, .int .u64 0] 29)
          have howna := own_keeps HA2.out k0 (fun _ _ h => h)
          have hB1 := own_keeps HB2.out k0 (fun _ _ h => h)
          have hRd := Rd.whole4 (Whole.new wr 29 #[.int .u64 (x : Int), .int .u64 0, .int .u64 0, .int .u64 0])
          clear hu hx
          go_wp2_with (
            at_builtin
            refine wpList_append_rd _ rfl (.tmp 32) (.tmp 36) _ rfl w.heap.size 29 i0 _ 4 32 Tryz.underlying24 hi0 hz0 hz1 hz2 rfl (by omega) A2 c2 (M + q) _ rfl howna (some ⟨wr.heap.size, 0, none⟩) 1 1 _ rfl hRd (oneN x) (by simp only [maxLen]; omega) (by omega) k1.size ?_
            intro A3 c3 w3 hown3 hg3 hat3
            rw [HRA.out] at hown3)
          have kg := (Keeps.refl (fun i => ob A2 = some i) _).grown hg3 (fun i hi => .inl hi)
          have hB3 := own_keeps hB1 kg (fun i hi h => by rw [ownBlock_slice] at hi; exact HD2.out i h hi)
          have hlB := HB2.out.lt
          rw [ownBlock_slice] at hlB
          go_roundw
          case rel => exact ⟨q + 1, A3, c3, by omega, by go_num, rfl, Lib.hid hown3, Lib.hid hB3, Lib.hid (fun i hi he => by
            rcases hat3 with e | e
            · exact HD2.out i (e ▸ hi) he
            · rw [hi] at e
              injection e with e
              have := (hlB i he).2
              rw [World.size_alloc] at e
              omega), Lib.hid (k1.grown hg3 (fun i hi => .inr (howna.lt i (by rw [ownBlock_slice]; exact hi)).1))⟩
          case measure => (first | (simp [RowKit.intOf]; done) | (simp [RowKit.intOf]; omega))
        · have hqm : q = m := by omega
          subst hqm
          have hXm : X.take q = X := List.take_of_length_le (by have := HMX.out; omega)
          have HT1 := Lib.hid (show (LL.take k).flatten ++ X.take q = (LL.take (k + 1)).flatten by rw [hXm, List.take_add_one, HLX.out]; simp)
          have HT2 := Lib.hid (show ends 0 ((LL.take k).map List.length) ++ [M + q] = ends 0 ((LL.take (k + 1)).map List.length) by
            rw [List.take_add_one, HLX.out, List.map_append, show (some X).toList.map List.length = [X.length] from rfl, ends_snoc, HM.out.1, HMX.out, List.length_flatten, Nat.zero_add])
          have HRA := Lib.hid (rowsN_app (ends 0 ((LL.take k).map List.length)) (M + q))
          rw [HT2.out, Int.natCast_add] at HRA
          have hA1 := HA2.out
          rw [HT1.out] at hA1
          have HA1 := Lib.hid hA1
          have hM := HM.out.2
          have HMN := Lib.hid (show M + q = (LL.take (k + 1)).flatten.length by rw [← HT1.out, List.length_append, ← HM.out.1, hXm, HMX.out])
          have hx2 : IntKind.u64.wrap ((M : Int) + (q : Int)) = ((M + q : Nat) : Int) := by rw [IntKind.wrap_u64]; omega
          have hx3 : IntKind.u64.wrap ((M + q : Nat) : Int) = ((M + q : Nat) : Int) := by rw [IntKind.wrap_u64]; omega
          have k1 := HK2.out.alloc (.cells #[.int .u64 ((M : Int) + (q : Int)), .int .u64 0, .int .u64 0, .int .u64 0] 29)
          have k0 := (Keeps.refl (fun _ => False) wr).alloc (.cells #[.int .u64 ((M : Int) + (q : Int)), .int .u64 0, .int .u64 0, .int .u64 0] 29)
          have howna := own_keeps HB2.out k0 (fun _ _ h => h)
          have hAa := own_keeps HA1.out k0 (fun _ _ h => h)
          have hRd := Rd.whole4 (Whole.new wr 29 #[.int .u64 ((M : Int) + (q : Int)), .int .u64 0, .int .u64 0, .int .u64 0])
          clear hA1
          go_wp2_with (
            at_builtin
            refine wpList_append_rd _ rfl (.tmp 39) (.tmp 44) _ rfl w.heap.size 29 i0 _ 4 32 Tryz.underlying24 hi0 hz0 hz1 hz2 rfl (by omega) B1 d1 k _ rfl howna (some ⟨wr.heap.size, 0, none⟩) 1 1 _ rfl hRd (oneZ _) (by simp only [maxLen]; omega) (by omega) k1.size ?_
            intro A3 c3 w3 hown3 hg3 hat3
            rw [HRA.out] at hown3)
          have kg := (Keeps.refl (fun i => ob B1 = some i) _).grown hg3 (fun i hi => .inl hi)
          have hA3 := own_keeps hAa kg (fun i hi h => by rw [ownBlock_slice] at hi; exact HD2.out i hi h)
          have hlA := HA1.out.lt
          rw [ownBlock_slice] at hlA
          go_roundw
          case rel => exact ⟨k + 1, M + q, A2, c2, A3, c3, by omega, by go_num, rfl, rfl, Lib.hid ⟨HMN.out, by omega⟩, Lib.hid hA3, Lib.hid hown3, Lib.hid (fun i hi he => by
            rcases hat3 with e | e
            · exact HD2.out i hi (e ▸ he)
            · rw [he] at e
              injection e with e
              have := (hlA i hi).2
              rw [World.size_alloc] at e
              omega), Lib.hid (k1.grown hg3 (fun i hi => .inr (howna.lt i (by rw [ownBlock_slice]; exact hi)).1))⟩
          case measure => (first | (simp [RowKit.intOf]; done) | (simp [RowKit.intOf]; omega))
    · have hkn : k = n := by omega
      subst hkn
      have hall : LL.take k = LL := List.take_of_length_le (by rw [HL.out]; exact Nat.le_refl _)
      have hA := HA.out
      have hB := HB.out
      have hM := HM.out
      rw [hall] at hA hB hM
      have hlen : (LL.flatten).length ≤ 240 := by have := hM.1; have := hM.2; omega
      have hel : (ends 0 (LL.map List.length)).length = k := by rw [ends_length, List.length_map]; exact HL.out
      have hN : NumsOf wr E LL := numsOf_rowsIn (HR.out.new HK.out)
      have HAN := Lib.hid (arNum wr E k c LL HL.out hN (by omega) (by omega))
      have HRA : RowsR wr A1 M ((LL.flatten).map (fun x : Nat => ((x : Int), (0 : Int), (0 : Int), (0 : Int)))) := ⟨by rw [List.length_map]; exact hM.1.symm, by rw [← rowsN_rs]; exact Rd.own hA⟩
      have HRB : RowsR wr B1 k ((ends 0 (LL.map List.length)).map (fun x : Nat => ((x : Int), (0 : Int), (0 : Int), (0 : Int)))) := ⟨by rw [List.length_map]; exact hel, by rw [← rowsN_rs]; exact Rd.own hB⟩
      have hM2 := hM.2
      have HE1 := Lib.hid (fun (W : World) (kk : Keeps (fun _ => False) wr W) => kEncode10 W B1 k d1 _ (ends 0 (LL.map List.length)) (HRB.keeps kk) (by rw [List.map_map]; rfl) (fun x hx => by have := ends_le hx; rw [← List.length_flatten] at this; omega) (by omega))
      have HX2 := Lib.hid (fun x (hx : x ∈ LL.flatten) => by obtain ⟨X, hX, hx⟩ := List.mem_flatten.mp hx; exact HX.out X hX x hx : ∀ x ∈ LL.flatten, x < 4294967296)
      have HE2 := Lib.hid (fun (W : World) (kk : Keeps (fun _ => False) wr W) => kEncode9 W A1 M c1 _ LL.flatten (HRA.keeps kk) (by rw [List.map_map]; rfl) HX2.out (by omega))
      have h8 : (u64s (ends 0 (LL.map List.length))).length = 8 * k := by rw [u64s_length, hel]
      have h4 : (u32s LL.flatten).length = 4 * M := by rw [u32s_length, hM.1]
      have HV := Lib.hid (show narrB LL = u64s (ends 0 (LL.map List.length)) ++ u32s LL.flatten from rfl)
      have HKW := Lib.hid HK.out
      have H84 := Lib.hid (And.intro h8 h4)
      generalize u64s (ends 0 (LL.map List.length)) = d1' at *
      generalize u32s LL.flatten = d2' at *
      clear h8 h4 hA hB hM hall hlen hel hN HRA HRB HX2 HA HB HM HDIS HK HR HI HX
      go_wp2_with fail
      refine HAN.out.mono ?_
      rintro e wa ⟨A5, c5, rfl, o5, K5⟩
      have HO5 := Lib.hid o5
      have HK5 := Lib.hid K5
      have HEA := Lib.hid (HE1.out wa K5)
      clear o5 K5
      go_wp2_with fail
      refine HEA.out.mono ?_
      rintro e wb ⟨A6, c6, rfl, o6, K6⟩
      have HCL := Lib.hid (cloneB wb A6 c6 d1' (Rd.own o6) (by have := H84.out.1; omega))
      have HK6 := Lib.hid (HK5.out.trans K6 (fun _ _ h => h))
      have HA6 := Lib.hid K6
      clear o6 K6
      go_wp2_with fail
      refine HCL.out.mono ?_
      rintro e wc ⟨A7, c7, rfl, o7, K7, hf7⟩
      have HO7 := Lib.hid o7
      have HK7 := Lib.hid (HK6.out.trans K7 (fun _ _ h => h))
      have HA7 := Lib.hid (HA6.out.trans K7 (fun _ _ h => h))
      have HEB := Lib.hid (HE2.out wc HK7.out)
      have hs7 := K7.size
      clear o7 K7
      go_wp2_with fail
      refine HEB.out.mono ?_
      rintro e wd ⟨A8, c8, rfl, o8, K8⟩
      have HK8 := Lib.hid (HK7.out.trans K8 (fun _ _ h => h))
      have HA8 := Lib.hid (HA7.out.trans K8 (fun _ _ h => h))
      have o7d := own_keeps HO7.out K8 (fun _ _ h => h)
      have hrd8 := Rd.own o8
      obtain ⟨u0, hu0, hy0, hy1, hy2⟩ := info_parts infoU8
      have n3 : wb.heap.size ≤ wd.heap.size := by
        have := K8.size
        omega
      clear o8 K8
      go_wp2_with (
        at_builtin
        refine wpList_append_rdg rfl (.tmp 57) (.tmp 59) _ rfl wb.heap.size 5 u0 _ 1 1 Tryz.underlying30 hu0 hy0 hy1 hy2 rfl Nat.one_pos A7 c7 d1'.length _ rfl o7d A8 d2'.length c8 _ rfl hrd8 (byteCells_one _) (by have := H84.out; simp only [maxLen]; omega) (by have := H84.out; omega) n3 ?_
        intro A9 c9 w9 o9 hg9 hat9)
      rw [← Lib.byteCells_append] at o9
      have HK9 := Lib.hid (HK8.out.grown hg9 (fun i hi => .inr (by have := hf7 i hi; have := HK6.out.size; omega)))
      have HA9 := Lib.hid (HA8.out.grown hg9 (fun i hi => .inr (by have := hf7 i hi; have := HA6.out.size; omega)))
      have hEq := bytesEq w9 A5 A9 _ c5 _ c9 (narrB LL) (d1' ++ d2') (Rd.own (own_keeps HO5.out HA9.out (fun _ _ h => h))) (Rd.own o9)
      rw [show decide (narrB LL = d1' ++ d2') = true from decide_eq_true HV.out] at hEq
      have HEQ := Lib.hid hEq
      clear hEq o9 hg9 hat9 o7d hrd8
      refine HEQ.out.mono ?_
      rintro e w10 ⟨rfl, rfl⟩
      have HNC := Lib.hid (ncAwake w9)
      go_wp2_with fail
      refine HNC.out.mono ?_
      rintro e w11 ⟨rfl, K11⟩
      have HK11 := Lib.hid (HKW.out.trans (HK9.out.trans K11 (fun _ _ h => h)) (fun _ _ h => h))
      clear K11
      go_wp2_with fail
      go_ret
      exact ⟨rfl, HK11.out.below (Nat.le_refl _) (fun _ h => h.elim)⟩
end Go.Proofs.YtoilbojaenfalaaGreat
