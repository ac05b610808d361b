/- The walk of the law on arrays of one string each. Conditions: lengths that an argument can have. -/
import Derived.Test.YtkgjchfbbpabpaaGreatOnes
import Derived.Test.YtkgjchfbbpabpaaGreatArL
import Derived.Deep.RegionHeld3
import Derived.Laws.OwnMore
import Derived.IntWalk
namespace Go.Proofs.YtkgjchfbbpabpaaGreat
open Go.RowKit Go.Lib
set_option linter.unusedVariables false
theorem flat_bound {α : Type} (m : Nat) : ∀ (LL : List (List α)), (∀ L ∈ LL, L.length ≤ m) → LL.flatten.length ≤ LL.length * m
  | [], _ => by simp
  | L :: r, h => by
    have h1 := h L (List.mem_cons_self ..)
    have h2 := flat_bound m r fun X hX => h X (List.mem_cons_of_mem _ hX)
    rw [List.flatten_cons, List.length_append, List.length_cons, Nat.add_mul, Nat.one_mul]
    omega
theorem encB_bound (ws : List ByteArray) (h : ∀ x ∈ ws, x.size ≤ 60) : (encB (ws.map sl)).length ≤ ws.length * 70 := by
  rw [encB, List.map_map]
  refine Nat.le_trans (flat_bound 70 _ fun l hl => ?_) (by rw [List.length_map]; exact Nat.le_refl _)
  obtain ⟨x, hx, rfl⟩ := List.mem_map.1 hl
  have h1 := h x hx
  have := Lib.uvarint_length64 (x := (sl x).length) (by rw [sl_length]; omega)
  rw [sl_length] at this
  simp only [Function.comp, List.length_append, sl_length]
  omega
theorem sls_bound (ws : List ByteArray) (h : ∀ x ∈ ws, x.size ≤ 60) : (ws.map sl).flatten.length ≤ ws.length * 60 := by
  have h1 := flat_bound 60 (ws.map sl) fun l hl => by
    obtain ⟨x, hm, rfl⟩ := List.mem_map.1 hl
    rw [sl_length]; exact h x hm
  rwa [List.length_map] at h1
def cvOp (s d : TypeId) (x : Operand) : Op := .convert s d x
theorem cvOp_eq (s d : TypeId) (x : Operand) : cvOp s d x = .convert s d x := rfl
attribute [local go_sem] cvOp_eq
def DoRel (w2 : World) (n1 : Nat) (ws : List ByteArray) (o nn t i : Value) (wr : World) : Prop := ∃ (k : Nat) (O : Option Addr) (co : Nat) (VO : List Value) (N : Option Addr) (cn : Nat) (T : Option Addr) (k8 ct : Nat), k ≤ n1 ∧ k8 = 8 * k ∧ i = .int .i64 k ∧ o = .slice O k co ∧ nn = .slice N k cn ∧ t = .slice T k8 ct ∧ DoAt w2 wr O k co VO N k cn T k8 ct (oneB k) (ws.take k)
theorem cells8 (k : Nat) (h : k + 1 < 256) : Lib.byteCells [UInt8.ofNat (k + 1), 0, 0, 0, 0, 0, 0, 0] = [.int .u8 ((k : Int) + 1), .int .u8 0, .int .u8 0, .int .u8 0, .int .u8 0, .int .u8 0, .int .u8 0, .int .u8 0] := by
  simp [Lib.byteCells]
  omega
theorem zero_cells (n : Nat) : Lib.byteCells (zb n) = (madeCells (Value.int .u8 0).cells (n * 1)).toList := by
  have h1 : (Value.int .u8 0).cells = #[Value.int .u8 0] := rfl
  rw [h1, madeCells, Nat.mul_one]
  refine List.ext_getElem? fun i => ?_
  rcases Nat.lt_or_ge i n with hi | hi
  · simp [Lib.byteCells, zb, Nat.mod_one, hi]
  · simp [Lib.byteCells, zb, Nat.mod_one, hi]

set_option maxRecDepth 100000 in
set_option maxHeartbeats 4000000 in
theorem deepOnes (w : World) (A : Option Addr) (n c : Nat) (xs : List ByteArray) (hl : xs.length = n) (hR : Rd w 1 A n (xs.map Value.string)) (hn : n ≤ 9223372036854775807) :
    Calls Tryz.prog 3 #[.slice A n c] w fun e w' => e = .returned (.bool true) ∧ Below w.heap.size w w' := by
  obtain ⟨i0, hi0, hz0, hz1, hz2⟩ := info_parts infoStrE
  obtain ⟨j0, hj0, hy0, hy1, hy2⟩ := info_parts infoSsE
  obtain ⟨u0, hu0, hv0, hv1, hv2⟩ := info_parts infoU8
  have HF := Lib.hid (fits2 w A n c xs hl hR hn)
  have HW := Lib.hid (arWords w A n c 39 xs hl hR hn (by omega))
  have hw60 : ∀ x ∈ wordsOf 39 xs, x.size ≤ 60 := fun x hx => by obtain ⟨y, _, rfl⟩ := List.mem_map.1 hx; exact cut60_size y
  have hwl : (wordsOf 39 xs).length ≤ 39 := by rw [wordsOf_length]; omega
  clear hl hR hn
  generalize wordsOf 39 xs = ws0 at *
  obtain ⟨ws, hws⟩ : ∃ ws, ws = ws0 ++ [(⟨#[111]⟩ : ByteArray)] := ⟨_, rfl⟩
  have hx60 : ∀ x ∈ ws, x.size ≤ 60 := fun x hx => by
    rw [hws] at hx
    rcases List.mem_append.1 hx with h | h
    · exact hw60 x h
    · rw [List.mem_singleton.1 h]; decide
  obtain ⟨n1, hn1⟩ : ∃ n1, n1 = ws0.length + 1 := ⟨_, rfl⟩
  have hwn : ws.length = n1 := by rw [hws, hn1, List.length_append]; rfl
  have HWS := Lib.hid (show ws0.map Value.string ++ [.string ⟨#[111]⟩] = ws.map Value.string by rw [hws]; simp)
  have HN1 := Lib.hid hn1
  have hn40 : n1 ≤ 40 := by omega
  have HX60 := Lib.hid hx60
  have HWN := Lib.hid hwn
  clear hw60 hws hn1 hx60 hwn
  generalize ws0.length = m at *
  generalize ws0.map Value.string = VW at *
  go_enter Tryz.func3, Tryz.ntmps3
  go_wp2_with fail
  refine HF.out.mono ?_
  rintro e wq ⟨⟨b, rfl⟩, rfl⟩
  cases b with
  | false =>
    go_wp2_with fail
    go_ret
    exact ⟨rfl, Below.refl _ _⟩
  | true =>
    go_wp2_with fail
    refine HW.out.mono ?_
    rintro e w1 ⟨A1, c1, rfl, o1, K1, _⟩
    have Ka := (Keeps.refl (fun _ => False) w1).alloc (.cells #[.string ⟨#[111]⟩] 9)
    have o1a := own_keeps o1 Ka (fun _ _ h => h)
    have K1a := K1.trans Ka (fun _ _ h => h)
    go_wp2_with (at_builtin
                 refine wpList_append_rd _ rfl (.tmp 16) (.tmp 17) _ rfl w.heap.size 9 i0 _ 1 16 Tryz.underlying22 hi0 hz0 hz1 hz2 rfl Nat.one_pos A1 c1 m _ rfl o1a (some ⟨w1.heap.size, 0, none⟩) 1 1 [.string ⟨#[111]⟩] rfl (rd_one w1 9 _) (one_val _ rfl) (by simp only [maxLen]; omega) (by omega) K1a.size ?_
                 intro A2 c2 w2 o2 hg2 hat2
                 rw [HWS.out, ← HN1.out] at o2
                 rw [← HN1.out])
    have K2 := K1a.grown hg2 (fun i hi => .inr (o1a.lt i (by rw [ownBlock_slice]; exact hi)).1)
    have RD := Lib.hid (Rd.own o2)
    have HK2 := Lib.hid K2
    clear o1 o1a K1 K1a Ka hg2 hat2 o2 K2
    go_loopw [4, 5, 6, 7] (fun o nn t i wr => DoRel w2 n1 ws o nn t i wr) (fun _ _ _ i _ => n1 - (RowKit.intOf i).toNat)
    case atStart => exact ⟨0, none, 0, [], none, 0, none, 0, 0, Nat.zero_le _, rfl, rfl, rfl, rfl, rfl, DoAt.start w2⟩
    case round =>
      obtain ⟨k, O, co, VO, N, cn, T, k8, ct, hk, hk8, rfl, rfl, rfl, rfl, hD⟩ := hrel
      have HD := Lib.hid hD
      have h320 : k8 ≤ 320 := by omega
      have HK8 := Lib.hid hk8
      clear hD hk8
      by_cases hlt : k < n1
      · obtain ⟨x, hx⟩ : ∃ x, ws[k]? = some x := ⟨_, List.getElem?_eq_getElem (by rw [HWN.out]; exact hlt)⟩
        have HT := Lib.hid (show ws.take (k + 1) = ws.take k ++ [x] by rw [List.take_add_one, hx]; rfl)
        obtain ⟨ad, u, rfl, hb, hu, hcell⟩ := (RD.out.keeps HD.out.kp (fun _ _ h => h)).at' hlt
        have hu' : u = .string x := by
          rw [List.getElem?_map, hx] at hu
          injection hu with hu
          exact hu.symm
        subst hu'
        clear hu hx
        have hwu : IntKind.u8.wrap ((k : Int) + 1) = (k : Int) + 1 := IntWalk.u8_in _ (by omega)
        have KX := (Keeps.refl (fun _ => False) wr).alloc (.cells #[.string x] 9)
        have hsx : (World.heap (wr.alloc (.cells #[.string x] 9))).size = wr.heap.size + 1 := by simp
        have KY := (Keeps.refl (fun _ => False) (wr.alloc (.cells #[.string x] 9))).alloc (.cells #[.slice (some ⟨wr.heap.size, 0, none⟩) 1 1] 22)
        have hro := rd_one (wr.alloc (.cells #[.string x] 9)) 22 (.slice (some ⟨wr.heap.size, 0, none⟩) 1 1)
        rw [hsx] at hro
        have hD1 := (HD.out.new KX).new KY
        have hW1 := (Whole.new wr 9 #[.string x]).keeps KY (fun h => h)
        have C8 := Lib.hid (cells8 k (by omega))
        have OS := Lib.hid (oneB_step k (by omega))
        clear hsx
        go_wp2_with (first
          | (at_builtin
             refine wpList_append_rd _ rfl (.tmp 36) (.tmp 40) _ rfl w2.heap.size 5 u0 _ 1 1 Tryz.underlying26 hu0 hv0 hv1 hv2 rfl Nat.one_pos T ct k8 _ rfl hD4a.oT (some ⟨w4.heap.size, 0, none⟩) 8 8 (Lib.byteCells [UInt8.ofNat (k + 1), 0, 0, 0, 0, 0, 0, 0]) rfl hr8 (byteCells_one _) (by simp only [maxLen]; omega) (by omega) hD4a.kp.size ?_
             intro T5 ct5 w5 o5 hg5 hat5
             rw [← Lib.byteCells_append, ← OS.out] at o5
             have hD5 := hD4a.stepT hg5 o5)
          | (at_builtin
             refine wpList_append_rd _ rfl (.tmp 33) (.tmp 34) _ rfl w2.heap.size 22 j0 _ 1 24 Tryz.underlying25 hj0 hy0 hy1 hy2 rfl Nat.one_pos N cn k _ rfl hD3a.oN (some ⟨w3.heap.size, 0, none⟩) 1 1 [.slice none 0 0] rfl (rd_one w3 22 _) (one_val _ rfl) (by simp only [maxLen]; omega) (by omega) hD3a.kp.size ?_
             intro N4 cn4 w4 o4 hg4 hat4
             have hD4 := hD3a.stepN hg4 o4 hat4
             have KW := (Keeps.refl (fun _ => False) w4).alloc (.cells #[.int .u8 ((k : Int) + 1), .int .u8 0, .int .u8 0, .int .u8 0, .int .u8 0, .int .u8 0, .int .u8 0, .int .u8 0] 5)
             have hD4a := hD4.new KW
             have hr8 : Rd (w4.alloc (.cells #[.int .u8 ((k : Int) + 1), .int .u8 0, .int .u8 0, .int .u8 0, .int .u8 0, .int .u8 0, .int .u8 0, .int .u8 0] 5)) 1 (some ⟨w4.heap.size, 0, none⟩) 8 (Lib.byteCells [UInt8.ofNat (k + 1), 0, 0, 0, 0, 0, 0, 0]) := by
               rw [C8.out]
               exact Rd.whole (Whole.new w4 5 #[.int .u8 ((k : Int) + 1), .int .u8 0, .int .u8 0, .int .u8 0, .int .u8 0, .int .u8 0, .int .u8 0, .int .u8 0]) rfl rfl)
          | (at_builtin
             refine wpList_append_rd _ rfl (.tmp 25) (.tmp 31) _ rfl w2.heap.size 22 j0 _ 1 24 Tryz.underlying25 hj0 hy0 hy1 hy2 rfl Nat.one_pos O co k _ rfl hD1.oO (some ⟨wr.heap.size + 1, 0, none⟩) 1 1 [.slice (some ⟨wr.heap.size, 0, none⟩) 1 1] rfl hro (one_val _ rfl) (by simp only [maxLen]; omega) (by omega) hD1.kp.size ?_
             intro O3 co3 w3 o3 hg3 hat3
             have hD3 := hD1.stepO hW1 hg3 o3 hat3
             have KZ := (Keeps.refl (fun _ => False) w3).alloc (.cells #[.slice none 0 0] 22)
             have hD3a := hD3.new KZ))
        have HD5 := Lib.hid hD5
        clear hD1 hD3 hD3a hD4 hD4a hD5 hr8 hro hW1 KX KY KZ KW o3 o4 o5
        go_roundw
        case rel => exact ⟨k + 1, O3, co3, _, N4, cn4, T5, k8 + 8, ct5, by omega, by have := HK8.out; omega, by go_num, rfl, rfl, rfl, by rw [HT.out]; exact HD5.out⟩
        case measure => (first | (simp [RowKit.intOf]; done) | (simp [RowKit.intOf]; omega))
      · have hkn : k = n1 := by omega
        subst hkn
        have hfin := HD.out
        rw [List.take_of_length_le (by rw [HWN.out]; exact Nat.le_refl _)] at hfin
        have hOn := hfin.on.rows hfin.oO
        have hNo := nones_rows hfin.oN
        have hRT := Rd.own hfin.oT
        have hlO : (ws.map fun x => [x]).length = k := by rw [List.length_map, HWN.out]
        have e1 := arrB_ones ws
        have e2 := arrB_nones k
        rw [HWN.out] at e1
        have b1 := encB_bound ws HX60.out
        have b2 := sls_bound ws HX60.out
        rw [HWN.out] at b1 b2
        have hol := oneB_length k
        have HA1 := Lib.hid (arStr wr O k co (ws.map fun x => [x]) hlO hOn (fun L hL x hx => by
          obtain ⟨y, hy, rfl⟩ := List.mem_map.1 hL
          rw [List.mem_singleton.1 hx]
          have := HX60.out y hy
          omega) (by rw [map_one_flat, HWN.out]; omega) (by omega) (by rw [map_one_flat]; omega) (by rw [e1, List.length_append, hol]; omega))
        have HA2 := Lib.hid (fun w3 (hN3 : RowsOf w3 N (List.replicate k [])) => arStr w3 N k cn (List.replicate k []) List.length_replicate hN3 (fun L hL x hx => by
          rw [(List.mem_replicate.1 hL).2] at hx
          simp at hx) (by simp) (by omega) (by simp) (by rw [e2]; simp [zb]; omega))
        rw [e1] at HA1
        rw [e2] at HA2
        have HSO := Lib.hid (fun wz (hz : Rd wz 1 A2 k (ws.map Value.string)) => stOf wz A2 k c2 ws HWN.out hz (by omega) (fun x hx => by have := HX60.out x hx; omega))
        have HSE := Lib.hid (fun wz B d (hz : RowsV wz B ((ws.map sl).map Lib.byteCells)) => stEncode0 wz B k d (ws.map sl) (by rw [List.length_map]; exact HWN.out) hz (by omega) (fun l hl => by
          obtain ⟨x, hx, rfl⟩ := List.mem_map.1 hl
          have := HX60.out x hx
          rw [sl_length]
          omega) (by omega))
        have hzl : (zb (8 * k)).length = 8 * k := by simp [zb]
        have HKP := Lib.hid hfin.kp
        have HNO := Lib.hid hNo
        have HVR := Lib.hid (show (ws.map fun x => Lib.byteCells (sl x)) = (ws.map sl).map Lib.byteCells by rw [List.map_map]; rfl)
        have h64 : IntKind.i64.wrap (8 * (k : Int)) = ((8 * k : Nat) : Int) := by rw [IntWalk.i64_in _ (by omega)]; omega
        have hrt : k8 = (oneB k).length := by rw [hol]; exact HK8.out
        rw [← HK8.out] at h64 hzl HA2
        have hz8 := zero_cells (8 * k)
        rw [← HK8.out] at hz8
        have hmk : ∀ w0 : World, (Instr.makeSlice 26 (.int .i64 (k8 : Int)) (.int .i64 (k8 : Int))).run Tryz.prog w0 = .ok (.slice (some ⟨w0.heap.size, 0, none⟩) k8 k8) (w0.alloc (.cells (madeCells (Value.int .u8 0).cells (k8 * 1)) 5)) := fun w0 => by
          have h := run_make (P := Tryz.prog) w0 26 5 u0 (.int .u8 0) Tryz.underlying26 hu0 hv0 .i64 .i64 (k8 : Int) (k8 : Int) (by omega) (Int.le_refl _) (by rw [hv2]; omega) (by omega)
          rw [hv1, Int.toNat_natCast] at h
          exact h
        have hmc : ∀ w0 : World, (convert 26 9 (.slice (some ⟨w0.heap.size, 0, none⟩) k8 k8)).run Tryz.prog (w0.alloc (.cells (madeCells (Value.int .u8 0).cells (k8 * 1)) 5)) = .ok (.string ⟨(zb k8).toArray⟩) (w0.alloc (.cells (madeCells (Value.int .u8 0).cells (k8 * 1)) 5)) := fun w0 => by
          refine cv_tx (Rd.whole (Whole.new w0 5 (madeCells (Value.int .u8 0).cells (k8 * 1))) hz8.symm ?_)
          rw [Lib.byteCells_length]
          simp [zb]
        generalize madeCells (Value.int .u8 0).cells (k8 * 1) = zc at *
        have hKN := (show Keeps (fun _ => False) w2 wr from HKP.out)
        have hn2b : (encB (ws.map sl)).length ≤ 2800 := by omega
        clear hfin hOn hNo e1 e2 b1 b2 hol hlO hzl hz8
        have HRT := Lib.hid hRT
        have HRT8 := Lib.hid hrt
        clear hRT hrt
        generalize hd1 : oneB k = d1 at *
        generalize hd2 : encB (ws.map sl) = d2 at *
        generalize hzz : zb k8 = dz at *
        generalize (ws.map sl).map Lib.byteCells = VB at *
        generalize ws.map Value.string = VS at *
        clear hd1 hd2 hzz
        have hl1 := HRT8.out
        generalize hdd : d1 ++ d2 = dd at *
        generalize hn2 : d2.length = n2 at *
        generalize hnd : dd.length = nd at *
        generalize hnz : dz.length = nz at *
        have HDD := Lib.hid hdd
        have HND := Lib.hid hnd
        have HNZ := Lib.hid hnz
        have HN2 := Lib.hid hn2
        clear hdd hnd hnz hl1 hn2
        go_wp2_with fail
        refine HA1.out.mono ?_
        rintro e w3 ⟨Aa, ca, he, oa3, K3⟩
        rw [HND.out] at he oa3
        subst he
        have HNO3 := Lib.hid (HNO.out.keeps K3)
        have HRA3 := Lib.hid (Rd.own oa3)
        have HK3 := Lib.hid K3
        clear oa3 K3
        go_wp2_with fail
        refine (HA2.out w3 HNO3.out).mono ?_
        rintro e w4 ⟨Ab, cb, he, ob4, K4⟩
        rw [HNZ.out] at he ob4
        subst he
        have K34 := HK3.out.trans K4 (fun _ _ h => h)
        have RA := Lib.hid (HRA3.out.keeps K4 (fun _ _ h => h))
        have RB4 := Lib.hid (Rd.own ob4)
        have RT := Lib.hid (HRT.out.keeps K34 (fun _ _ h => h))
        have RS := Lib.hid (RD.out.keeps (hKN.trans K34 (fun _ _ h => h)) (fun _ _ h => h))
        have KW4 := Lib.hid ((HK2.out.trans hKN (fun _ _ h => h)).trans K34 (fun _ _ h => h))
        clear ob4 K4 K34 hKN
        have hkk := (Keeps.refl (fun _ => False) w4).drew
        have hca := cv_tx (c := ca) (RA.out.keeps hkk (fun _ _ h => h))
        go_wp2_with fail
        have hcb := cv_tx (c := cb) (RB4.out.keeps hkk (fun _ _ h => h))
        rw [show Op.convert 26 9 (.tmp 65) = cvOp 26 9 (.tmp 65) from rfl, show Op.convert 26 9 (.tmp 75) = cvOp 26 9 (.tmp 75) from rfl]
        go_region_held3 (fun w' => (convert 26 9 (.slice Aa nd ca)).run Tryz.prog w' = .ok (.string ⟨dd.toArray⟩) w' ∧ (convert 26 9 (.slice Ab nz cb)).run Tryz.prog w' = .ok (.string ⟨dz.toArray⟩) w') (first | exact ⟨hca, hcb⟩ | exact ⟨cv_tx (c := ca) (RA.out.keeps (hkk.alloc _) (fun _ _ h => h)), cv_tx (c := cb) (RB4.out.keeps (hkk.alloc _) (fun _ _ h => h))⟩ | exact ⟨cv_tx (c := ca) (RA.out.keeps (hkf.alloc _) (fun _ _ h => h)), cv_tx (c := cb) (RB4.out.keeps (hkf.alloc _) (fun _ _ h => h))⟩) (first
          | (go_at_call 9; refine (stJoinTwo _ wz.heap.size 26 T Ae k8 ct n2 ce d1 d2 (Whole.new wz _ _) (RT.out.keeps (hkk.alloc _) (fun _ _ h => h)) (hoe.keeps ((Keeps.refl (fun _ => False) wz).alloc _) (fun _ _ h => h)) (by omega)).mono ?_; rintro e wj ⟨Aj, cj, rfl, oj, Kj, _⟩; rw [HDD.out] at oj; have hcj := cv_tx (c := cj) (Rd.own oj); have hkf := (hkk.alloc _).trans Kj (fun _ _ h => h); have hca := cv_tx (c := ca) (RA.out.keeps hkf (fun _ _ h => h)); have hcb := cv_tx (c := cb) (RB4.out.keeps hkf (fun _ _ h => h)))
          | (go_at_call 10; refine (HSE.out _ Af cf hof).mono ?_; rintro e wz ⟨Ae, ce, he, oe, Kl⟩; rw [HN2.out] at he oe; subst he; have hoe := Rd.own oe; have hkk := hkk.trans Kl (fun _ _ h => h); have hca := cv_tx (c := ca) (RA.out.keeps hkk (fun _ _ h => h)); have hcb := cv_tx (c := cb) (RB4.out.keeps hkk (fun _ _ h => h)))
          | (go_at_call 11; refine (HSO.out _ (RS.out.keeps hkk (fun _ _ h => h))).mono ?_; rintro e wz ⟨Af, cf, rfl, hof, Kl⟩; rw [HVR.out] at hof; have hkk := hkk.trans Kl (fun _ _ h => h); have hca := cv_tx (c := ca) (RA.out.keeps hkk (fun _ _ h => h)); have hcb := cv_tx (c := cb) (RB4.out.keeps hkk (fun _ _ h => h))))
        all_goals
          go_wp2_with fail
          go_ret
          exact ⟨rfl, ((KW4.out.trans hkf (fun _ _ h => h)).alloc _).below (Nat.le_refl _) (fun _ h => h.elim)⟩
end Go.Proofs.YtkgjchfbbpabpaaGreat
