/- Rows of numbers encoded: NCEncode, by kind. Conditions: each row's first number is one of the kind; sizes far below the machine's. -/
import Derived.Test.YtoilbojaenfalaaGreatKb
import Derived.Test.YtoilbojaenfalaaGreatNc
import Derived.Test.YtoilbojaenfalaaGreatU16
import Derived.Test.YtoilbojaenfalaaGreatU32
namespace Go.Proofs.YtoilbojaenfalaaGreat
open Go.RowKit Go.Lib
set_option linter.unusedVariables false
theorem own_low {w : World} {b b' : Nat} {e : TypeId} {size n : Nat} {v : Value} {xs : List Value} (h : w.ownsRow b e size v n xs) (hb : b' ≤ b) : w.ownsRow b' e size v n xs := by
  refine ⟨h.1, ?_⟩
  rcases h.2 with hn | ⟨g', cap, cur, rfl, hlo, rest⟩
  · exact .inl hn
  · exact .inr ⟨g', cap, cur, rfl, Nat.le_trans hb hlo, rest⟩
theorem method_self {P : Program} {fuel : Nat} {t : TypeId} {fs : Array Field} {i : TypeInfo} {m : _} {name : String} {f : FuncId} {w : World} {v : Value} (hi : P.info? t = some i) (hm : i.methods.find? (·.name == name) = some m) (hp : m.path = #[]) (hf : m.func = some (f, false))
    (hu : P.underlying t = some (.struct fs)) : (method (fuel + 1) t v name).run P w = .ok (f, v) w := by
  unfold method
  simp only [Sem.run_bind, run_typeInfo w hi, Result.andThen_ok, hm, hp, hf, follow, Sem.run_pure, receiverAt, run_underlying hu, Place.get, Array.isEmpty_empty, if_true, List.toList_toArray]
def nw (xs : List Nat) (kk : IntKind) : List Value := xs.map fun x : Nat => .int kk (x : Int)
set_option maxRecDepth 100000 in
set_option maxHeartbeats 2000000 in
theorem encodedE (w : World) (T : TypeId) (p recv : Value) (f : FuncId) (l : List UInt8) (hf : ∀ args w, (callFunc f args).run Tryz.prog w = .ok (.enter f args) w) (hme : (method 499 T p "EncodeColumn").run Tryz.prog (bufW w) = .ok (f, recv) (bufW w))
    (hE : Calls Tryz.prog f #[recv, .pointer (some ⟨w.heap.size, 0, none⟩)] (bufW w) fun e w' => ∃ A' c', e = .returned (.tuple #[]) ∧ Put (bufW w) w' w.heap.size w.heap.size none A' c' l) :
    Calls Tryz.prog 13 #[.func (.method "EncodeColumn") #[.iface T p] #[]] w fun e w' => EncRes w l e w' := by
  have K1 := (Keeps.refl (fun _ => False) w).alloc (.cells #[.slice none 0 0] 152)
  have HE := Lib.hid hE
  have HK := Lib.hid K1
  unfold bufW at hme HE
  clear hE K1
  go_enter Tryz.func13, Tryz.ntmps13
  go_wp2_with fail
  refine HE.out.mono ?_
  rintro e w2 ⟨A2, c2, rfl, hP⟩
  have hb := hP.at'
  have hc1 : w2.cell? ⟨w.heap.size, 0, none⟩ = some (.slice A2 l.length c2) := hb.blk.cell 0
  have HP := Lib.hid hP
  have HOW := Lib.hid hb.own
  clear hP hb
  go_wp2_with fail
  go_ret
  exact ⟨A2, c2, rfl, HOW.out, HK.out.trans HP.out.keeps (fun i hi h => by rcases h with rfl | h; (omega); cases h)⟩
theorem nw_rows {rs : List (Int × Int × Int × Int)} {xs : List Nat} (kk : IntKind) (h : rs.map (fun r => r.1) = xs.map (fun x : Nat => (x : Int))) : rs.map (fun r => Value.int kk r.1) = nw xs kk := by
  have e := congrArg (List.map (Value.int kk)) h
  simpa [nw, List.map_map, Function.comp_def] using e
theorem iKAdd8 : (Tryz.prog.info? 135).map (fun i => (i.methods.find? (·.name == "given.example/pub-clapboard/impl.add")).map (fun m => (m.path.toList.length, m.func))) = some (some (0, some (216, false))) := by kernel_rfl
theorem mKAdd8 (w : World) (g : Nat) (fuel : Nat) : (method (fuel + 1) 135 (.agg #[.iface 127 (.pointer (some ⟨g, 0, none⟩)), .func (.func 35) #[] #[], .func (.func 36) #[] #[]]) "given.example/pub-clapboard/impl.add").run Tryz.prog w = .ok (216, .agg #[.iface 127 (.pointer (some ⟨g, 0, none⟩)), .func (.func 35) #[] #[], .func (.func 36) #[] #[]]) w := by
  obtain ⟨i, m, h1, h2, h3, h4⟩ := method_row iKAdd8
  exact method_self h1 h2 h3 h4 Tryz.underlying135
theorem iKEnc8 : (Tryz.prog.info? 127).map (fun i => (i.methods.find? (·.name == "EncodeColumn")).map (fun m => (m.path.toList.length, m.func))) = some (some (0, some (210, false))) := by kernel_rfl
theorem mKEnc8 {w : World} {g : Nat} {x : Value} (hW : Whole w g 129 #[x]) (fuel : Nat) : (method (fuel + 1) 127 (.pointer (some ⟨g, 0, none⟩)) "EncodeColumn").run Tryz.prog w = .ok (210, x) w := by
  obtain ⟨i, m, h1, h2, h3, h4⟩ := method_row iKEnc8
  exact method_val h1 h2 h3 h4 Tryz.underlying127 (by have h0 : w.cell? ⟨g, 0, none⟩ = some x := hW.cell 0; go_simp)
theorem eKEnc8 : (Tryz.prog.info? 135).map (fun i => (i.methods.find? (·.name == "EncodeColumn")).map (fun m => (m.path.toList.map (fun s => (s.struct, s.index, s.deref)), m.func))) = some (some ([(135, 0, false)], none)) := by kernel_rfl
theorem mNEnc8 {w : World} {g : Nat} {x : Value} (hW : Whole w g 129 #[x]) (fuel : Nat) : (method (fuel + 1 + 1) 135 (.agg #[.iface 127 (.pointer (some ⟨g, 0, none⟩)), .func (.func 35) #[] #[], .func (.func 36) #[] #[]]) "EncodeColumn").run Tryz.prog w = .ok (210, x) w :=
  (method_emb eKEnc8 Tryz.underlying135 rfl rfl (fun w => by simp [isAgg, run_underlying Tryz.underlying133]) rfl).trans (mKEnc8 hW fuel)
theorem fKEnc8 (args : Array Value) (w : World) : (callFunc 210 args).run Tryz.prog w = .ok (.enter 210 args) w := by kernel_rfl
set_option maxRecDepth 100000 in
set_option maxHeartbeats 2000000 in
theorem kEncoded8 (w : World) (base g : Nat) (A : Option Addr) (n c : Nat) (xs : List Nat) (hC : KAt 129 70 w base g A n c (nw xs .u16)) (hl : xs.length = n) (hn : n ≤ 1000000) : Calls Tryz.prog 13 #[.func (.method "EncodeColumn") #[.iface 135 (.agg #[.iface 127 (.pointer (some ⟨g, 0, none⟩)), .func (.func 35) #[] #[], .func (.func 36) #[] #[]])] #[]] w fun e w' => EncRes w (u16s xs) e w' := by
  have K1 := (Keeps.refl (fun _ => False) w).alloc (.cells #[.slice none 0 0] 152)
  have hC1 := hC.new K1
  have hlo := hC.own.lt
  rw [ownBlock_slice] at hlo
  refine encodedE w 135 _ _ 210 _ fKEnc8 (mNEnc8 hC1.blk _) ?_
  exact (encU16 (bufW w) w.heap.size w.heap.size none 0 [] A n c xs (bufNew w (Nat.le_refl _)) (by simp) hl hn (Rd.own hC1.own) (fun k hk => ⟨by have := (hlo k hk).2; omega, fun h => by cases h⟩)).mono fun e w' h => h
set_option maxRecDepth 100000 in
set_option maxHeartbeats 2000000 in
theorem kEncode8 (w : World) (U : Option Addr) (m k0 : Nat) (rs : List (Int × Int × Int × Int)) (xs : List Nat) (hU : RowsR w U m rs) (hx : rs.map (fun r => r.1) = xs.map (fun x : Nat => (x : Int))) (hr : ∀ x ∈ xs, x < 65536) (hm : m ≤ 100000) : Calls Tryz.prog 8 #[.int .i64 8, .slice U m k0] w fun e w' => EncRes w (u16s xs) e w' := by
  have hl : xs.length = m := by have := congrArg List.length hx; rw [List.length_map, List.length_map] at this; rw [← this]; exact hU.1
  have K0 := (Keeps.refl (fun _ => False) w).alloc (.cells #[.slice none 0 0] 129)
  have HC := Lib.hid (kcol8 w)
  have HA := Lib.hid (kadd8 (w.alloc (.cells #[.slice none 0 0] 129)) (w.alloc (.cells #[.slice none 0 0] 129)) w.heap.size w.heap.size none 0 0 [] U m k0 rs (kNew8 w (Nat.le_refl _)) (hU.keeps K0) (fun h ad e => by
    obtain ⟨ad2, h1, h2, _⟩ := hU.2.2 h
    rw [e] at h1
    injection h1 with h1
    subst h1
    exact ⟨by omega, fun h => by cases h⟩) (fun r hr2 => by
    have h1 : r.1 ∈ xs.map (fun x : Nat => (x : Int)) := by rw [← hx]; exact List.mem_map_of_mem hr2
    obtain ⟨x, h2, h3⟩ := List.mem_map.1 h1
    have := hr x h2
    rw [← h3]; omega) (by omega) hm)
  have HN := Lib.hid (nw_rows .u16 hx)
  have hma := mKAdd8
  have HE := Lib.hid (fun w base g A n c hC hl hn => kEncoded8 w base g A n c xs hC hl hn)
  have HK0 := Lib.hid K0
  have HL := Lib.hid hl
  clear hU hx hr K0 hl
  go_enter Tryz.func8, Tryz.ntmps8
  go_wp2_with fail
  refine HC.out.mono ?_
  rintro e w1 ⟨rfl, rfl⟩
  go_wp2_with fail
  refine HA.out.mono ?_
  rintro e w2 ⟨A2, c2, rfl, hC2, K2, _⟩
  rw [List.nil_append, HN.out] at hC2
  have HE2 := Lib.hid (HE.out w2 _ _ _ _ _ hC2 (by rw [HL.out]; omega) (by omega))
  have HK2 := Lib.hid (HK0.out.trans K2 (S := fun _ => False) (fun i hi h => by
    rcases h with h | h
    · omega
    · cases h))
  clear hC2 K2
  go_wp2_with fail
  refine HE2.out.mono ?_
  rintro e w3 ⟨A3, c3, rfl, ho, K3⟩
  go_wp2_with fail
  go_ret
  exact ⟨A3, c3, rfl, own_low ho HK2.out.size, HK2.out.trans K3 (fun _ _ h => h)⟩
theorem iKAdd9 : (Tryz.prog.info? 141).map (fun i => (i.methods.find? (·.name == "given.example/pub-clapboard/impl.add")).map (fun m => (m.path.toList.length, m.func))) = some (some (0, some (219, false))) := by kernel_rfl
theorem mKAdd9 (w : World) (g : Nat) (fuel : Nat) : (method (fuel + 1) 141 (.agg #[.iface 53 (.pointer (some ⟨g, 0, none⟩)), .func (.func 37) #[] #[], .func (.func 38) #[] #[]]) "given.example/pub-clapboard/impl.add").run Tryz.prog w = .ok (219, .agg #[.iface 53 (.pointer (some ⟨g, 0, none⟩)), .func (.func 37) #[] #[], .func (.func 38) #[] #[]]) w := by
  obtain ⟨i, m, h1, h2, h3, h4⟩ := method_row iKAdd9
  exact method_self h1 h2 h3 h4 Tryz.underlying141
theorem iKEnc9 : (Tryz.prog.info? 53).map (fun i => (i.methods.find? (·.name == "EncodeColumn")).map (fun m => (m.path.toList.length, m.func))) = some (some (0, some (109, false))) := by kernel_rfl
theorem mKEnc9 {w : World} {g : Nat} {x : Value} (hW : Whole w g 54 #[x]) (fuel : Nat) : (method (fuel + 1) 53 (.pointer (some ⟨g, 0, none⟩)) "EncodeColumn").run Tryz.prog w = .ok (109, x) w := by
  obtain ⟨i, m, h1, h2, h3, h4⟩ := method_row iKEnc9
  exact method_val h1 h2 h3 h4 Tryz.underlying53 (by have h0 : w.cell? ⟨g, 0, none⟩ = some x := hW.cell 0; go_simp)
theorem eKEnc9 : (Tryz.prog.info? 141).map (fun i => (i.methods.find? (·.name == "EncodeColumn")).map (fun m => (m.path.toList.map (fun s => (s.struct, s.index, s.deref)), m.func))) = some (some ([(141, 0, false)], none)) := by kernel_rfl
theorem mNEnc9 {w : World} {g : Nat} {x : Value} (hW : Whole w g 54 #[x]) (fuel : Nat) : (method (fuel + 1 + 1) 141 (.agg #[.iface 53 (.pointer (some ⟨g, 0, none⟩)), .func (.func 37) #[] #[], .func (.func 38) #[] #[]]) "EncodeColumn").run Tryz.prog w = .ok (109, x) w :=
  (method_emb eKEnc9 Tryz.underlying141 rfl rfl (fun w => by simp [isAgg, run_underlying Tryz.underlying139]) rfl).trans (mKEnc9 hW fuel)
theorem fKEnc9 (args : Array Value) (w : World) : (callFunc 109 args).run Tryz.prog w = .ok (.enter 109 args) w := by kernel_rfl
set_option maxRecDepth 100000 in
set_option maxHeartbeats 2000000 in
theorem kEncoded9 (w : World) (base g : Nat) (A : Option Addr) (n c : Nat) (xs : List Nat) (hC : KAt 54 26 w base g A n c (nw xs .u32)) (hl : xs.length = n) (hn : n ≤ 1000000) : Calls Tryz.prog 13 #[.func (.method "EncodeColumn") #[.iface 141 (.agg #[.iface 53 (.pointer (some ⟨g, 0, none⟩)), .func (.func 37) #[] #[], .func (.func 38) #[] #[]])] #[]] w fun e w' => EncRes w (u32s xs) e w' := by
  have K1 := (Keeps.refl (fun _ => False) w).alloc (.cells #[.slice none 0 0] 152)
  have hC1 := hC.new K1
  have hlo := hC.own.lt
  rw [ownBlock_slice] at hlo
  refine encodedE w 141 _ _ 109 _ fKEnc9 (mNEnc9 hC1.blk _) ?_
  exact (encU32 (bufW w) w.heap.size w.heap.size none 0 [] A n c xs (bufNew w (Nat.le_refl _)) (by simp) hl hn (Rd.own hC1.own) (fun k hk => ⟨by have := (hlo k hk).2; omega, fun h => by cases h⟩)).mono fun e w' h => h
set_option maxRecDepth 100000 in
set_option maxHeartbeats 2000000 in
theorem kEncode9 (w : World) (U : Option Addr) (m k0 : Nat) (rs : List (Int × Int × Int × Int)) (xs : List Nat) (hU : RowsR w U m rs) (hx : rs.map (fun r => r.1) = xs.map (fun x : Nat => (x : Int))) (hr : ∀ x ∈ xs, x < 4294967296) (hm : m ≤ 100000) : Calls Tryz.prog 8 #[.int .i64 9, .slice U m k0] w fun e w' => EncRes w (u32s xs) e w' := by
  have hl : xs.length = m := by have := congrArg List.length hx; rw [List.length_map, List.length_map] at this; rw [← this]; exact hU.1
  have K0 := (Keeps.refl (fun _ => False) w).alloc (.cells #[.slice none 0 0] 54)
  have HC := Lib.hid (kcol9 w)
  have HA := Lib.hid (kadd9 (w.alloc (.cells #[.slice none 0 0] 54)) (w.alloc (.cells #[.slice none 0 0] 54)) w.heap.size w.heap.size none 0 0 [] U m k0 rs (kNew9 w (Nat.le_refl _)) (hU.keeps K0) (fun h ad e => by
    obtain ⟨ad2, h1, h2, _⟩ := hU.2.2 h
    rw [e] at h1
    injection h1 with h1
    subst h1
    exact ⟨by omega, fun h => by cases h⟩) (fun r hr2 => by
    have h1 : r.1 ∈ xs.map (fun x : Nat => (x : Int)) := by rw [← hx]; exact List.mem_map_of_mem hr2
    obtain ⟨x, h2, h3⟩ := List.mem_map.1 h1
    have := hr x h2
    rw [← h3]; omega) (by omega) hm)
  have HN := Lib.hid (nw_rows .u32 hx)
  have hma := mKAdd9
  have HE := Lib.hid (fun w base g A n c hC hl hn => kEncoded9 w base g A n c xs hC hl hn)
  have HK0 := Lib.hid K0
  have HL := Lib.hid hl
  clear hU hx hr K0 hl
  go_enter Tryz.func8, Tryz.ntmps8
  go_wp2_with fail
  refine HC.out.mono ?_
  rintro e w1 ⟨rfl, rfl⟩
  go_wp2_with fail
  refine HA.out.mono ?_
  rintro e w2 ⟨A2, c2, rfl, hC2, K2, _⟩
  rw [List.nil_append, HN.out] at hC2
  have HE2 := Lib.hid (HE.out w2 _ _ _ _ _ hC2 (by rw [HL.out]; omega) (by omega))
  have HK2 := Lib.hid (HK0.out.trans K2 (S := fun _ => False) (fun i hi h => by
    rcases h with h | h
    · omega
    · cases h))
  clear hC2 K2
  go_wp2_with fail
  refine HE2.out.mono ?_
  rintro e w3 ⟨A3, c3, rfl, ho, K3⟩
  go_wp2_with fail
  go_ret
  exact ⟨A3, c3, rfl, own_low ho HK2.out.size, HK2.out.trans K3 (fun _ _ h => h)⟩
theorem iKAdd10 : (Tryz.prog.info? 150).map (fun i => (i.methods.find? (·.name == "given.example/pub-clapboard/impl.add")).map (fun m => (m.path.toList.length, m.func))) = some (some (0, some (228, false))) := by kernel_rfl
theorem mKAdd10 (w : World) (g : Nat) (fuel : Nat) : (method (fuel + 1) 150 (.agg #[.iface 142 (.pointer (some ⟨g, 0, none⟩)), .func (.func 39) #[] #[], .func (.func 40) #[] #[]]) "given.example/pub-clapboard/impl.add").run Tryz.prog w = .ok (228, .agg #[.iface 142 (.pointer (some ⟨g, 0, none⟩)), .func (.func 39) #[] #[], .func (.func 40) #[] #[]]) w := by
  obtain ⟨i, m, h1, h2, h3, h4⟩ := method_row iKAdd10
  exact method_self h1 h2 h3 h4 Tryz.underlying150
theorem iKEnc10 : (Tryz.prog.info? 142).map (fun i => (i.methods.find? (·.name == "EncodeColumn")).map (fun m => (m.path.toList.length, m.func))) = some (some (0, some (95, false))) := by kernel_rfl
theorem mKEnc10 {w : World} {g : Nat} {x : Value} (hW : Whole w g 144 #[x]) (fuel : Nat) : (method (fuel + 1) 142 (.pointer (some ⟨g, 0, none⟩)) "EncodeColumn").run Tryz.prog w = .ok (95, x) w := by
  obtain ⟨i, m, h1, h2, h3, h4⟩ := method_row iKEnc10
  exact method_val h1 h2 h3 h4 Tryz.underlying142 (by have h0 : w.cell? ⟨g, 0, none⟩ = some x := hW.cell 0; go_simp)
theorem eKEnc10 : (Tryz.prog.info? 150).map (fun i => (i.methods.find? (·.name == "EncodeColumn")).map (fun m => (m.path.toList.map (fun s => (s.struct, s.index, s.deref)), m.func))) = some (some ([(150, 0, false)], none)) := by kernel_rfl
theorem mNEnc10 {w : World} {g : Nat} {x : Value} (hW : Whole w g 144 #[x]) (fuel : Nat) : (method (fuel + 1 + 1) 150 (.agg #[.iface 142 (.pointer (some ⟨g, 0, none⟩)), .func (.func 39) #[] #[], .func (.func 40) #[] #[]]) "EncodeColumn").run Tryz.prog w = .ok (95, x) w :=
  (method_emb eKEnc10 Tryz.underlying150 rfl rfl (fun w => by simp [isAgg, run_underlying Tryz.underlying148]) rfl).trans (mKEnc10 hW fuel)
theorem fKEnc10 (args : Array Value) (w : World) : (callFunc 95 args).run Tryz.prog w = .ok (.enter 95 args) w := by kernel_rfl
set_option maxRecDepth 100000 in
set_option maxHeartbeats 2000000 in
theorem kEncoded10 (w : World) (base g : Nat) (A : Option Addr) (n c : Nat) (xs : List Nat) (hC : KAt 144 27 w base g A n c (nw xs .u64)) (hl : xs.length = n) (hn : n ≤ 1000000) : Calls Tryz.prog 13 #[.func (.method "EncodeColumn") #[.iface 150 (.agg #[.iface 142 (.pointer (some ⟨g, 0, none⟩)), .func (.func 39) #[] #[], .func (.func 40) #[] #[]])] #[]] w fun e w' => EncRes w (u64s xs) e w' := by
  have K1 := (Keeps.refl (fun _ => False) w).alloc (.cells #[.slice none 0 0] 152)
  have hC1 := hC.new K1
  have hlo := hC.own.lt
  rw [ownBlock_slice] at hlo
  refine encodedE w 150 _ _ 95 _ fKEnc10 (mNEnc10 hC1.blk _) ?_
  exact (encU64 (bufW w) w.heap.size w.heap.size none 0 [] A n c xs (bufNew w (Nat.le_refl _)) (by simp) hl hn (Rd.own hC1.own) (fun k hk => ⟨by have := (hlo k hk).2; omega, fun h => by cases h⟩)).mono fun e w' h => h
set_option maxRecDepth 100000 in
set_option maxHeartbeats 2000000 in
theorem kEncode10 (w : World) (U : Option Addr) (m k0 : Nat) (rs : List (Int × Int × Int × Int)) (xs : List Nat) (hU : RowsR w U m rs) (hx : rs.map (fun r => r.1) = xs.map (fun x : Nat => (x : Int))) (hr : ∀ x ∈ xs, x < 18446744073709551616) (hm : m ≤ 100000) : Calls Tryz.prog 8 #[.int .i64 10, .slice U m k0] w fun e w' => EncRes w (u64s xs) e w' := by
  have hl : xs.length = m := by have := congrArg List.length hx; rw [List.length_map, List.length_map] at this; rw [← this]; exact hU.1
  have K0 := (Keeps.refl (fun _ => False) w).alloc (.cells #[.slice none 0 0] 144)
  have HC := Lib.hid (kcol10 w)
  have HA := Lib.hid (kadd10 (w.alloc (.cells #[.slice none 0 0] 144)) (w.alloc (.cells #[.slice none 0 0] 144)) w.heap.size w.heap.size none 0 0 [] U m k0 rs (kNew10 w (Nat.le_refl _)) (hU.keeps K0) (fun h ad e => by
    obtain ⟨ad2, h1, h2, _⟩ := hU.2.2 h
    rw [e] at h1
    injection h1 with h1
    subst h1
    exact ⟨by omega, fun h => by cases h⟩) (fun r hr2 => by
    have h1 : r.1 ∈ xs.map (fun x : Nat => (x : Int)) := by rw [← hx]; exact List.mem_map_of_mem hr2
    obtain ⟨x, h2, h3⟩ := List.mem_map.1 h1
    have := hr x h2
    rw [← h3]; omega) (by omega) hm)
  have HN := Lib.hid (nw_rows .u64 hx)
  have hma := mKAdd10
  have HE := Lib.hid (fun w base g A n c hC hl hn => kEncoded10 w base g A n c xs hC hl hn)
  have HK0 := Lib.hid K0
  have HL := Lib.hid hl
  clear hU hx hr K0 hl
  go_enter Tryz.func8, Tryz.ntmps8
  go_wp2_with fail
  refine HC.out.mono ?_
  rintro e w1 ⟨rfl, rfl⟩
  go_wp2_with fail
  refine HA.out.mono ?_
  rintro e w2 ⟨A2, c2, rfl, hC2, K2, _⟩
  rw [List.nil_append, HN.out] at hC2
  have HE2 := Lib.hid (HE.out w2 _ _ _ _ _ hC2 (by rw [HL.out]; omega) (by omega))
  have HK2 := Lib.hid (HK0.out.trans K2 (S := fun _ => False) (fun i hi h => by
    rcases h with h | h
    · omega
    · cases h))
  clear hC2 K2
  go_wp2_with fail
  refine HE2.out.mono ?_
  rintro e w3 ⟨A3, c3, rfl, ho, K3⟩
  go_wp2_with fail
  go_ret
  exact ⟨A3, c3, rfl, own_low ho HK2.out.size, HK2.out.trans K3 (fun _ _ h => h)⟩
end Go.Proofs.YtoilbojaenfalaaGreat
