/- The state of JSON columns, written and read. Conditions: sizes far below the machine's. -/
import Derived.Test.YtajgalokiobdlaaGreatGotM
import Derived.Test.YtajgalokiobdlaaGreatEncM
import Derived.Test.YtajgalokiobdlaaGreatArS
import Derived.Stop.Asserts
namespace Go.Proofs.YtajgalokiobdlaaGreat
open Go.RowKit Go.Lib
set_option linter.unusedVariables false
theorem method_row {P : Program} {t : TypeId} {name : String} {f : FuncId} {b : Bool} (h : (P.info? t).map (fun i => (i.methods.find? (·.name == name)).map (fun m => (m.path.toList.length, m.func))) = some (some (0, some (f, b)))) :
    ∃ i m, P.info? t = some i ∧ i.methods.find? (·.name == name) = some m ∧ m.path = #[] ∧ m.func = some (f, b) := by
  rw [Option.map_eq_some_iff] at h
  obtain ⟨i, h1, h2⟩ := h
  rw [Option.map_eq_some_iff] at h2
  obtain ⟨m, h3, h4⟩ := h2
  injection h4 with h4 h5
  exact ⟨i, m, h1, h3, by simpa using h4, h5⟩
theorem method_ptr {P : Program} {fuel : Nat} {t elem : TypeId} {i : TypeInfo} {m : _} {name : String} {f : FuncId} {a : Addr} {w : World} (hi : P.info? t = some i) (hm : i.methods.find? (·.name == name) = some m) (hp : m.path = #[]) (hf : m.func = some (f, true))
    (hu : P.underlying t = some (.pointer elem)) : (method (fuel + 1) t (.pointer (some a)) name).run P w = .ok (f, .pointer (some a)) w := by
  unfold method
  simp only [Sem.run_bind, run_typeInfo w hi, Result.andThen_ok, hm, hp, hf, follow, Sem.run_pure, receiverAt, run_underlying hu, Place.get, Array.isEmpty_empty, if_true, List.toList_toArray]
theorem method_own {P : Program} {fuel : Nat} {t : TypeId} {i : TypeInfo} {m : _} {name : String} {f : FuncId} {w : World} {v : Value} {fs : Array Field} (hi : P.info? t = some i) (hm : i.methods.find? (·.name == name) = some m) (hp : m.path = #[]) (hf : m.func = some (f, false))
    (hu : P.underlying t = some (.struct fs)) : (method (fuel + 1) t v name).run P w = .ok (f, v) w := by
  unfold method
  simp only [Sem.run_bind, run_typeInfo w hi, Result.andThen_ok, hm, hp, hf, follow, Sem.run_pure, receiverAt, run_underlying hu, Place.get, Array.isEmpty_empty, if_true, List.toList_toArray]
/-- A method of a struct that a struct embeds as its field 0, through a pointer. -/
theorem method_embP {P : Program} {fuel : Nat} {t u : TypeId} {name : String} {w : World} {f : FuncId} {a : Addr} {fs gs : Array Field} {fd : Field} {j : TypeInfo}
    (h : (P.info? t).map (fun i => (i.methods.find? (·.name == name)).map (fun m => (m.path.toList.map (fun s => (s.struct, s.index, s.deref)), m.func))) = some (some ([(u, 0, true)], some (f, true))))
    (hu : P.underlying u = some (.struct fs)) (hf : fs[0]? = some fd) (ho : fd.offset = 0) (hj : P.info? fd.type = some j) (hj0 : j.size ≠ 0) (hg : P.underlying fd.type = some (.struct gs)) :
    (method (fuel + 1) t (.pointer (some a)) name).run P w = .ok (f, .pointer (some a)) w := by
  rw [Option.map_eq_some_iff] at h
  obtain ⟨i, h1, h2⟩ := h
  rw [Option.map_eq_some_iff] at h2
  obtain ⟨m, h3, h4⟩ := h2
  injection h4 with h4 h5
  obtain ⟨s, r, hp, hs⟩ : ∃ s r, m.path.toList = s :: r ∧ (s.struct, s.index, s.deref) = (u, 0, true) ∧ r = [] := by
    match hl : m.path.toList with
    | [] => rw [hl] at h4; simp at h4
    | s :: r =>
      rw [hl] at h4
      simp only [List.map_cons, List.cons.injEq, List.map_eq_nil_iff] at h4
      exact ⟨s, r, rfl, h4.1, h4.2⟩
  obtain ⟨hs, rfl⟩ := hs
  injection hs with hs1 hs
  injection hs with hs2 hs3
  have ha : a.add 0 = a := by unfold Addr.add; rw [if_pos rfl]
  unfold method
  simp only [Sem.run_bind, run_typeInfo w h1, Result.andThen_ok, h3, hp, follow, hs1, hs2, hs3, run_underlying hu, hf, h5, Sem.run_pure, Place.get, if_true, asAddr, fieldPlace, sizeOf, run_typeInfo w hj, hj0, if_false, ho, ha, receiverAt, run_underlying hg]
theorem leb1 : leb 8 1 = [1, 0, 0, 0, 0, 0, 0, 0] := by decide
theorem leNat1 : Lib.leNat [1, 0, 0, 0, 0, 0, 0, 0] = 1 := by decide
def PutRes (w : World) (base bb : Nat) (X : Option Addr) (l : List UInt8) (e : Ending) (w' : World) : Prop := ∃ A' c', e = .returned (.tuple #[]) ∧ Put w w' base bb X A' c' l
def DecOk (w : World) (base rb bb : Nat) (D R : Option Nat) (t : List UInt8) (e : Ending) (w' : World) : Prop := e = .returned .nilIface ∧ RdrGo w w' base rb bb D R t
def DecErr (w : World) (base rb bb : Nat) (D R : Option Nat) (e : Ending) (w' : World) : Prop := (∃ v, e = .returned v ∧ IsErr v) ∧ RdrGo w w' base rb bb D R []
set_option maxRecDepth 100000 in
set_option maxHeartbeats 1000000 in
theorem jEnc (w : World) (g base bb : Nat) (X : Option Addr) (cx : Nat) (l : List UInt8) (hB : BufAt w base bb X cx l) (hn : l.length < 70368744177664) :
    Calls Tryz.prog 81 #[.pointer (some ⟨g, 0, none⟩), .pointer (some ⟨bb, 0, none⟩)] w fun e w' => PutRes w base bb X (l ++ [1, 0, 0, 0, 0, 0, 0, 0]) e w' := by
  have HP := Lib.hid (put64 w base bb X cx l 1 hB hn)
  rw [leb1] at HP
  clear hB
  go_enter Tryz.func81, Tryz.ntmps81
  go_wp2_with fail
  refine HP.out.mono ?_
  rintro e w1 ⟨A', c', rfl, hP⟩
  go_wp2_with fail
  go_end0
  exact ⟨A', c', rfl, hP⟩
set_option maxRecDepth 100000 in
set_option maxHeartbeats 1000000 in
theorem jDecOk (w : World) (g base rb bb : Nat) (D R : Option Nat) (t : List UInt8) (hR : RdrOn w base rb bb D R ([1, 0, 0, 0, 0, 0, 0, 0] ++ t)) :
    Calls Tryz.prog 79 #[.pointer (some ⟨g, 0, none⟩), .pointer (some ⟨rb, 0, none⟩)] w fun e w' => DecOk w base rb bb D R t e w' := by
  have HU := Lib.hid (uint64_ok w base rb bb D R [1, 0, 0, 0, 0, 0, 0, 0] t rfl hR)
  rw [leNat1] at HU
  clear hR
  go_enter Tryz.func79, Tryz.ntmps79
  go_wp2_with fail
  refine HU.out.mono ?_
  rintro e w1 ⟨rfl, hG⟩
  go_wp2_with fail
  go_ret
  exact ⟨rfl, hG⟩
set_option maxRecDepth 100000 in
set_option maxHeartbeats 1000000 in
theorem jDecErr (w : World) (g base rb bb : Nat) (D R : Option Nat) (d : List UInt8) (hR : RdrOn w base rb bb D R d) (hd : d.length < 8) :
    Calls Tryz.prog 79 #[.pointer (some ⟨g, 0, none⟩), .pointer (some ⟨rb, 0, none⟩)] w fun e w' => DecErr w base rb bb D R e w' := by
  have HU := Lib.hid (uint64_err w base rb bb D R d hR hd)
  clear hR hd
  go_enter Tryz.func79, Tryz.ntmps79
  go_wp2_with fail
  refine HU.out.mono ?_
  rintro e w1 ⟨v, rfl, ⟨a, rfl⟩, hG⟩
  go_wp2_with (go_at_call 36; go_in)
  go_ret
  exact ⟨⟨_, rfl, ⟨_, rfl⟩⟩, hG.after ((Keeps.refl _ _).alloc _)⟩
def StRes (w : World) (e : Ending) (w' : World) : Prop := ∃ A c, e = .returned (.slice A 8 c) ∧ w'.ownsRow w.heap.size 5 1 (.slice A 8 c) 8 (Lib.byteCells [1, 0, 0, 0, 0, 0, 0, 0]) ∧ Keeps (fun _ => False) w w'
/-! ### 66 -/
def txJ (g : Nat) : Value := .agg #[.iface 66 (.pointer (some ⟨g, 0, none⟩)), .func (.func 12) #[] #[], .func (.func 13) #[] #[], .func (.func 16) #[.pointer (some ⟨g, 0, none⟩)] #[]]
def ColResJ (w : World) (e : Ending) (w' : World) : Prop := ∃ g, e = .returned (.iface 58 (txJ g)) ∧ Keeps (fun _ => False) w w'
set_option maxRecDepth 100000 in
set_option maxHeartbeats 1000000 in
theorem columnJ (w : World) :
    Calls Tryz.prog 9 #[.agg #[.int .i64 2, .int .i64 0]] w fun e w' => ColResJ w e w' := by
  go_enter Tryz.func9, Tryz.ntmps9
  go_wp2_with fail
  go_ret
  exact ⟨w.heap.size + 1, rfl, ((Keeps.refl _ _).alloc _).alloc _⟩
theorem infoEJ : (Tryz.prog.info? 58).map (fun i => (i.methods.find? (·.name == "EncodeState")).map (fun m => (m.path.toList.length, m.func))) = some (some (0, some (64, false))) := by kernel_rfl
theorem infoDJ : (Tryz.prog.info? 58).map (fun i => (i.methods.find? (·.name == "DecodeState")).map (fun m => (m.path.toList.length, m.func))) = some (some (0, some (63, false))) := by kernel_rfl
theorem mEJ (w : World) (v : Value) (fuel : Nat) : (method (fuel + 1) 58 v "EncodeState").run Tryz.prog w = .ok (64, v) w := by
  obtain ⟨i, m, h1, h2, h3, h4⟩ := method_row infoEJ
  exact method_own h1 h2 h3 h4 Tryz.underlying58
theorem mDJ (w : World) (v : Value) (fuel : Nat) : (method (fuel + 1) 58 v "DecodeState").run Tryz.prog w = .ok (63, v) w := by
  obtain ⟨i, m, h1, h2, h3, h4⟩ := method_row infoDJ
  exact method_own h1 h2 h3 h4 Tryz.underlying58
theorem hasEJ (v : Value) (xT : TypeId) (w : World) : (Instr.typeAssert (.iface 58 v) xT 44 true).run Tryz.prog w = .ok (.tuple #[.iface 58 v, .bool true]) w := run_typeAssert_hasB Tryz.underlying44 (by kernel_rfl) v xT w
theorem hasDJ (v : Value) (xT : TypeId) (w : World) : (Instr.typeAssert (.iface 58 v) xT 35 true).run Tryz.prog w = .ok (.tuple #[.iface 58 v, .bool true]) w := run_typeAssert_hasB Tryz.underlying35 (by kernel_rfl) v xT w
theorem hasECJ (v : Value) (xT : TypeId) (w : World) : (Instr.typeAssert (.iface 66 v) xT 44 true).run Tryz.prog w = .ok (.tuple #[.iface 66 v, .bool true]) w := run_typeAssert_hasB Tryz.underlying44 (by kernel_rfl) v xT w
theorem hasDCJ (v : Value) (xT : TypeId) (w : World) : (Instr.typeAssert (.iface 66 v) xT 35 true).run Tryz.prog w = .ok (.tuple #[.iface 66 v, .bool true]) w := run_typeAssert_hasB Tryz.underlying35 (by kernel_rfl) v xT w
theorem infoCEJ : (Tryz.prog.info? 66).map (fun i => (i.methods.find? (·.name == "EncodeState")).map (fun m => (m.path.toList.length, m.func))) = some (some (0, some (81, true))) := by kernel_rfl
theorem mCEJ (w : World) (g : Nat) (fuel : Nat) : (method (fuel + 1) 66 (.pointer (some ⟨g, 0, none⟩)) "EncodeState").run Tryz.prog w = .ok (81, .pointer (some ⟨g, 0, none⟩)) w := by
  obtain ⟨i, m, h1, h2, h3, h4⟩ := method_row infoCEJ
  exact method_ptr h1 h2 h3 h4 Tryz.underlying66
theorem infoCDJ : (Tryz.prog.info? 66).map (fun i => (i.methods.find? (·.name == "DecodeState")).map (fun m => (m.path.toList.length, m.func))) = some (some (0, some (79, true))) := by kernel_rfl
theorem mCDJ (w : World) (g : Nat) (fuel : Nat) : (method (fuel + 1) 66 (.pointer (some ⟨g, 0, none⟩)) "DecodeState").run Tryz.prog w = .ok (79, .pointer (some ⟨g, 0, none⟩)) w := by
  obtain ⟨i, m, h1, h2, h3, h4⟩ := method_row infoCDJ
  exact method_ptr h1 h2 h3 h4 Tryz.underlying66
set_option maxRecDepth 100000 in
set_option maxHeartbeats 1000000 in
theorem encStJ (w : World) (g base bb : Nat) (X : Option Addr) (cx : Nat) (l : List UInt8) (hB : BufAt w base bb X cx l) (hn : l.length < 70368744177664) :
    Calls Tryz.prog 64 #[txJ g, .pointer (some ⟨bb, 0, none⟩)] w fun e w' => PutRes w base bb X (l ++ [1, 0, 0, 0, 0, 0, 0, 0]) e w' := by
  have HJ := Lib.hid (fun w1 (K : Keeps (fun _ => False) w w1) => jEnc w1 g base bb X cx l (hB.keeps K (fun h => h) (fun _ _ h => h)) hn)
  have hme := mCEJ
  have hh := hasECJ
  clear hB
  unfold txJ
  go_enter Tryz.func64, Tryz.ntmps64
  go_wp2_with fail
  refine (HJ.out _ ((Keeps.refl _ _).alloc _)).mono ?_
  rintro e w2 ⟨A', c', rfl, hP⟩
  go_wp2_with fail
  go_end0
  exact ⟨A', c', rfl, hP.behind ((Keeps.refl _ _).alloc _)⟩
set_option maxRecDepth 100000 in
set_option maxHeartbeats 1000000 in
theorem decOkJ (w : World) (g base rb bb : Nat) (D R : Option Nat) (t : List UInt8) (hR : RdrOn w base rb bb D R ([1, 0, 0, 0, 0, 0, 0, 0] ++ t)) :
    Calls Tryz.prog 63 #[txJ g, .pointer (some ⟨rb, 0, none⟩)] w fun e w' => DecOk w base rb bb D R t e w' := by
  have HJ := Lib.hid (fun w1 (K : Keeps (fun _ => False) w w1) => jDecOk w1 g base rb bb D R t (hR.new K))
  have hme := mCDJ
  have hh := hasDCJ
  clear hR
  unfold txJ
  go_enter Tryz.func63, Tryz.ntmps63
  go_wp2_with fail
  refine (HJ.out _ ((Keeps.refl _ _).alloc _)).mono ?_
  rintro e w2 ⟨rfl, hG⟩
  go_wp2_with fail
  go_ret
  exact ⟨rfl, RdrGo.behind ((Keeps.refl _ _).alloc _) hG⟩
set_option maxRecDepth 100000 in
set_option maxHeartbeats 1000000 in
theorem decErrJ (w : World) (g base rb bb : Nat) (D R : Option Nat) (d : List UInt8) (hR : RdrOn w base rb bb D R d) (hd : d.length < 8) :
    Calls Tryz.prog 63 #[txJ g, .pointer (some ⟨rb, 0, none⟩)] w fun e w' => DecErr w base rb bb D R e w' := by
  have HJ := Lib.hid (fun w1 (K : Keeps (fun _ => False) w w1) => jDecErr w1 g base rb bb D R d (hR.new K) hd)
  have hme := mCDJ
  have hh := hasDCJ
  clear hR
  unfold txJ
  go_enter Tryz.func63, Tryz.ntmps63
  go_wp2_with fail
  refine (HJ.out _ ((Keeps.refl _ _).alloc _)).mono ?_
  rintro e w2 ⟨⟨v, rfl, hv⟩, hG⟩
  go_wp2_with fail
  go_ret
  exact ⟨⟨v, rfl, hv⟩, RdrGo.behind ((Keeps.refl _ _).alloc _) hG⟩
set_option maxRecDepth 100000 in
set_option maxHeartbeats 1000000 in
theorem stStateJ (w : World) :
    Calls Tryz.prog 8 #[.agg #[.int .i64 2, .int .i64 0]] w fun e w' => StRes w e w' := by
  have HC := Lib.hid (fun w => columnJ w)
  have HE := Lib.hid (fun w g => encoded_anyM w [1, 0, 0, 0, 0, 0, 0, 0] "EncodeState" 58 (txJ g) (txJ g) 64 (fun w => mEJ w (txJ g) _) (fun args w => rfl) (fun w1 hB hK => (encStJ w1 g _ _ none 0 [] hB (by simp)).mono fun e w2 h => by
    obtain ⟨A', c', he, hP⟩ := h
    exact ⟨he, A', c', hP⟩))
  have hh := hasEJ
  have K0 := (Keeps.refl (fun _ => False) w).alloc (.cells #[.int .i64 2, .int .i64 0] 24)
  have HK0 := Lib.hid K0
  clear K0
  go_enter Tryz.func8, Tryz.ntmps8
  go_wp2_with fail
  refine (HC.out _).mono ?_
  rintro e w1 ⟨g, rfl, K1⟩
  have HK1 := Lib.hid (HK0.out.trans K1 (fun _ _ h => h))
  have HE1 := Lib.hid (HE.out w1 g)
  clear K1
  go_wp2_with fail
  refine HE1.out.mono ?_
  rintro e w2 ⟨A, c, rfl, ho, K2, _⟩
  go_wp2_with fail
  go_ret
  exact ⟨A, c, rfl, own_base_le ho HK1.out.size, HK1.out.trans K2 (fun _ _ h => h)⟩
set_option maxRecDepth 100000 in
set_option maxHeartbeats 2000000 in
theorem stReadOkJ (w : World) (A : Option Addr) (n c : Nat) (t : List UInt8) (hn : ([1, 0, 0, 0, 0, 0, 0, 0] ++ t).length = n) (hR : Rd w 1 A n (Lib.byteCells ([1, 0, 0, 0, 0, 0, 0, 0] ++ t))) (hc : n ≤ c) (hA : ∀ i, ob A = some i → i < w.heap.size) :
    Calls Tryz.prog 5 #[.agg #[.int .i64 2, .int .i64 0], .slice A n c] w fun e w' => e = .returned (.tuple #[.int .i64 (t.length : Nat), .bool true]) ∧ Keeps (fun _ => False) w w' := by
  subst hn
  have HC := Lib.hid (fun w => columnJ w)
  have HE := Lib.hid (fun w1 g (K : Keeps (fun _ => False) w w1) => got_okM w1 A c ([1, 0, 0, 0, 0, 0, 0, 0] ++ t) t (hR.keeps K (fun _ _ h => h)) hc (fun i hi => Nat.lt_of_lt_of_le (hA i hi) K.size) "DecodeState" 58 (txJ g) (txJ g) 63 (fun w => mDJ w (txJ g) _) (fun args w => rfl) (fun i => w1.heap.size < i) (Nat.lt_irrefl _) (fun _ => True) (fun w1 hR1 hK => (decOkJ w1 g _ _ _ _ none t hR1).mono fun e w2 h => by
    obtain ⟨he, hG⟩ := h
    obtain ⟨R1, hR2, _⟩ := hG.1
    refine ⟨he, ⟨R1, hR2⟩, hG.keeps.mono (fun i hi h2 => ?_), trivial⟩
    rcases h2 with h2 | h2 | h2
    · show _ < i; omega
    · show _ < i; omega
    · cases h2))
  have hh := hasDJ
  have HK0 := Lib.hid ((Keeps.refl (fun _ => False) w).alloc (.cells #[.int .i64 2, .int .i64 0] 24))
  clear hR hc hA
  generalize hdl : ([1, 0, 0, 0, 0, 0, 0, 0] ++ t).length = n at *
  go_enter Tryz.func5, Tryz.ntmps5
  go_wp2_with fail
  refine (HC.out _).mono ?_
  rintro e w1 ⟨g, rfl, K1⟩
  have HK1 := Lib.hid (HK0.out.trans K1 (fun _ _ h => h))
  have HE1 := Lib.hid (HE.out w1 g HK1.out)
  clear K1
  go_wp2_with fail
  refine HE1.out.mono ?_
  rintro e w2 ⟨w3, rfl, _, K2, K3⟩
  have hsz := HK1.out.size
  go_wp2_with fail
  go_ret2
  exact ⟨rfl, (HK1.out.trans ((K2.mono (S' := fun i => w1.heap.size ≤ i) (fun i _ h => Nat.le_of_lt h)).trans K3 (fun i hi h => by omega) |>.mono (S' := fun _ => False) (fun i hi h => by omega)) (fun _ _ h => h))⟩
set_option maxRecDepth 100000 in
set_option maxHeartbeats 2000000 in
theorem stReadErrJ (w : World) (A : Option Addr) (n c : Nat) (d : List UInt8) (hd : d.length < 8) (hn : d.length = n) (hR : Rd w 1 A n (Lib.byteCells d)) (hc : n ≤ c) (hA : ∀ i, ob A = some i → i < w.heap.size) :
    Calls Tryz.prog 5 #[.agg #[.int .i64 2, .int .i64 0], .slice A n c] w fun e w' => e = .returned (.tuple #[.int .i64 (0 : Nat), .bool false]) ∧ Keeps (fun _ => False) w w' := by
  subst hn
  have HC := Lib.hid (fun w => columnJ w)
  have HE := Lib.hid (fun w1 g (K : Keeps (fun _ => False) w w1) => got_errM w1 A c d (hR.keeps K (fun _ _ h => h)) hc (fun i hi => Nat.lt_of_lt_of_le (hA i hi) K.size) "DecodeState" 58 (txJ g) (txJ g) 63 (fun w => mDJ w (txJ g) _) (fun args w => rfl) (fun i => w1.heap.size < i) (Nat.lt_irrefl _) (fun _ => True) (fun w1 hR1 hK => (decErrJ w1 g _ _ _ _ none d hR1 hd).mono fun e w2 h => by
    obtain ⟨he, hG⟩ := h
    refine ⟨he, hG.keeps.mono (fun i hi h2 => ?_), trivial⟩
    rcases h2 with h2 | h2 | h2
    · show _ < i; omega
    · show _ < i; omega
    · cases h2))
  have hh := hasDJ
  have HK0 := Lib.hid ((Keeps.refl (fun _ => False) w).alloc (.cells #[.int .i64 2, .int .i64 0] 24))
  clear hR hc hA
  generalize hdl : d.length = n at *
  go_enter Tryz.func5, Tryz.ntmps5
  go_wp2_with fail
  refine (HC.out _).mono ?_
  rintro e w1 ⟨g, rfl, K1⟩
  have HK1 := Lib.hid (HK0.out.trans K1 (fun _ _ h => h))
  have HE1 := Lib.hid (HE.out w1 g HK1.out)
  clear K1
  go_wp2_with fail
  refine HE1.out.mono ?_
  rintro e w2 ⟨w3, rfl, _, K2, K3⟩
  have hsz := HK1.out.size
  go_wp2_with fail
  go_ret2
  exact ⟨rfl, (HK1.out.trans ((K2.mono (S' := fun i => w1.heap.size ≤ i) (fun i _ h => Nat.le_of_lt h)).trans K3 (fun i hi h => by omega) |>.mono (S' := fun _ => False) (fun i hi h => by omega)) (fun _ _ h => h))⟩
/-! ### 69 -/
def txB (g : Nat) : Value := .agg #[.iface 69 (.pointer (some ⟨g, 0, none⟩)), .func (.func 15) #[] #[], .func (.func 15) #[] #[], .nilFunc]
def ColResB (w : World) (e : Ending) (w' : World) : Prop := ∃ g, e = .returned (.iface 65 (txB g)) ∧ Keeps (fun _ => False) w w'
set_option maxRecDepth 100000 in
set_option maxHeartbeats 1000000 in
theorem columnB (w : World) :
    Calls Tryz.prog 9 #[.agg #[.int .i64 3, .int .i64 0]] w fun e w' => ColResB w e w' := by
  go_enter Tryz.func9, Tryz.ntmps9
  go_wp2_with fail
  go_ret
  exact ⟨w.heap.size + 1, rfl, ((Keeps.refl _ _).alloc _).alloc _⟩
theorem infoEB : (Tryz.prog.info? 65).map (fun i => (i.methods.find? (·.name == "EncodeState")).map (fun m => (m.path.toList.length, m.func))) = some (some (0, some (71, false))) := by kernel_rfl
theorem infoDB : (Tryz.prog.info? 65).map (fun i => (i.methods.find? (·.name == "DecodeState")).map (fun m => (m.path.toList.length, m.func))) = some (some (0, some (70, false))) := by kernel_rfl
theorem mEB (w : World) (v : Value) (fuel : Nat) : (method (fuel + 1) 65 v "EncodeState").run Tryz.prog w = .ok (71, v) w := by
  obtain ⟨i, m, h1, h2, h3, h4⟩ := method_row infoEB
  exact method_own h1 h2 h3 h4 Tryz.underlying65
theorem mDB (w : World) (v : Value) (fuel : Nat) : (method (fuel + 1) 65 v "DecodeState").run Tryz.prog w = .ok (70, v) w := by
  obtain ⟨i, m, h1, h2, h3, h4⟩ := method_row infoDB
  exact method_own h1 h2 h3 h4 Tryz.underlying65
theorem hasEB (v : Value) (xT : TypeId) (w : World) : (Instr.typeAssert (.iface 65 v) xT 44 true).run Tryz.prog w = .ok (.tuple #[.iface 65 v, .bool true]) w := run_typeAssert_hasB Tryz.underlying44 (by kernel_rfl) v xT w
theorem hasDB (v : Value) (xT : TypeId) (w : World) : (Instr.typeAssert (.iface 65 v) xT 35 true).run Tryz.prog w = .ok (.tuple #[.iface 65 v, .bool true]) w := run_typeAssert_hasB Tryz.underlying35 (by kernel_rfl) v xT w
theorem hasECB (v : Value) (xT : TypeId) (w : World) : (Instr.typeAssert (.iface 69 v) xT 44 true).run Tryz.prog w = .ok (.tuple #[.iface 69 v, .bool true]) w := run_typeAssert_hasB Tryz.underlying44 (by kernel_rfl) v xT w
theorem hasDCB (v : Value) (xT : TypeId) (w : World) : (Instr.typeAssert (.iface 69 v) xT 35 true).run Tryz.prog w = .ok (.tuple #[.iface 69 v, .bool true]) w := run_typeAssert_hasB Tryz.underlying35 (by kernel_rfl) v xT w
theorem infoCEB : (Tryz.prog.info? 69).map (fun i => (i.methods.find? (·.name == "EncodeState")).map (fun m => (m.path.toList.map (fun s => (s.struct, s.index, s.deref)), m.func))) = some (some ([(71, 0, true)], some (81, true))) := by kernel_rfl
theorem mCEB (w : World) (g : Nat) (fuel : Nat) : (method (fuel + 1) 69 (.pointer (some ⟨g, 0, none⟩)) "EncodeState").run Tryz.prog w = .ok (81, .pointer (some ⟨g, 0, none⟩)) w := by
  have hs : (Tryz.prog.info? 68).map (·.size) = some 2 := by kernel_rfl
  rw [Option.map_eq_some_iff] at hs
  obtain ⟨j, hj, hs⟩ := hs
  exact method_embP infoCEB Tryz.underlying71 rfl rfl hj (by rw [hs]; decide) Tryz.underlying68
theorem infoCDB : (Tryz.prog.info? 69).map (fun i => (i.methods.find? (·.name == "DecodeState")).map (fun m => (m.path.toList.map (fun s => (s.struct, s.index, s.deref)), m.func))) = some (some ([(71, 0, true)], some (79, true))) := by kernel_rfl
theorem mCDB (w : World) (g : Nat) (fuel : Nat) : (method (fuel + 1) 69 (.pointer (some ⟨g, 0, none⟩)) "DecodeState").run Tryz.prog w = .ok (79, .pointer (some ⟨g, 0, none⟩)) w := by
  have hs : (Tryz.prog.info? 68).map (·.size) = some 2 := by kernel_rfl
  rw [Option.map_eq_some_iff] at hs
  obtain ⟨j, hj, hs⟩ := hs
  exact method_embP infoCDB Tryz.underlying71 rfl rfl hj (by rw [hs]; decide) Tryz.underlying68
set_option maxRecDepth 100000 in
set_option maxHeartbeats 1000000 in
theorem encStB (w : World) (g base bb : Nat) (X : Option Addr) (cx : Nat) (l : List UInt8) (hB : BufAt w base bb X cx l) (hn : l.length < 70368744177664) :
    Calls Tryz.prog 71 #[txB g, .pointer (some ⟨bb, 0, none⟩)] w fun e w' => PutRes w base bb X (l ++ [1, 0, 0, 0, 0, 0, 0, 0]) e w' := by
  have HJ := Lib.hid (fun w1 (K : Keeps (fun _ => False) w w1) => jEnc w1 g base bb X cx l (hB.keeps K (fun h => h) (fun _ _ h => h)) hn)
  have hme := mCEB
  have hh := hasECB
  clear hB
  unfold txB
  go_enter Tryz.func71, Tryz.ntmps71
  go_wp2_with fail
  refine (HJ.out _ ((Keeps.refl _ _).alloc _)).mono ?_
  rintro e w2 ⟨A', c', rfl, hP⟩
  go_wp2_with fail
  go_end0
  exact ⟨A', c', rfl, hP.behind ((Keeps.refl _ _).alloc _)⟩
set_option maxRecDepth 100000 in
set_option maxHeartbeats 1000000 in
theorem decOkB (w : World) (g base rb bb : Nat) (D R : Option Nat) (t : List UInt8) (hR : RdrOn w base rb bb D R ([1, 0, 0, 0, 0, 0, 0, 0] ++ t)) :
    Calls Tryz.prog 70 #[txB g, .pointer (some ⟨rb, 0, none⟩)] w fun e w' => DecOk w base rb bb D R t e w' := by
  have HJ := Lib.hid (fun w1 (K : Keeps (fun _ => False) w w1) => jDecOk w1 g base rb bb D R t (hR.new K))
  have hme := mCDB
  have hh := hasDCB
  clear hR
  unfold txB
  go_enter Tryz.func70, Tryz.ntmps70
  go_wp2_with fail
  refine (HJ.out _ ((Keeps.refl _ _).alloc _)).mono ?_
  rintro e w2 ⟨rfl, hG⟩
  go_wp2_with fail
  go_ret
  exact ⟨rfl, RdrGo.behind ((Keeps.refl _ _).alloc _) hG⟩
set_option maxRecDepth 100000 in
set_option maxHeartbeats 1000000 in
theorem decErrB (w : World) (g base rb bb : Nat) (D R : Option Nat) (d : List UInt8) (hR : RdrOn w base rb bb D R d) (hd : d.length < 8) :
    Calls Tryz.prog 70 #[txB g, .pointer (some ⟨rb, 0, none⟩)] w fun e w' => DecErr w base rb bb D R e w' := by
  have HJ := Lib.hid (fun w1 (K : Keeps (fun _ => False) w w1) => jDecErr w1 g base rb bb D R d (hR.new K) hd)
  have hme := mCDB
  have hh := hasDCB
  clear hR
  unfold txB
  go_enter Tryz.func70, Tryz.ntmps70
  go_wp2_with fail
  refine (HJ.out _ ((Keeps.refl _ _).alloc _)).mono ?_
  rintro e w2 ⟨⟨v, rfl, hv⟩, hG⟩
  go_wp2_with fail
  go_ret
  exact ⟨⟨v, rfl, hv⟩, RdrGo.behind ((Keeps.refl _ _).alloc _) hG⟩
set_option maxRecDepth 100000 in
set_option maxHeartbeats 1000000 in
theorem stStateB (w : World) :
    Calls Tryz.prog 8 #[.agg #[.int .i64 3, .int .i64 0]] w fun e w' => StRes w e w' := by
  have HC := Lib.hid (fun w => columnB w)
  have HE := Lib.hid (fun w g => encoded_anyM w [1, 0, 0, 0, 0, 0, 0, 0] "EncodeState" 65 (txB g) (txB g) 71 (fun w => mEB w (txB g) _) (fun args w => rfl) (fun w1 hB hK => (encStB w1 g _ _ none 0 [] hB (by simp)).mono fun e w2 h => by
    obtain ⟨A', c', he, hP⟩ := h
    exact ⟨he, A', c', hP⟩))
  have hh := hasEB
  have K0 := (Keeps.refl (fun _ => False) w).alloc (.cells #[.int .i64 3, .int .i64 0] 24)
  have HK0 := Lib.hid K0
  clear K0
  go_enter Tryz.func8, Tryz.ntmps8
  go_wp2_with fail
  refine (HC.out _).mono ?_
  rintro e w1 ⟨g, rfl, K1⟩
  have HK1 := Lib.hid (HK0.out.trans K1 (fun _ _ h => h))
  have HE1 := Lib.hid (HE.out w1 g)
  clear K1
  go_wp2_with fail
  refine HE1.out.mono ?_
  rintro e w2 ⟨A, c, rfl, ho, K2, _⟩
  go_wp2_with fail
  go_ret
  exact ⟨A, c, rfl, own_base_le ho HK1.out.size, HK1.out.trans K2 (fun _ _ h => h)⟩
set_option maxRecDepth 100000 in
set_option maxHeartbeats 2000000 in
theorem stReadOkB (w : World) (A : Option Addr) (n c : Nat) (t : List UInt8) (hn : ([1, 0, 0, 0, 0, 0, 0, 0] ++ t).length = n) (hR : Rd w 1 A n (Lib.byteCells ([1, 0, 0, 0, 0, 0, 0, 0] ++ t))) (hc : n ≤ c) (hA : ∀ i, ob A = some i → i < w.heap.size) :
    Calls Tryz.prog 5 #[.agg #[.int .i64 3, .int .i64 0], .slice A n c] w fun e w' => e = .returned (.tuple #[.int .i64 (t.length : Nat), .bool true]) ∧ Keeps (fun _ => False) w w' := by
  subst hn
  have HC := Lib.hid (fun w => columnB w)
  have HE := Lib.hid (fun w1 g (K : Keeps (fun _ => False) w w1) => got_okM w1 A c ([1, 0, 0, 0, 0, 0, 0, 0] ++ t) t (hR.keeps K (fun _ _ h => h)) hc (fun i hi => Nat.lt_of_lt_of_le (hA i hi) K.size) "DecodeState" 65 (txB g) (txB g) 70 (fun w => mDB w (txB g) _) (fun args w => rfl) (fun i => w1.heap.size < i) (Nat.lt_irrefl _) (fun _ => True) (fun w1 hR1 hK => (decOkB w1 g _ _ _ _ none t hR1).mono fun e w2 h => by
    obtain ⟨he, hG⟩ := h
    obtain ⟨R1, hR2, _⟩ := hG.1
    refine ⟨he, ⟨R1, hR2⟩, hG.keeps.mono (fun i hi h2 => ?_), trivial⟩
    rcases h2 with h2 | h2 | h2
    · show _ < i; omega
    · show _ < i; omega
    · cases h2))
  have hh := hasDB
  have HK0 := Lib.hid ((Keeps.refl (fun _ => False) w).alloc (.cells #[.int .i64 3, .int .i64 0] 24))
  clear hR hc hA
  generalize hdl : ([1, 0, 0, 0, 0, 0, 0, 0] ++ t).length = n at *
  go_enter Tryz.func5, Tryz.ntmps5
  go_wp2_with fail
  refine (HC.out _).mono ?_
  rintro e w1 ⟨g, rfl, K1⟩
  have HK1 := Lib.hid (HK0.out.trans K1 (fun _ _ h => h))
  have HE1 := Lib.hid (HE.out w1 g HK1.out)
  clear K1
  go_wp2_with fail
  refine HE1.out.mono ?_
  rintro e w2 ⟨w3, rfl, _, K2, K3⟩
  have hsz := HK1.out.size
  go_wp2_with fail
  go_ret2
  exact ⟨rfl, (HK1.out.trans ((K2.mono (S' := fun i => w1.heap.size ≤ i) (fun i _ h => Nat.le_of_lt h)).trans K3 (fun i hi h => by omega) |>.mono (S' := fun _ => False) (fun i hi h => by omega)) (fun _ _ h => h))⟩
set_option maxRecDepth 100000 in
set_option maxHeartbeats 2000000 in
theorem stReadErrB (w : World) (A : Option Addr) (n c : Nat) (d : List UInt8) (hd : d.length < 8) (hn : d.length = n) (hR : Rd w 1 A n (Lib.byteCells d)) (hc : n ≤ c) (hA : ∀ i, ob A = some i → i < w.heap.size) :
    Calls Tryz.prog 5 #[.agg #[.int .i64 3, .int .i64 0], .slice A n c] w fun e w' => e = .returned (.tuple #[.int .i64 (0 : Nat), .bool false]) ∧ Keeps (fun _ => False) w w' := by
  subst hn
  have HC := Lib.hid (fun w => columnB w)
  have HE := Lib.hid (fun w1 g (K : Keeps (fun _ => False) w w1) => got_errM w1 A c d (hR.keeps K (fun _ _ h => h)) hc (fun i hi => Nat.lt_of_lt_of_le (hA i hi) K.size) "DecodeState" 65 (txB g) (txB g) 70 (fun w => mDB w (txB g) _) (fun args w => rfl) (fun i => w1.heap.size < i) (Nat.lt_irrefl _) (fun _ => True) (fun w1 hR1 hK => (decErrB w1 g _ _ _ _ none d hR1 hd).mono fun e w2 h => by
    obtain ⟨he, hG⟩ := h
    refine ⟨he, hG.keeps.mono (fun i hi h2 => ?_), trivial⟩
    rcases h2 with h2 | h2 | h2
    · show _ < i; omega
    · show _ < i; omega
    · cases h2))
  have hh := hasDB
  have HK0 := Lib.hid ((Keeps.refl (fun _ => False) w).alloc (.cells #[.int .i64 3, .int .i64 0] 24))
  clear hR hc hA
  generalize hdl : d.length = n at *
  go_enter Tryz.func5, Tryz.ntmps5
  go_wp2_with fail
  refine (HC.out _).mono ?_
  rintro e w1 ⟨g, rfl, K1⟩
  have HK1 := Lib.hid (HK0.out.trans K1 (fun _ _ h => h))
  have HE1 := Lib.hid (HE.out w1 g HK1.out)
  clear K1
  go_wp2_with fail
  refine HE1.out.mono ?_
  rintro e w2 ⟨w3, rfl, _, K2, K3⟩
  have hsz := HK1.out.size
  go_wp2_with fail
  go_ret2
  exact ⟨rfl, (HK1.out.trans ((K2.mono (S' := fun i => w1.heap.size ≤ i) (fun i _ h => Nat.le_of_lt h)).trans K3 (fun i hi h => by omega) |>.mono (S' := fun _ => False) (fun i hi h => by omega)) (fun _ _ h => h))⟩
end Go.Proofs.YtajgalokiobdlaaGreat
