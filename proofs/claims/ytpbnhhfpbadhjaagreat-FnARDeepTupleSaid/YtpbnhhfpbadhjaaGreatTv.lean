/- A tuple of columns made ready, encoded into a buffer. Conditions: each column's own contract holds in the world in which all of them lie; sizes far below the machine's. -/
import Derived.Test.YtpbnhhfpbadhjaaGreatPre
import Derived.Test.YtpbnhhfpbadhjaaGreatArS
namespace Go.Proofs.YtpbnhhfpbadhjaaGreat
open Go.RowKit Go.Lib
set_option linter.unusedVariables false
theorem iTuPre : (Tryz.prog.info? 70).map (fun i => (i.methods.find? (·.name == "Prepare")).map (fun m => (m.path.toList.length, m.func))) = some (some (0, some (187, false))) := by kernel_rfl
theorem iTuEnc : (Tryz.prog.info? 70).map (fun i => (i.methods.find? (·.name == "EncodeColumn")).map (fun m => (m.path.toList.length, m.func))) = some (some (0, some (186, false))) := by kernel_rfl

theorem method_slice {P : Program} {fuel : Nat} {t e : TypeId} {i : TypeInfo} {m : _} {name : String} {f : FuncId} {w : World} {v : Value} (hi : P.info? t = some i) (hm : i.methods.find? (·.name == name) = some m) (hp : m.path = #[]) (hf : m.func = some (f, false))
    (hu : P.underlying t = some (.slice e)) : (method (fuel + 1) t v name).run P w = .ok (f, v) w := by
  unfold method
  simp only [Sem.run_bind, run_typeInfo w hi, Result.andThen_ok, hm, hp, hf, follow, Sem.run_pure, receiverAt, run_underlying hu, Place.get, Array.isEmpty_empty, if_true, List.toList_toArray]
theorem mTuPre (w : World) (v : Value) (fuel : Nat) : (method (fuel + 1) 70 v "Prepare").run Tryz.prog w = .ok (187, v) w := by
  obtain ⟨i, m, h1, h2, h3, h4⟩ := method_row iTuPre
  exact method_slice h1 h2 h3 h4 Tryz.underlying70
theorem mTuEnc (w : World) (v : Value) (fuel : Nat) : (method (fuel + 1) 70 v "EncodeColumn").run Tryz.prog w = .ok (186, v) w := by
  obtain ⟨i, m, h1, h2, h3, h4⟩ := method_row iTuEnc
  exact method_slice h1 h2 h3 h4 Tryz.underlying70
theorem fTuEnc (args : Array Value) (w : World) : (callFunc 186 args).run Tryz.prog w = .ok (.enter 186 args) w := by kernel_rfl
theorem hasPrepTu (v : Value) (xT : TypeId) (w : World) : (Instr.typeAssert (.iface 70 v) xT 240 true).run Tryz.prog w = .ok (.tuple #[.iface 70 v, .bool true]) w :=
  run_typeAssert_hasB Tryz.underlying240 (by kernel_rfl) v xT w
/-- One column of a tuple: its type, its value, its bytes. -/
structure Tc where
  T : TypeId
  p : Value
  b : List UInt8
def Tc.val (c : Tc) : Value := .iface c.T c.p
def Tc.encodes (c : Tc) (w0 : World) : Prop := ∀ (w : World) (bb : Nat) (X : Option Addr) (cx : Nat) (l : List UInt8), Keeps (fun _ => False) w0 w → BufAt w w0.heap.size bb X cx l → l.length + c.b.length ≤ 1000000 →
  ∃ (f : FuncId) (recv : Value), (∀ fuel, (method (fuel + 1) c.T c.p "EncodeColumn").run Tryz.prog w = .ok (f, recv) w) ∧ (∀ args w', (callFunc f args).run Tryz.prog w' = .ok (.enter f args) w') ∧
    Calls Tryz.prog f #[recv, .pointer (some ⟨bb, 0, none⟩)] w fun e w' => ∃ A' c', e = .returned (.tuple #[]) ∧ Put w w' w0.heap.size bb X A' c' (l ++ c.b)
def Tc.ready (c : Tc) (w0 : World) : Prop := ∀ (w : World), Keeps (fun _ => False) w0 w →
  ((∀ xT w', (Instr.typeAssert (.iface c.T c.p) xT 240 true).run Tryz.prog w' = .ok (.tuple #[.nilIface, .bool false]) w') ∨
   ((∀ xT w', (Instr.typeAssert (.iface c.T c.p) xT 240 true).run Tryz.prog w' = .ok (.tuple #[.iface c.T c.p, .bool true]) w') ∧ ∃ (f : FuncId) (recv : Value), (∀ fuel, (method (fuel + 1) c.T c.p "Prepare").run Tryz.prog w = .ok (f, recv) w) ∧ (∀ args w', (callFunc f args).run Tryz.prog w' = .ok (.enter f args) w') ∧
     Calls Tryz.prog f #[recv] w fun e w' => e = .returned .nilIface ∧ Keeps (fun _ => False) w w'))
theorem Put.old {w w' : World} {base bb : Nat} {A A' : Option Addr} {c c' : Nat} {l l' : List UInt8} (h : Put w w' base bb A A' c' l') (hB : BufAt w base bb A c l) {w0 : World} (hK : Keeps (fun _ => False) w0 w) (hb : w0.heap.size ≤ base) : Keeps (fun _ => False) w0 w' :=
  hK.trans h.keeps (fun i hi hs => by
    rcases hs with hs | hs
    · have := hB.lo; omega
    · have := (hB.row_lo i hs).1; omega)
def tcB (cols : List Tc) : List UInt8 := (cols.map Tc.b).flatten
theorem tcB_step {cols : List Tc} {k : Nat} {c : Tc} (h : cols[k]? = some c) : tcB (cols.take (k + 1)) = tcB (cols.take k) ++ c.b := by
  rw [tcB, List.take_add_one, h]; simp [tcB]
theorem tcB_le (cols : List Tc) (k : Nat) : (tcB (cols.take k)).length ≤ (tcB cols).length := by
  have := flat_le (cols.map Tc.b) k
  rwa [← List.map_take] at this
set_option maxRecDepth 100000 in
set_option maxHeartbeats 2000000 in
theorem encTuple (w0 w : World) (U : Option Addr) (n k0 : Nat) (cols : List Tc) (bb : Nat) (X : Option Addr) (cx : Nat) (l : List UInt8) (hl : cols.length = n) (hU : Rd w0 1 U n (cols.map Tc.val)) (hE : ∀ c ∈ cols, c.encodes w0) (hK : Keeps (fun _ => False) w0 w) (hB : BufAt w w0.heap.size bb X cx l) (hn : l.length + (tcB cols).length ≤ 1000000) (hnn : n ≤ 1000) :
    Calls Tryz.prog 186 #[.slice U n k0, .pointer (some ⟨bb, 0, none⟩)] w fun e w' => ∃ A' c', e = .returned (.tuple #[]) ∧ Put w w' w0.heap.size bb X A' c' (l ++ tcB cols) := by
  have HU := Lib.hid hU
  have HL := Lib.hid hl
  have HE := Lib.hid hE
  have HK := Lib.hid hK
  have HB := Lib.hid hB
  have HN := Lib.hid hn
  clear hU hl hE hK hB hn
  go_enter Tryz.func186, Tryz.ntmps186
  go_wp2_with fail
  go_loopw [8, 5] (fun i _ wr => ∃ (k : Nat) (A' : Option Addr) (c' : Nat), k ≤ n ∧ i = .int .i64 k ∧ Put w wr w0.heap.size bb X A' c' (l ++ tcB (cols.take k))) (fun i _ _ => n - (RowKit.intOf i).toNat)
  case atStart => exact ⟨0, X, cx, Nat.zero_le _, rfl, by simpa [tcB] using Put.refl HB.out⟩
  case round =>
    obtain ⟨k, A', c', hk, rfl, hP⟩ := hrel
    have HP := Lib.hid hP
    clear hP
    by_cases hlt : k < n
    · obtain ⟨c, hc⟩ : ∃ c, cols[k]? = some c := ⟨_, List.getElem?_eq_getElem (by rw [HL.out]; exact hlt)⟩
      have HT := Lib.hid (tcB_step hc)
      have hKr := HP.out.old HB.out HK.out (Nat.le_refl _)
      obtain ⟨ad, u, rfl, hb, hu, hcell⟩ := (HU.out.keeps hKr (fun _ _ h => h)).at' hlt
      have hu' : u = .iface c.T c.p := by
        rw [List.getElem?_map, hc] at hu
        exact (Option.some.inj hu).symm
      subst hu'
      have hlen : (l ++ tcB (cols.take k)).length + c.b.length ≤ 1000000 := by
        have h1 := tcB_le cols (k + 1)
        have h2 := HN.out
        rw [HT.out, List.length_append] at h1
        rw [List.length_append]
        omega
      obtain ⟨f, recv, hme, hf, hCa⟩ := HE.out c (List.mem_of_getElem? hc) wr bb A' c' _ hKr HP.out.at' hlen
      have HCa := Lib.hid hCa
      have hmM : (method 469 c.T c.p "EncodeColumn").run Tryz.prog wr = .ok (f, recv) wr := hme _
      clear hu hc hCa hme hlen
      go_wp2_with fail
      refine HCa.out.mono ?_
      rintro e w2 ⟨A2, c2, rfl, hP2⟩
      have HP2 := Lib.hid (HP.out.trans hP2)
      clear hP2
      go_wp2_with fail
      go_roundw
      case rel => exact ⟨k + 1, A2, c2, by omega, by go_num, by rw [HT.out, ← List.append_assoc]; exact HP2.out⟩
      case measure => (first | (simp [RowKit.intOf]; done) | (simp [RowKit.intOf]; omega))
    · have hkn : k = n := by omega
      subst hkn
      have hfin := HP.out
      rw [List.take_of_length_le (by rw [HL.out]; exact Nat.le_refl _)] at hfin
      have HFIN := Lib.hid hfin
      clear hfin
      go_wp2_with fail
      go_end0
      exact ⟨A', c', rfl, HFIN.out⟩
set_option maxRecDepth 100000 in
set_option maxHeartbeats 2000000 in
theorem preTuple (w0 w : World) (U : Option Addr) (n k0 : Nat) (cols : List Tc) (hl : cols.length = n) (hU : Rd w0 1 U n (cols.map Tc.val)) (hE : ∀ c ∈ cols, c.ready w0) (hK : Keeps (fun _ => False) w0 w) (hnn : n ≤ 1000) :
    Calls Tryz.prog 187 #[.slice U n k0] w fun e w' => e = .returned .nilIface ∧ Keeps (fun _ => False) w w' := by
  have HU := Lib.hid hU
  have HL := Lib.hid hl
  have HE := Lib.hid hE
  have HK := Lib.hid hK
  clear hU hl hE hK
  go_enter Tryz.func187, Tryz.ntmps187
  go_wp2_with fail
  go_loopw [10, 4, 5, 6, 7] (fun i _ _ _ _ wr => ∃ (k : Nat), k ≤ n ∧ i = .int .i64 k ∧ Keeps (fun _ => False) w wr) (fun i _ _ _ _ _ => n - (RowKit.intOf i).toNat)
  case atStart => exact ⟨0, Nat.zero_le _, rfl, Keeps.refl _ _⟩
  case round =>
    obtain ⟨k, hk, rfl, hKw⟩ := hrel
    by_cases hlt : k < n
    · obtain ⟨c, hc⟩ : ∃ c, cols[k]? = some c := ⟨_, List.getElem?_eq_getElem (by rw [HL.out]; exact hlt)⟩
      have hKr := HK.out.trans hKw (fun _ _ h => h)
      obtain ⟨ad, u, rfl, hb, hu, hcell⟩ := (HU.out.keeps hKr (fun _ _ h => h)).at' hlt
      have hu' : u = .iface c.T c.p := by
        rw [List.getElem?_map, hc] at hu
        exact (Option.some.inj hu).symm
      subst hu'
      have hR := HE.out c (List.mem_of_getElem? hc) wr hKr
      have HKw := Lib.hid hKw
      clear hu hc hKr hKw
      rcases hR with hno | ⟨hyes, f, recv, hme, hf, hCa⟩
      · go_wp2_with fail
        go_roundw
        case rel => exact ⟨k + 1, by omega, by go_num, HKw.out⟩
        case measure => (first | (simp [RowKit.intOf]; done) | (simp [RowKit.intOf]; omega))
      · have HCa := Lib.hid hCa
        have hmM : (method 469 c.T c.p "Prepare").run Tryz.prog wr = .ok (f, recv) wr := hme _
        clear hCa hme
        go_wp2_with fail
        refine HCa.out.mono ?_
        rintro e w2 ⟨rfl, K2⟩
        have HK2 := Lib.hid K2
        clear K2
        go_wp2_with fail
        go_roundw
        case rel => exact ⟨k + 1, by omega, by go_num, HKw.out.trans HK2.out (fun _ _ h => h)⟩
        case measure => (first | (simp [RowKit.intOf]; done) | (simp [RowKit.intOf]; omega))
    · have hkn : k = n := by omega
      subst hkn
      have HKw := Lib.hid hKw
      clear hKw
      go_wp2_with fail
      go_ret
      exact ⟨rfl, HKw.out⟩
end Go.Proofs.YtpbnhhfpbadhjaaGreat
