/- ARTuple: strings, numbers and rows of strings encoded as a tuple of three columns. Conditions: sizes far below the machine's. -/
import Derived.Test.YtpbnhhfpbadhjaaGreatTu
import Derived.Test.YtpbnhhfpbadhjaaGreatTv
import Derived.Test.YtpbnhhfpbadhjaaGreatNc
import Derived.Test.YtpbnhhfpbadhjaaGreatOk
namespace Go.Proofs.YtpbnhhfpbadhjaaGreat
open Go.RowKit Go.Lib
set_option linter.unusedVariables false
theorem fEs (args : Array Value) (w : World) : (callFunc 142 args).run Tryz.prog w = .ok (.enter 142 args) w := by kernel_rfl
theorem fEn (args : Array Value) (w : World) : (callFunc 164 args).run Tryz.prog w = .ok (.enter 164 args) w := by kernel_rfl
theorem fEa (args : Array Value) (w : World) : (callFunc 106 args).run Tryz.prog w = .ok (.enter 106 args) w := by kernel_rfl
theorem fPa (args : Array Value) (w : World) : (callFunc 107 args).run Tryz.prog w = .ok (.enter 107 args) w := by kernel_rfl
theorem strEncodes {w0 : World} {b0 g c d : Nat} {A B : Option Addr} {L : List (List UInt8)} (hC : ColAt w0 b0 g A c B d L) (hN : L.flatten.length ≤ 1000000) (hn : L.length ≤ 100000) : (⟨56, .pointer (some ⟨g, 0, none⟩), encB L⟩ : Tc).encodes w0 := fun w bb X cx l K hB hl => by
  have hC' := hC.new K
  have hlo := hC.rowsLo
  have hbl := hB.lo
  have hX := hB.row_lo
  have hs := K.size
  have q : ∀ k, k < w0.heap.size → k ≠ bb ∧ ob X ≠ some k ∧ k < w.heap.size := fun k hk => ⟨by omega, fun h => by have := (hX k h).1; omega, by omega⟩
  obtain ⟨c1, c2, _⟩ := own_cap hC'.buf
  obtain ⟨_, _, c3⟩ := own_cap hC'.pos
  exact ⟨_, _, mEnc hC'.blk, fEs, (encStr w w0.heap.size bb X cx l A B _ _ c d L hB rfl rfl (Rd.own hC'.buf) (Rd.own hC'.pos) (fun k hk => q k (hlo.1 k hk).2) (fun k hk => q k (hlo.2 k hk).2) c3 c1 c2 (by simp only at hl; omega) (by omega) (by omega)).mono fun e w' h => h⟩
theorem numEncodes {w0 : World} {b0 g c : Nat} {A : Option Addr} {xs : List Nat} (hC : NumAt w0 b0 g A c xs) (hn : xs.length ≤ 100000) : (⟨67, .pointer (some ⟨g, 0, none⟩), u32s xs⟩ : Tc).encodes w0 := fun w bb X cx l K hB hl => by
  have hC' := hC.new K
  have hlo := hC.own.lt
  rw [ownBlock_slice] at hlo
  have hbl := hB.lo
  have hX := hB.row_lo
  exact ⟨_, _, mNmEnc hC'.blk, fEn, (encU32 w w0.heap.size bb X cx l A _ c xs hB (by simp only at hl; omega) rfl (by omega) (Rd.own hC'.own) (fun k hk => ⟨by have := (hlo k hk).2; omega, fun h => by have := (hX k h).1; have := (hlo k hk).2; omega⟩)).mono fun e w' h => h⟩
theorem arrEncodes {w0 : World} {b0 ga gs ko c d : Nat} {O A B : Option Addr} {RR : List (List ByteArray)} (hC : ArrAt w0 b0 ga gs O ko A c B d RR) (hRR : RR.length ≤ 1000) (hfl : (RR.flatten.map sl).flatten.length ≤ 1000000) (hfn : RR.flatten.length ≤ 100000) : (⟨51, .pointer (some ⟨ga, 0, none⟩), arrB RR⟩ : Tc).encodes w0 := fun w bb X cx l K hB hl => by
  have hC' := hC.new K
  have hO := hC.off.lt
  have hlo := hC.col.rowsLo
  rw [ownBlock_slice] at hO
  exact ⟨_, _, mEncA hC'.blk, fEa, (encArr w b0 w0.heap.size ga gs O ko A c B d RR bb X cx l hC' hB (fun k hk => (hO k hk).2) (fun k hk => (hlo.1 k hk).2) (fun k hk => (hlo.2 k hk).2) hC.col.blk.lt hl hRR hfl hfn).mono fun e w' h => h⟩
theorem strReady (w0 : World) (v : Value) (b : List UInt8) : (⟨56, v, b⟩ : Tc).ready w0 := fun w K => .inl fun xT w' => noPrep v xT w'
theorem numReady (w0 : World) (v : Value) (b : List UInt8) : (⟨67, v, b⟩ : Tc).ready w0 := fun w K => .inl fun xT w' => noPrepN v xT w'
theorem arrReady {w0 : World} {ga gs : Nat} {x : Value} (b : List UInt8) (hb : Whole w0 ga 126 #[x, .iface 56 (.pointer (some ⟨gs, 0, none⟩))]) : (⟨51, .pointer (some ⟨ga, 0, none⟩), b⟩ : Tc).ready w0 := fun w K =>
  .inr ⟨fun xT w' => hasPrep _ xT w', _, _, mPrep w ga, fPa, arrPrep w ga gs x (hb.keeps K (fun h => h))⟩
set_option maxRecDepth 100000 in
set_option maxHeartbeats 2000000 in
theorem preparedTuple (w0 w : World) (U : Option Addr) (n k0 : Nat) (cols : List Tc) (hl : cols.length = n) (hU : Rd w0 1 U n (cols.map Tc.val)) (hE : ∀ c ∈ cols, c.ready w0) (hK : Keeps (fun _ => False) w0 w) (hnn : n ≤ 1000) :
    Calls Tryz.prog 44 #[.iface 70 (.slice U n k0)] w fun e w' => e = .returned (.bool true) ∧ Keeps (fun _ => False) w w' := by
  have HP := Lib.hid (preTuple w0 w U n k0 cols hl hU hE hK hnn)
  have hyes := hasPrepTu
  have hme : (method 469 70 (.slice U n k0) "Prepare").run Tryz.prog w = .ok (187, .slice U n k0) w := mTuPre w _ _
  clear hU hE hK hl
  go_enter Tryz.func44, Tryz.ntmps44
  go_wp2_with fail
  refine HP.out.mono ?_
  rintro e w2 ⟨rfl, K⟩
  have HK := Lib.hid K
  clear K
  go_wp2_with fail
  go_ret
  exact ⟨rfl, HK.out⟩
theorem encodesTuple (w : World) (U : Option Addr) (n k0 : Nat) (cols : List Tc) (hl : cols.length = n) (hU : Rd w 1 U n (cols.map Tc.val)) (hE : ∀ w', Keeps (fun _ => False) w w' → ∀ c ∈ cols, c.encodes w' ∧ c.ready w') (hn : (tcB cols).length ≤ 1000000) (hnn : n ≤ 1000) :
    Calls Tryz.prog 33 #[.iface 70 (.slice U n k0)] w fun e w' => EncOk w (tcB cols) e w' := by
  refine encodesV w 70 _ _ (fun w' K => preparedTuple w' w' U n k0 cols hl (hU.keeps K (fun _ _ h => h)) (fun c hc => (hE w' K c hc).2) (Keeps.refl _ _) hnn) (fun w' K => ?_)
  refine encodedV w' 70 _ _ 186 _ fTuEnc (fun fuel => mTuEnc _ _ fuel) ?_
  have K1 : Keeps (fun _ => False) w' (bufW w') := (Keeps.refl (fun _ => False) w').alloc _
  refine (encTuple w' (bufW w') U n k0 cols w'.heap.size none 0 [] hl (hU.keeps K (fun _ _ h => h)) (fun c hc => (hE w' K c hc).1) K1 (bufNew w' (Nat.le_refl _)) (by simpa using hn) hnn).mono ?_
  rintro e w2 ⟨A', c', rfl, hP⟩
  rw [List.nil_append] at hP
  exact ⟨A', c', rfl, hP⟩
end Go.Proofs.YtpbnhhfpbadhjaaGreat
