/- ARReadNum: rows of numbers decoded by a new column. Conditions: the bytes are those of at least one row and one number; sizes far below the machine's. -/
import Derived.Test.YtgnbeianlnepfaaDo
import Derived.OwnWalk
namespace Go.Proofs.Ytgnbeianlnepfaa
open Go.RowKit Go.Lib
set_option linter.unusedVariables false
theorem infoSlN : (Try.prog.info? 23).map (fun i => (i.zero, i.size, i.bytes)) = some (some (.slice none 0 0), 1, 24) := by kernel_rfl
theorem RB.apart {w w' : World} {S : Nat → Prop} {A : Option Addr} {VS : List Value} {R : List (List Value)} (h : RB w A VS R) (hk : Keeps S w w') (hS : ∀ v ∈ VS, ∀ q, v.ownBlock = some q → ¬ S q) : RB w' A VS R := ⟨h.1, fun i xs hx => by
  obtain ⟨B, d, h1, h2, h3⟩ := h.2 i xs hx
  exact ⟨B, d, h1, h2.keeps hk (fun q hq => hS _ (List.mem_of_getElem? h1) q (by rw [ownBlock_slice]; exact hq)), fun q hq => ⟨Nat.lt_of_lt_of_le (h3 q hq).1 hk.size, (h3 q hq).2⟩⟩⟩
def NumGot (w : World) (S : Nat → Prop) (RR : List (List Nat)) (m : Nat) (e : Ending) (w' : World) : Prop := ∃ T ct VS, e = .returned (.tuple #[.slice T RR.length ct, .int .i64 (m : Int), .bool true]) ∧ w'.ownsRow w.heap.size 23 1 (.slice T RR.length ct) RR.length VS ∧ RB w' T VS (RR.map nv) ∧ Keeps S w w'
set_option maxRecDepth 100000 in
set_option maxHeartbeats 4000000 in
theorem decodesNArr (w : World) (base ga gs : Nat) (D : Option Addr) (c : Nat) (RR : List (List Nat)) (n f len : Nat) (d l : List UInt8) (hC : NArrAt w base ga gs none 0 none 0 []) (hl : RR.length = n) (h0 : 0 < n) (hn : n ≤ 1000) (hfl : RR.flatten.length = f) (f0 : 0 < f) (hf : f ≤ 100000) (hx : ∀ x ∈ RR.flatten, x < 4294967296)
    (hL : l = narrB RR ++ d) (hlen : l.length = len) (hR : Rd w 1 D len (Lib.byteCells l)) (hc : len ≤ c) (hD : ∀ i, ob D = some i → i < w.heap.size ∧ i ≠ ga ∧ i ≠ gs) :
    Calls Try.prog 46 #[.iface 90 (.pointer (some ⟨ga, 0, none⟩)), .slice D len c, .int .i64 (n : Int)] w fun e w' => NumGot w (fun i => i = ga ∨ i = gs) RR d.length e w' := by
  obtain ⟨i0, hi0, hz0, hz1, hz2⟩ := info_parts infoSlN
  subst hlen
  have hlt := hC.blk.lt
  have hlts := hC.col.blk.lt
  have hlo := hC.lo
  have K0 := (Keeps.refl (fun _ => False) w).alloc (.cells #[.bool false] 4)
  have HN := Lib.hid (newRdr (w.alloc (.cells #[.bool false] 4)) D c l (hR.keeps K0 (fun _ _ h => h)) hc (fun i hi => by have := (hD i hi).1; rw [World.size_alloc]; omega))
  have HDE := Lib.hid (fun (w1 : World) (K : Keeps (fun _ => False) w w1) (hRd : RdrOn w1 (w.heap.size + 1) (w.heap.size + 1 + 1) (w.heap.size + 1) (ob D) none l) => decNArr w1 base (w.heap.size + 1 + 1) (w.heap.size + 1) ga gs (ob D) none RR n f d (hC.new K) hl h0 hn hfl f0 hf hx (by rw [← hL]; exact hRd.base_le (by omega)) ⟨fun h => (hD ga h).2.1 rfl, fun h => (hD gs h).2.2 rfl⟩ ⟨by omega, by omega, fun h => by cases h⟩ ⟨by omega, by omega, fun h => by cases h⟩)
  have HL := Lib.hid hl
  have HFL := Lib.hid hfl
  clear hC hl hfl hx hL hR hD
  generalize l.length = len at *
  have HK0 := Lib.hid K0
  have HB0 := Lib.hid (Whole.new w 4 #[.bool false])
  clear K0
  go_enter_defers Try.func46, Try.ntmps46
  go_wp2_with fail
  refine HN.out.mono ?_
  rintro e w1 ⟨rfl, hRd, K1, hs1⟩
  rw [World.size_alloc] at hRd hs1
  have HK1 := Lib.hid (HK0.out.trans K1 (fun _ _ h => h))
  have hb1 := HB0.out.keeps K1 (fun h => h)
  have HD1 := Lib.hid (HDE.out w1 HK1.out hRd)
  have hme : (method 294 90 (.pointer (some ⟨ga, 0, none⟩)) "DecodeColumn").run Try.prog w1 = .ok (116, .pointer (some ⟨ga, 0, none⟩)) w1 := mNaDec w1 ga _
  clear hRd K1
  go_wp2_with fail
  refine HD1.out.mono ?_
  rintro e w3 ⟨rfl, ⟨O, ko, A, cc, hN⟩, ⟨R3, hRd3⟩, K3⟩
  have hb3 := hb1.keeps K3 (by rintro (h | h | h | h | h) <;> first | omega | cases h)
  have HK3 := Lib.hid ((HK1.out.mono (S' := fun i => i = ga ∨ i = gs) (fun _ _ h => h.elim)).trans K3 (by
    rintro i hi (h | h | h | h | h)
    · exact .inl h
    · exact .inr h
    · omega
    · omega
    · cases h))
  have hlt3 := hN.blk.lt
  have hs3 := K3.size
  have HN3 := Lib.hid hN
  have HR3 := Lib.hid hRd3
  have HB3 := Lib.hid hb3
  clear hN hRd3 hb3 K3
  go_wp2_with fail
  go_loopw [6, 10] (fun v i wr => ∃ (k : Nat) (T : Option Addr) (ct : Nat) (VS : List Value), k ≤ n ∧ i = .int .i64 k ∧ v = .slice T k ct ∧ wr.ownsRow w3.heap.size 23 1 (.slice T k ct) k VS ∧ RB wr T VS ((RR.take k).map nv) ∧ (∀ v ∈ VS, ∀ q, v.ownBlock = some q → w3.heap.size ≤ q) ∧ Keeps (fun _ => False) w3 wr) (fun _ i _ => n - (RowKit.intOf i).toNat)
  case atStart => exact ⟨0, none, 0, [], Nat.zero_le _, rfl, rfl, World.ownsRow_nil _ w3.heap.size 23 1, RB.nil _ _, (fun v hv => by cases hv), Keeps.refl _ _⟩
  case round =>
    obtain ⟨k, T, ct, VS, hk, rfl, rfl, hown, hRB, hLow, hK⟩ := hrel
    have HLow := Lib.hid hLow
    clear hLow
    have HRB := Lib.hid hRB
    have HA1 := Lib.hid (show ∀ q, ob T = some q → q < wr.heap.size from fun q hq => (hown.lt q (by rw [ownBlock_slice]; exact hq)).2)
    have hsz := hK.size
    have hNr := HN3.out.new hK
    have hme1 := fun fuel => mNaRows hNr.blk fuel
    rw [HL.out] at hme1
    have HRO := Lib.hid (naRows wr O n ko (.iface 68 (.pointer (some ⟨gs, 0, none⟩))))
    clear hRB hNr
    by_cases hlt' : k < n
    · obtain ⟨X, hX⟩ : ∃ X, RR[k]? = some X := ⟨_, List.getElem?_eq_getElem (by rw [HL.out]; exact hlt')⟩
      have HT := Lib.hid (show (RR.take (k + 1)).map nv = (RR.take k).map nv ++ [nv X] by rw [List.take_add_one, hX]; simp)
      have HX := Lib.hid hX
      clear hX
      have l1 : (k : Int) < (n : Int) := by omega
      go_wp2_with fail
      refine HRO.out.mono ?_
      rintro e w4 ⟨rfl, K4⟩
      have hN4 := HN3.out.new (hK.trans K4 (fun _ _ h => h))
      have hme2 := fun fuel => mNaRow hN4.blk fuel
      have HRW := Lib.hid (naRow w4 base ga gs O ko A cc RR k X hN4 HX.out (by rw [HL.out]; omega) (by rw [HFL.out]; omega))
      rw [HL.out] at hme2 HRW
      have HK4 := Lib.hid K4
      clear hN4 K4 hme1
      go_wp2_with fail
      refine HRW.out.mono ?_
      rintro e w5 ⟨B, cb, rfl, hX5, K5⟩
      have K45 := HK4.out.trans K5 (fun _ _ h => h)
      have hK5 := hK.trans K45 (fun _ _ h => h)
      have hKa := hK5.alloc (.cells #[.slice B X.length cb] 23)
      have K5a := (Keeps.refl (fun _ => False) w5).alloc (.cells #[.slice B X.length cb] 23)
      have howna := own_keeps (own_keeps hown K45 (fun _ _ h => h)) K5a (fun _ _ h => h)
      have hXa := own_keeps hX5 K5a (fun _ _ h => h)
      have hs4 := HK4.out.size
      have hs5 := hK5.size
      clear hX5 hme2 K5
      go_wp2_with (at_builtin
                   refine wpList_append_rd _ rfl (.tmp 24) (.tmp 28) _ rfl w3.heap.size 23 i0 _ 1 24 Try.underlying47 hi0 hz0 hz1 hz2 rfl Nat.one_pos T ct k _ rfl howna (some ⟨w5.heap.size, 0, none⟩) 1 1 [.slice B X.length cb] rfl (rd_one w5 23 _) (one_val _ rfl) (by simp only [maxLen]; omega) (by omega) hKa.size ?_
                   intro A3 c3 w6 hown3 hg3 hat3)
      have hK6 := hKa.grown hg3 (fun i hi => .inr (howna.lt i (by rw [ownBlock_slice]; exact hi)).1)
      have hlx : (nv X).length = X.length := by simp [nv]
      have hRB3 := (((HRB.out.keeps K45).keeps K5a).snoc (xs := nv X) (B := B) (d := cb) (by rw [hlx]; exact Rd.own hXa) (fun q hq => by
        have h1 := hXa.lt q (by rw [ownBlock_slice]; exact hq)
        refine ⟨h1.2, fun e => ?_⟩
        have := HA1.out q e
        have := h1.1
        omega) hg3 hat3)
      rw [hlx, ← HT.out] at hRB3
      go_roundw
      case rel => exact ⟨k + 1, A3, c3, _, by omega, by go_num, rfl, hown3, hRB3, (fun v hv q hq => by
        rcases List.mem_append.1 hv with hv | hv
        · exact HLow.out v hv q hq
        · rw [List.mem_singleton.1 hv] at hq
          have := (hXa.lt q hq).1
          omega), hK6⟩
      case measure => (first | (simp [RowKit.intOf]; done) | (simp [RowKit.intOf]; omega))
    · have hkn : k = n := by omega
      subst hkn
      have hrb := HRB.out
      rw [List.take_of_length_le (by rw [HL.out]; exact Nat.le_refl _)] at hrb
      have HRB := Lib.hid hrb
      have HO := Lib.hid hown
      clear hrb hown
      go_wp2_with fail
      refine HRO.out.mono ?_
      rintro e w4 ⟨rfl, K4⟩
      have K34 := hK.trans K4 (fun _ _ h => h)
      have HLE := Lib.hid (leftOf w4 base _ _ _ _ d (HR3.out.new K34))
      have hb4 := HB3.out.keeps K34 (fun h => h)
      have hlt4 := hb4.lt
      have hcb : w4.cell? ⟨w.heap.size, 0, none⟩ = some (.bool false) := hb4.cell 0
      have hfz : w4.frozen? ⟨w.heap.size, 0, none⟩ = false := hb4.frozen 0
      have HK4 := Lib.hid K4
      have HK34 := Lib.hid K34
      clear K4 K34 hb4 hme1
      go_wp2_with fail
      refine HLE.out.mono ?_
      rintro e w5 ⟨rfl, rfl⟩
      go_wp2
      refine leaves_cons (f := 36) (args := #[.pointer (some ⟨w.heap.size, 0, none⟩)]) (by simp) (by simp [go_sem]) ?_
      refine (caughtIdle ⟨w.heap.size, 0, none⟩ _).mono ?_
      rintro e u' w'' ⟨rfl, rfl, rfl⟩
      have hb' : (w4.setCell ⟨w.heap.size, 0, none⟩ (.bool true)).cell? ⟨w.heap.size, 0, none⟩ = some (.bool true) := by
        exact World.cell?_setCell_same _ _ _ hcb
      simp [Leaves, settle, results, Try.results46, go_sem, hb']
      have K5 := (Keeps.refl (fun i => i = w.heap.size) w4).setCell (p := ⟨w.heap.size, 0, none⟩) (.inl rfl) (.bool true)
      have hlt3' := HB3.out.lt
      have hto : ∀ q, ob T = some q → w3.heap.size ≤ q := fun q hq => (HO.out.lt q (by rw [ownBlock_slice]; exact hq)).1
      have ho5 := own_keeps (own_keeps HO.out HK4.out (fun _ _ h => h)) K5 (fun q hq h => by
        rw [ownBlock_slice] at hq
        have := hto q hq
        omega)
      have hs3' := HK3.out.size
      refine ⟨T, ct, VS, ?_, ?_, ?_, ?_⟩
      · rw [HL.out]
      · rw [HL.out]; exact own_base_le ho5 hs3'
      · exact (HRB.out.keeps HK4.out).apart K5 (fun v hv q hq h => by
          have := HLow.out v hv q hq
          omega)
      · exact (HK3.out.trans HK34.out (fun _ _ h => h.elim)).trans K5 (fun i hi h => by omega)
set_option maxRecDepth 10000 in
theorem foundNum (w : World) (T : Option Addr) (n c m : Nat) : Calls Try.prog 45 #[.slice T n c, .int .i64 (m : Int), .bool true] w fun e w' => e = .returned (.tuple #[.slice T n c, .int .i64 (m : Int), .bool true]) ∧ w = w' := by
  go_enter Try.func45, Try.ntmps45
  go_wp2
  go_ret3
  exact ⟨rfl, rfl⟩
set_option maxRecDepth 100000 in
set_option maxHeartbeats 1000000 in
theorem arReadNum (w : World) (D : Option Addr) (c : Nat) (RR : List (List Nat)) (n f len : Nat) (d l : List UInt8) (hl : RR.length = n) (h0 : 0 < n) (hn : n ≤ 1000) (hfl : RR.flatten.length = f) (f0 : 0 < f) (hf : f ≤ 100000) (hx : ∀ x ∈ RR.flatten, x < 4294967296)
    (hL : l = narrB RR ++ d) (hlen : l.length = len) (hR : Rd w 1 D len (Lib.byteCells l)) (hc : len ≤ c) (hD : ∀ i, ob D = some i → i < w.heap.size) :
    Calls Try.prog 26 #[.slice D len c, .int .i64 (n : Int)] w fun e w' => NumGot w (fun _ => False) RR d.length e w' := by
  have HS := Lib.hid (numsNew w)
  have HDN := Lib.hid (fun (w1 : World) (ga gs : Nat) (K : Keeps (fun _ => False) w w1) (hg : w.heap.size ≤ ga) (hgs : w.heap.size ≤ gs) (hC : NArrAt w1 w.heap.size ga gs none 0 none 0 []) => decodesNArr w1 w.heap.size ga gs D c RR n f len d l hC hl h0 hn hfl f0 hf hx hL hlen (hR.keeps K (fun _ _ h => h)) hc (fun i hi => by
    have := hD i hi
    have := K.size
    omega))
  have HF := Lib.hid (fun w T n c m => foundNum w T n c m)
  clear hl h0 hn hfl f0 hf hx hL hlen hR hc hD
  generalize hNN : RR.length = N at *
  go_enter Try.func26, Try.ntmps26
  go_wp2_with fail
  refine HS.out.mono ?_
  rintro e w1 ⟨ga, gs, rfl, K1, hC⟩
  have HK1 := Lib.hid K1
  have HC := Lib.hid hC
  have hg := hC.lo
  have hgs := hC.col.lo
  clear K1 hC
  go_wp2_with fail
  refine (HDN.out w1 ga gs HK1.out hg hgs HC.out).mono ?_
  rintro e w2 ⟨T, ct, VS, rfl, ho, hRB, K2⟩
  have HO := Lib.hid ho
  have HRB := Lib.hid hRB
  have HK2 := Lib.hid K2
  clear ho hRB K2
  go_wp2_with fail
  refine (HF.out _ _ _ _ _).mono ?_
  rintro e w3 ⟨rfl, rfl⟩
  go_wp2_with fail
  go_ret3
  exact ⟨T, ct, VS, by rw [hNN]; rfl, own_base_le HO.out HK1.out.size, HRB.out, HK1.out.trans HK2.out (fun i hi h => by omega)⟩
end Go.Proofs.Ytgnbeianlnepfaa
