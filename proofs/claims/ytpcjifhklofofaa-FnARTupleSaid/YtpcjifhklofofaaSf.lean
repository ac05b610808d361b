/- Columns of arrays of strings, and tuples of columns, decoded from a reader. Conditions: the bytes are there, at least one row and one string; sizes far below the machine's. -/
import Derived.Test.YtpcjifhklofofaaSd
import Derived.Test.YtpcjifhklofofaaD64
import Derived.Test.YtpcjifhklofofaaTv
namespace Go.Proofs.Ytpcjifhklofofaa
open Go.RowKit Go.Lib
set_option linter.unusedVariables false
def SArrDec (w : World) (base rb bb ga gs : Nat) (D R : Option Nat) (RR : List (List ByteArray)) (d : List UInt8) (e : Ending) (w' : World) : Prop :=
  e = .returned .nilIface ∧ (∃ O ko A c B cB, ArrAt w' base ga gs O ko A c B cB RR) ∧ (∃ R', RdrOn w' base rb bb D R' d ∧ (R' = R ∨ ∀ i, R' = some i → w.heap.size ≤ i)) ∧ Keeps (fun i => i = ga ∨ i = gs ∨ i = rb ∨ i = bb ∨ R = some i) w w'
set_option maxRecDepth 100000 in
set_option maxHeartbeats 4000000 in
theorem decSArr (w : World) (base rb bb ga gs : Nat) (D R : Option Nat) (RR : List (List ByteArray)) (n f : Nat) (d : List UInt8) (hC : ArrAt w base ga gs none 0 none 0 none 0 []) (hl : RR.length = n) (h0 : 0 < n) (hn : n ≤ 1000) (hfl : RR.flatten.length = f) (f0 : 0 < f) (hf : f ≤ 1000) (hF : (RR.flatten.map sl).flatten.length ≤ 10000000)
    (hR : RdrOn w base rb bb D R (arrB RR ++ d)) (hpa : SdPre w rb bb ga D R) (hps : SdPre w rb bb gs D R) :
    Calls Try.prog 83 #[.pointer (some ⟨ga, 0, none⟩), .pointer (some ⟨rb, 0, none⟩), .int .i64 (n : Int)] w (SArrDec w base rb bb ga gs D R RR d) := by
  have hsum : (RR.map List.length).sum = f := by rw [← List.length_flatten, hfl]
  have hend : (ends 0 (RR.map List.length))[n - 1]? = some f := by
    rw [ends_get _ 0 (n - 1) (by rw [List.length_map]; omega), Nat.zero_add, List.take_of_length_le (by rw [List.length_map]; omega), hsum]
  have hlt := hC.blk.lt
  have hlts := hC.col.blk.lt
  have nS : ga ≠ gs := hC.blk.differ hC.col.blk (by decide)
  have hR' : RdrOn w base rb bb D R (u64s (ends 0 (RR.map List.length)) ++ (encB (RR.flatten.map sl) ++ d)) := by rw [← List.append_assoc]; exact hR
  have HD1 := Lib.hid (decU64 w base rb bb ga D R n (ends 0 (RR.map List.length)) (encB (RR.flatten.map sl) ++ d) (by rw [ends_length, List.length_map, hl]) h0 (by omega) (fun x hx => by
    have h1 := ends_le _ x hx
    have h2 : (256 : Nat) ^ 8 = 18446744073709551616 := rfl
    omega) hR' (hC.blk.cell 0) (hC.blk.frozen 0) (by rintro (h | h | h); exact hpa.g1 h; exact hpa.g2 h; exact hpa.g3 h) hlt)
  have HB := Lib.hid hC.blk
  have HN := Lib.hid hC.col
  have HLO := Lib.hid hC.lo
  have HE := Lib.hid hend
  have HL := Lib.hid hl
  have HFL := Lib.hid hfl
  have HFF := Lib.hid hF
  have HPA := Lib.hid hpa
  have HPS := Lib.hid hps
  have hvl : ((ends 0 (RR.map List.length)).map fun x : Nat => Value.int .u64 (x : Int)).length = n := by rw [List.length_map, ends_length, List.length_map, hl]
  have HVL := Lib.hid hvl
  clear hC hR hR' hsum hend hl hfl hvl hpa hps hF
  go_enter Try.func83, Try.ntmps83
  go_wp2_with fail
  refine HD1.out.mono ?_
  rintro e w1 ⟨O, ko, w2, rfl, rfl, hO, hGo⟩
  rw [HVL.out] at hO ⊢
  have pa := HPA.out
  have ps := HPS.out
  have S1a : ¬ (ga = rb ∨ ga = bb ∨ R = some ga) := by rintro (h | h | h); exact pa.g1 h; exact pa.g2 h; exact pa.g3 h
  have S1s : ¬ (gs = rb ∨ gs = bb ∨ R = some gs) := by rintro (h | h | h); exact ps.g1 h; exact ps.g2 h; exact ps.g3 h
  have hb2 := HB.out.keeps hGo.keeps S1a
  have hn2 := HN.out.keeps hGo.keeps S1s (fun k hk => by cases hk) (fun k hk => by cases hk)
  have K1 := (Keeps.refl (fun i => i = ga) w2).setCell (p := ⟨ga, 0, none⟩) (.inl rfl) (.slice O n ko)
  have hb1 := hb2.put 0 (.slice O n ko)
  have hn1 := hn2.keeps K1 (fun h => nS h.symm) (fun k hk => by cases hk) (fun k hk => by cases hk)
  have hOga : ob O ≠ some ga := by have := own_far hO hb2 (by decide); rwa [ownBlock_slice] at this
  have ho1 := own_keeps hO K1 (fun k hk h => by rw [ownBlock_slice] at hk; exact hOga (h ▸ hk))
  obtain ⟨R2, hOn2, hRR2⟩ := hGo.on
  have r2 : ∀ g, g < w.heap.size → R ≠ some g → R2 ≠ some g := fun g hg hne => by
    rcases hRR2 with h | h
    · rw [h]; exact hne
    · intro h2; have := h _ h2; omega
  have hOn1 : RdrOn (w2.setCell ⟨ga, 0, none⟩ (.slice O n ko)) base rb bb D R2 (encB (RR.flatten.map sl) ++ d) := hOn2.keeps K1 (fun h => pa.g1 h.symm) (fun h => pa.g2 h.symm) (fun i hi h => r2 ga hlt pa.g3 (by rw [hi]; exact congrArg some h)) (fun i hi h => pa.d1 (by rw [hi]; exact congrArg some h))
  have KW : Keeps (fun i => i = ga ∨ i = gs ∨ i = rb ∨ i = bb ∨ R = some i) w (w2.setCell ⟨ga, 0, none⟩ (.slice O n ko)) := (hGo.keeps.mono (S' := fun i => i = ga ∨ i = gs ∨ i = rb ∨ i = bb ∨ R = some i) (fun i _ h => .inr (.inr h))).trans K1 (fun i _ h => .inl h)
  generalize hw1 : w2.setCell ⟨ga, 0, none⟩ (.slice O n ko) = w1 at *
  clear hw1
  have hW1 := KW.size
  have hps1 : SdPre w1 rb bb gs D R2 := ⟨by have := ps.gl; omega, by have := ps.rl; omega, by have := ps.bl; omega, ps.g1, ps.g2, r2 gs hlts ps.g3, ps.d1, fun i hi => by have := ps.dl i hi; omega⟩
  have e0 : w1.cell? ⟨ga, 0, none⟩ = some (.slice O n ko) := hb1.cell 0
  have e1 : w1.cell? ⟨ga, 1, none⟩ = some (.iface 54 (.pointer (some ⟨gs, 0, none⟩))) := hb1.cell 1
  obtain ⟨og, cap, hv, hol, hoh⟩ := ho1.form h0
  injection hv with hv1 hv2 hv3
  subst hv1 hv3
  have hlast : w1.cell? ⟨og, n - 1, none⟩ = some (.int .u64 (f : Int)) := by rw [ho1.cellAt (n - 1) (by omega), List.getElem?_map, HE.out]; rfl
  have m0 : ((n : Int) - 1).toNat = n - 1 := by omega
  have m1 : (0 : Int) ≤ (n : Int) - 1 := by omega
  have m2 : (n : Int) - 1 < (n : Int) := by omega
  have m3 : (0 : Int) < (n : Int) := by omega
  have m4 : IntKind.i64.wrap ((n : Int) - 1) = (n : Int) - 1 := by rw [IntKind.wrap_i64]; omega
  have m5 : IntKind.i64.wrap (f : Int) = (f : Int) := by rw [IntKind.wrap_i64]; omega
  have hlt1 := hb1.lt
  have hlts1 := hn1.blk.lt
  have HD2 := Lib.hid (decStr w1 base rb bb gs D R2 (RR.flatten.map sl) f d (by rw [List.length_map, HFL.out]) f0 hf HFF.out hn1 hOn1 hps1)
  have HNO : Hid (R2 ≠ some og) := Lib.hid (fun h => hOn1.apart_own ho1 (by decide) og (by simp [Value.ownBlock]) h)
  have HO1 := Lib.hid ho1
  have HB1 := Lib.hid hb1
  have HKW := Lib.hid KW
  have HRR2 := Lib.hid hRR2
  have HCK := Lib.hid (fun w => checkOk w f (by omega))
  have HR2 := Lib.hid r2
  clear hv2 hO hGo S1a S1s hb2 hn2 K1 hn1 hOn1 hOn2 KW ho1 hb1 hRR2 hOga pa ps hps1 hW1 r2
  go_wp2_with fail
  refine (HCK.out _).mono ?_
  rintro e wc ⟨rfl, rfl⟩
  go_wp2_with fail
  refine HD2.out.mono ?_
  rintro e w3 ⟨rfl, A, c, B, cB, R3, hCol, hOn3, hRR3, hap, K3⟩
  have HCol := Lib.hid hCol
  have HOn3 := Lib.hid hOn3
  have HRR3 := Lib.hid hRR3
  have HK3 := Lib.hid K3
  clear hCol hOn3 hRR3 hap K3
  go_wp2_with fail
  go_ret
  have pa := HPA.out
  have ps := HPS.out
  have hR2 := HR2.out
  have K3 := HK3.out
  have hRR2 := HRR2.out
  have hlo := (HO1.out.lt og (by simp [Value.ownBlock])).1
  have S3a : ¬ (ga = gs ∨ ga = rb ∨ ga = bb ∨ R2 = some ga) := by rintro (h | h | h | h); exact nS h; exact pa.g1 h; exact pa.g2 h; exact hR2 ga hlt pa.g3 h
  have hb3 := HB1.out.keeps K3 S3a
  have ho3 := own_keeps HO1.out K3 (fun k hk => by
    have hk2 : og = k := by simpa [Value.ownBlock] using hk
    subst hk2
    have := ps.gl
    have := ps.rl
    have := ps.bl
    rintro (h | h | h | h)
    · omega
    · omega
    · omega
    · exact HNO.out h)
  have hw := HKW.out.size
  refine ⟨rfl, ⟨some ⟨og, 0, none⟩, ko, A, c, B, cB, ⟨?_, ?_, HCol.out, HLO.out⟩⟩, ⟨R3, HOn3.out, ?_⟩, ?_⟩
  · rw [HL.out]; exact hb3
  · rw [HL.out]; exact own_base_le ho3 (by have := HLO.out; omega)
  · rcases HRR3.out with h | h
    · rw [h]; exact hRR2
    · exact .inr fun i hi => Nat.le_trans hw (h i hi)
  · refine HKW.out.trans K3 (fun i hi h => ?_)
    rcases h with h | h | h | h
    · exact .inr (.inl h)
    · exact .inr (.inr (.inl h))
    · exact .inr (.inr (.inr (.inl h)))
    · refine .inr (.inr (.inr (.inr ?_)))
      rcases hRR2 with h2 | h2
      · rw [← h2]; exact h
      · have := h2 _ h; omega
set_option maxRecDepth 100000 in
set_option maxHeartbeats 2000000 in
theorem decTuple (w : World) (U : Option Addr) (m k0 n rb : Nat) (cols : List (TypeId × Value)) (J : Nat → World → Prop) (hl : cols.length = m) (hm : m ≤ 1000) (hU : ∀ k wr, J k wr → Rd wr 1 U m (cols.map fun c => .iface c.1 c.2)) (h0 : J 0 w)
    (hS : ∀ k c, cols[k]? = some c → ∀ wr, J k wr → ∃ f, (∀ fuel, (method (fuel + 1) c.1 c.2 "DecodeColumn").run Try.prog wr = .ok (f, c.2) wr) ∧ (∀ args w', (callFunc f args).run Try.prog w' = .ok (.enter f args) w') ∧
      Calls Try.prog f #[c.2, .pointer (some ⟨rb, 0, none⟩), .int .i64 (n : Int)] wr fun e w' => e = .returned .nilIface ∧ J (k + 1) w') :
    Calls Try.prog 30 #[.slice U m k0, .pointer (some ⟨rb, 0, none⟩), .int .i64 (n : Int)] w fun e w' => e = .returned .nilIface ∧ J m w' := by
  have HU := Lib.hid hU
  have HL := Lib.hid hl
  have HS := Lib.hid hS
  have H0 := Lib.hid h0
  clear hU hl hS h0
  go_enter Try.func30, Try.ntmps30
  go_wp2_with fail
  go_loopg [12] m (fun gk i wr => ∃ k : Nat, k ≤ m ∧ gk = m - k ∧ i = .int .i64 k ∧ J k wr)
  case atStart => exact ⟨0, Nat.zero_le _, rfl, rfl, H0.out⟩
  case round =>
    obtain ⟨k, hk, hgk, rfl, hJ⟩ := hrel
    have HJ := Lib.hid hJ
    clear hJ
    by_cases hlt : k < m
    · obtain ⟨c, hc⟩ : ∃ c, cols[k]? = some c := ⟨_, List.getElem?_eq_getElem (by rw [HL.out]; exact hlt)⟩
      obtain ⟨ad, u, rfl, hb, hu, hcell⟩ := (HU.out k wr HJ.out).at' hlt
      have hu' : u = .iface c.1 c.2 := by
        rw [List.getElem?_map, hc] at hu
        exact (Option.some.inj hu).symm
      subst hu'
      obtain ⟨f, hme, hf, hCa⟩ := HS.out k c hc wr HJ.out
      obtain ⟨T, p⟩ := c
      dsimp only at hcell hme hCa
      have HCa := Lib.hid hCa
      have hmM : (method 268 T p "DecodeColumn").run Try.prog wr = .ok (f, p) wr := hme _
      clear hu hc hCa hme
      go_wp2_with fail
      refine HCa.out.mono ?_
      rintro e w2 ⟨rfl, hJ2⟩
      have HJ2 := Lib.hid hJ2
      clear hJ2
      go_wp2_with fail
      go_roundg (m - (k + 1))
      case measure => omega
      case rel => exact ⟨k + 1, by omega, rfl, by go_num, HJ2.out⟩
    · obtain rfl : k = m := by omega
      go_wp2_with fail
      go_ret
      exact ⟨rfl, HJ.out⟩
end Go.Proofs.Ytpcjifhklofofaa
