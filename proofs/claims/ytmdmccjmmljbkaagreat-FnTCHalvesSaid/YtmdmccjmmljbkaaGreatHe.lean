/- A column of Decimal64 encoded into a buffer: each number's eight bytes. Conditions: sizes far below the machine's; the column's row lies apart from the buffer's; each number a word. -/
import Derived.Test.YtmdmccjmmljbkaaGreatHd
import Derived.Test.YtmdmccjmmljbkaaGreatU64
namespace Go.Proofs.YtmdmccjmmljbkaaGreat
open Go.RowKit Go.Lib
set_option linter.unusedVariables false
def d64c (xs : List Nat) : List Value := xs.map fun x : Nat => .int .i64 (IntKind.i64.wrap (x : Int))
theorem wrap_back (x : Nat) (h : x < 18446744073709551616) : IntKind.u64.wrap (IntKind.i64.wrap (x : Int)) = (x : Int) := by
  rw [IntKind.wrap_u64, IntKind.wrap_i64]; omega
set_option maxRecDepth 100000 in
set_option maxHeartbeats 2000000 in
theorem encD64 (w : World) (base bb : Nat) (A : Option Addr) (c : Nat) (l : List UInt8) (C : Option Addr) (n k0 : Nat) (xs : List Nat) (hB : BufAt w base bb A c l) (hn : l.length ≤ 1000000000) (hl : xs.length = n) (hx64 : ∀ x ∈ xs, x < 18446744073709551616) (hnn : n ≤ 1000000) (hR : Rd w 1 C n (d64c xs)) (hC : ∀ k, ob C = some k → k ≠ bb ∧ ob A ≠ some k) :
    Calls Tryz.prog 179 #[.slice C n k0, .pointer (some ⟨bb, 0, none⟩)] w fun e w' => U64Res w base bb A l xs e w' := by
  obtain ⟨i0, hi0, hz0, hz1, hz2⟩ := info_parts infoU8
  have hlt := hB.blk.lt
  have hbase : base ≤ w.heap.size := by have := hB.lo; omega
  have nA := hB.far
  have c0 : w.cell? ⟨bb, 0, none⟩ = some (.slice A l.length c) := hB.blk.cell 0
  have HB := Lib.hid hB
  have HR := Lib.hid hR
  have HL := Lib.hid hl
  have HC := Lib.hid hC
  have HO := Lib.hid (show w.ownsRow base 5 1 (.slice A l.length c) l.length (Lib.byteCells l) from hB.own)
  have HW := Lib.hid (show Whole w bb 47 #[.slice A l.length c] from hB.blk)
  have HX := Lib.hid hx64
  clear hB hR hl hC hx64
  generalize hM : l.length = M at *
  have HM := Lib.hid hM
  clear hM
  by_cases h0 : n = 0
  · subst h0
    go_enter Tryz.func179, Tryz.ntmps179
    go_wp2_with fail
    go_end0
    have hx : xs = [] := List.eq_nil_of_length_eq_zero HL.out
    subst hx
    refine ⟨A, c, rfl, ⟨by simpa [u64s] using HB.out, (Keeps.refl _ _), .inl rfl⟩⟩
  · go_enter Tryz.func179, Tryz.ntmps179
    go_wp2_with (first
      | (at_builtin
         refine wpList_append_zeros _ rfl (.tmp 21) (.tmp 24) _ _ rfl base 5 i0 .i64 .i64 Tryz.underlying25 Tryz.underlying3 hi0 hz0 hz1 hz2 (.slice A M c) M _ rfl HO.out (8 * n) _ rfl (congrArg (Value.int .i64) (Int.natCast_mul 8 n).symm) (by omega) (by simp only [maxLen]; omega) (by omega) hbase ?_
         intro V1 w1 o1 hg1 hat1
         rw [ownBlock_slice] at hg1 hat1
         obtain ⟨g1, k1, hV1, hgl, hgs⟩ := o1.form (by omega)
         subst hV1
         have K1 := (Keeps.refl (fun i => ob A = some i) w).grown hg1 (fun k hk => .inl hk)
         have hb1 := HW.out.keeps K1 nA
         have e0 : w1.cell? ⟨bb, 0, none⟩ = some (.slice A M c) := hb1.cell 0
         have f0 : w1.frozen? ⟨bb, 0, none⟩ = false := hb1.frozen 0
         have hl1 := hb1.lt
         have HAT := Lib.hid hat1
         clear hat1))
    have nA1 : g1 ≠ bb := by have := own_far o1 hb1 (by decide); rw [ownBlock_slice] at this; exact fun h => this (by rw [h]; rfl)
    have K2 := (Keeps.refl (fun i => i = bb) w1).setCell (p := ⟨bb, 0, none⟩) (.inl rfl) (.slice (some ⟨g1, 0, none⟩) (M + 8 * n) k1)
    have hb2 := hb1.put 0 (.slice (some ⟨g1, 0, none⟩) (M + 8 * n) k1)
    have o2 := own_keeps o1 K2 (fun k hk h => by rw [ownBlock_slice] at hk; injection hk with hk; exact nA1 (hk.trans h))
    have K3 : Keeps (fun i => i = bb ∨ ob A = some i) w (w1.setCell ⟨bb, 0, none⟩ (.slice (some ⟨g1, 0, none⟩) (M + 8 * n) k1)) := (K1.mono (S' := fun i => i = bb ∨ ob A = some i) (fun _ _ h => .inr h)).trans K2 (fun _ _ h => .inl h)
    have HS := Lib.hid (show U64At w (w1.setCell ⟨bb, 0, none⟩ (.slice (some ⟨g1, 0, none⟩) (M + 8 * n) k1)) base bb g1 (M + 8 * n) k1 n 0 A l xs from ⟨hb2, by simpa [u64s] using o2, K3⟩)
    have HG : Hid (∀ i, i < w.heap.size → i = g1 → ob A = some i) := Lib.hid (by
      rintro i hi rfl
      rcases HAT.out with h | h
      · rw [← h, ownBlock_slice]; rfl
      · rw [ownBlock_slice] at h
        have h2 : some i = some w.heap.size := h
        injection h2 with h2
        omega)
    clear o1 hb1 e0 f0 hl1 hb2 o2 K1 K2 K3
    go_loopw [5, 7, 30] (fun o v i wr => ∃ k p : Nat, k ≤ n ∧ p = M + 8 * k ∧ o = .int .i64 p ∧ i = .int .i64 k ∧ U64At w wr base bb g1 (M + 8 * n) k1 n k A l xs) (fun _ _ i _ => n - (RowKit.intOf i).toNat)
    case atStart => exact ⟨0, M, Nat.zero_le _, rfl, rfl, rfl, HS.out⟩
    case round =>
      obtain ⟨k, p, hk, hp, rfl, rfl, hP⟩ := hrel
      have HP := Lib.hid hP
      clear hP
      have hcb : wr.cell? ⟨bb, 0, none⟩ = some (.slice (some ⟨g1, 0, none⟩) (M + 8 * n) k1) := HP.out.blk.cell 0
      by_cases hlt : k < n
      · obtain ⟨x, hx⟩ : ∃ x, xs[k]? = some x := ⟨_, List.getElem?_eq_getElem (by rw [HL.out]; exact hlt)⟩
        have HT := Lib.hid (show xs.take (k + 1) = xs.take k ++ [x] by rw [List.take_add_one, hx]; simp)
        have hRw : Rd wr 1 C n (d64c xs) := HR.out.keeps HP.out.keeps (fun i hi h => by
          obtain ⟨h1, h2⟩ := HC.out i hi
          rcases h with h | h
          · exact h1 h
          · exact h2 h)
        obtain ⟨ad, u, rfl, hb, hu, hcell⟩ := hRw.at' hlt
        have hu' : u = .int .i64 (IntKind.i64.wrap (x : Int)) := by
          rw [d64c, List.getElem?_map, hx] at hu
          injection hu with hu
          exact hu.symm
        subst hu'
        have hwx : IntKind.u64.wrap (IntKind.i64.wrap (x : Int)) = (x : Int) := wrap_back x (HX.out x (List.mem_of_getElem? hx))
        generalize IntKind.i64.wrap (x : Int) = y at *
        clear hu hx hRw
        have hcm : M + 8 * n ≤ k1 ∧ k1 ≤ 9223372036854775807 := by
          obtain ⟨_, _, _, _, _, h1, h2, _, _⟩ := own_whole HP.out.own (by omega)
          exact ⟨h1, h2⟩
        obtain ⟨hcap, hmax⟩ := hcm
        have f1 : (p : Int) + 8 ≤ (k1 : Int) := by omega
        have f0 : IntKind.i64.wrap ((p : Int) + 8) = (p : Int) + 8 := by rw [IntKind.wrap_i64]; omega
        have f2 : (p : Int) ≤ (p : Int) + 8 := by omega
        have f3 : ¬ (k1 = p) := by omega
        have f4 : ((p : Int) + 8).toNat = p + 8 := by omega
        have f5 : (0 : Int) ≤ (p : Int) + 8 := by omega
        have f6 : p + 8 ≤ M + 8 * n := by omega
        have HPP := Lib.hid hp
        clear hp
        go_wp2_with fail
        go_region_with (go_at_call 128; refine (lePut64In wr.drew base (M + 8 * n) k1 p x g1 _ HP.out.own f6 (k1 - p)).mono ?_; rintro e w2 ⟨rfl, o2, K2⟩)
        all_goals
          have hb2 := HP.out.blk.drew.keeps K2 (fun h => nA1 h.symm)
          have hlen : (l ++ u64s (xs.take k)).length = p := by rw [List.length_append, u64s_length, List.length_take, HL.out, HM.out, HPP.out, Nat.min_eq_left hk]
          have hz := zer_step (l ++ u64s (xs.take k)) x (8 * (n - k)) (by omega)
          rw [hlen] at hz
          rw [hz, List.append_assoc, ← u64s_snoc, ← HT.out, show 8 * (n - k) - 8 = 8 * (n - (k + 1)) by omega] at o2
          go_wp2_with fail
          go_roundw
          case rel => exact ⟨k + 1, p + 8, by omega, by have := HPP.out; omega, by go_num, by go_num, hb2, o2, HP.out.keeps.drew.trans K2 (fun i hi h => .inr (HG.out i hi h))⟩
          case measure => (first | (simp [RowKit.intOf]; done) | (simp [RowKit.intOf]; omega))
      · have hkn : k = n := by omega
        subst hkn
        go_wp2_with fail
        go_end0
        have hlen : (l ++ u64s xs).length = M + 8 * k := by rw [List.length_append, u64s_length, HL.out, HM.out]
        have ho := HP.out.own
        rw [List.take_of_length_le (by rw [HL.out]; exact Nat.le_refl _), Nat.sub_self, Nat.mul_zero, zer, List.replicate_zero, List.append_nil] at ho
        refine ⟨some ⟨g1, 0, none⟩, k1, rfl, ⟨⟨?_, ?_, HB.out.lo⟩, HP.out.keeps, ?_⟩⟩
        · rw [hlen]
          exact HP.out.blk
        · rw [hlen]
          exact ho
        · rcases HAT.out with h | h
          · exact .inl (by rw [← h, ownBlock_slice])
          · exact .inr fun i hi => by
              rw [ownBlock_slice] at h
              rw [h] at hi
              injection hi with hi
              omega
end Go.Proofs.YtmdmccjmmljbkaaGreat
