/- The walk of the law that a tuple is the bytes of its columns as they are alone. Conditions: lengths that an argument can have. -/
import Derived.Test.YtpbnhhfpbadhjaaGreatLx
import Derived.Test.YtpbnhhfpbadhjaaGreatTx2
import Derived.Test.YtpbnhhfpbadhjaaGreatNo
import Derived.Test.YtpbnhhfpbadhjaaGreatAm
import Derived.Test.YtpbnhhfpbadhjaaGreatSte
import Derived.Deep.CutRange
import Derived.Deep.LoopGhost
import Derived.Deep.RegionHeld3
namespace Go.Proofs.YtpbnhhfpbadhjaaGreat
open Go.RowKit Go.Lib
set_option linter.unusedVariables false
def cvOpD (s d : TypeId) (x : Operand) : Op := .convert s d x
theorem cvOpD_eq (s d : TypeId) (x : Operand) : cvOpD s d x = .convert s d x := rfl
def slOpD (t : TypeId) (x lo : Operand) : Op := .slice t x (some lo) none none
theorem slOpD_eq (t : TypeId) (x lo : Operand) : slOpD t x lo = .slice t x (some lo) none none := rfl
attribute [local go_sem] cvOpD_eq slOpD_eq
theorem u64s_len (xs : List Nat) : (u64s xs).length = 8 * xs.length := u64s_length xs
/-- Rows of one number each, the numbers, and strings: while they are made. -/
structure Bt (w2 wr : World) (T : Option Addr) (k ct : Nat) (VS : List Value) (R : List (List Value)) (F : Option Addr) (kf cf : Nat) (xs : List Value) (A : Option Addr) (m ca : Nat) (pa : List Value) : Prop where
  oT : wr.ownsRow w2.heap.size 31 1 (.slice T k ct) k VS
  rb : RB wr T VS R
  oF : wr.ownsRow w2.heap.size 32 1 (.slice F kf cf) kf xs
  oA : wr.ownsRow w2.heap.size 9 1 (.slice A m ca) m pa
  lo : ∀ v ∈ VS, ∀ q, v.ownBlock = some q → w2.heap.size ≤ q ∧ q < wr.heap.size ∧ ob F ≠ some q
  kp : Keeps (fun _ => False) w2 wr
section
variable {w2 wr w' : World} {T F A T' : Option Addr} {k ct kf cf m ca c' : Nat} {VS xs pa : List Value} {R : List (List Value)} {v : Value}
theorem RB.apartD {w w' : World} {S : Nat → Prop} {A : Option Addr} {VS : List Value} {R : List (List Value)} (h : RB w A VS R) (hk : Keeps S w w') (hS : ∀ v ∈ VS, ∀ q, v.ownBlock = some q → ¬ S q) : RB w' A VS R := ⟨h.1, fun i xs hx => by
  obtain ⟨B, d, h1, h2, h3⟩ := h.2 i xs hx
  exact ⟨B, d, h1, h2.keeps hk (fun q hq => hS _ (List.mem_of_getElem? h1) q (by rw [ownBlock_slice]; exact hq)), fun q hq => ⟨Nat.lt_of_lt_of_le (h3 q hq).1 hk.size, (h3 q hq).2⟩⟩⟩
theorem Bt.new (h : Bt w2 wr T k ct VS R F kf cf xs A m ca pa) (hk : Keeps (fun _ => False) wr w') : Bt w2 w' T k ct VS R F kf cf xs A m ca pa :=
  ⟨own_keeps h.oT hk (fun _ _ h => h), h.rb.keeps hk, own_keeps h.oF hk (fun _ _ h => h), own_keeps h.oA hk (fun _ _ h => h), fun v hv q hq => by
    obtain ⟨a, b, c⟩ := h.lo v hv q hq
    exact ⟨a, Nat.lt_of_lt_of_le b hk.size, c⟩, h.kp.trans hk (fun _ _ h => h)⟩
theorem Bt.appF (h : Bt w2 wr T k ct VS R F kf cf xs A m ca pa) (o : w'.ownsRow w2.heap.size 32 1 (.slice T' (kf + 1) c') (kf + 1) (xs ++ [v])) (hg : wr.grownBy w' (ob F)) (hat : ob T' = ob F ∨ ob T' = some wr.heap.size) : Bt w2 w' T k ct VS R T' (kf + 1) c' (xs ++ [v]) A m ca pa := by
  have K : Keeps (fun i => ob F = some i) wr w' := (Keeps.refl _ wr).grown hg (fun k hk => .inl hk)
  have a1 : ∀ k, ob T = some k → ob F ≠ some k := by have := own_apart h.oT h.oF (by decide); simpa only [ownBlock_slice] using this
  have a2 : ∀ k, ob A = some k → ob F ≠ some k := by have := own_apart h.oA h.oF (by decide); simpa only [ownBlock_slice] using this
  refine ⟨own_keeps h.oT K (fun k hk => by rw [ownBlock_slice] at hk; exact a1 k hk), h.rb.apartD K (fun v hv q hq => (h.lo v hv q hq).2.2), o, own_keeps h.oA K (fun k hk => by rw [ownBlock_slice] at hk; exact a2 k hk), fun v hv q hq => ?_, h.kp.trans K (fun i hi e => by have := (h.oF.lt i (by rw [ownBlock_slice]; exact e)).1; omega)⟩
  obtain ⟨a, b, c⟩ := h.lo v hv q hq
  refine ⟨a, Nat.lt_of_lt_of_le b K.size, ?_⟩
  rcases hat with e | e
  · rw [e]; exact c
  · rw [e]; intro e2; injection e2 with e2; omega
theorem Bt.appT {b d : Nat} (h : Bt w2 wr T k ct VS R F kf cf xs A m ca pa) (hx : Whole wr b 32 #[v]) (hb : w2.heap.size ≤ b) (hF : ob F ≠ some b) (o : w'.ownsRow w2.heap.size 31 1 (.slice T' (k + 1) c') (k + 1) (VS ++ [.slice (some ⟨b, 0, none⟩) 1 d])) (hg : wr.grownBy w' (ob T)) (hat : ob T' = ob T ∨ ob T' = some wr.heap.size) :
    Bt w2 w' T' (k + 1) c' (VS ++ [.slice (some ⟨b, 0, none⟩) 1 d]) (R ++ [[v]]) F kf cf xs A m ca pa := by
  have K : Keeps (fun i => ob T = some i) wr w' := (Keeps.refl _ wr).grown hg (fun k hk => .inl hk)
  have a1 : ∀ k, ob F = some k → ob T ≠ some k := by have := own_apart h.oF h.oT (by decide); simpa only [ownBlock_slice] using this
  have a2 : ∀ k, ob A = some k → ob T ≠ some k := by have := own_apart h.oA h.oT (by decide); simpa only [ownBlock_slice] using this
  have bT : ob T ≠ some b := by have := own_far h.oT hx (by decide); rwa [ownBlock_slice] at this
  refine ⟨o, ?_, own_keeps h.oF K (fun k hk => by rw [ownBlock_slice] at hk; exact a1 k hk), own_keeps h.oA K (fun k hk => by rw [ownBlock_slice] at hk; exact a2 k hk), fun v hv q hq => ?_, h.kp.trans K (fun i hi e => by have := (h.oT.lt i (by rw [ownBlock_slice]; exact e)).1; omega)⟩
  · have hl := hx.lt
    have := h.rb.snoc (xs := [v]) (B := some ⟨b, 0, none⟩) (d := d) (Rd.whole hx rfl rfl) (fun q hq => by injection hq with hq; simp only at hq; subst hq; exact ⟨hl, bT⟩) hg hat
    exact this
  · rcases List.mem_append.1 hv with hv | hv
    · obtain ⟨a, b, c⟩ := h.lo v hv q hq
      exact ⟨a, Nat.lt_of_lt_of_le b K.size, c⟩
    · rw [List.mem_singleton.1 hv, ownBlock_slice] at hq
      injection hq with hq
      simp only at hq
      subst hq
      exact ⟨hb, Nat.lt_of_lt_of_le hx.lt K.size, hF⟩
end
def nums77 (k : Nat) : List Nat := (List.range k).map (77 * ·)
def rows77 (k : Nat) : List (List Nat) := (List.range k).map fun i => [77 * i]
theorem nums77_snoc (k : Nat) : nv (nums77 (k + 1)) = nv (nums77 k) ++ [.int .u32 ((77 * k : Nat) : Int)] := by simp [nums77, List.range_succ, nv]
theorem rows77_snoc (k : Nat) : (rows77 (k + 1)).map nv = (rows77 k).map nv ++ [[.int .u32 ((77 * k : Nat) : Int)]] := by simp [rows77, List.range_succ, nv]
theorem rows77_flat (k : Nat) : (rows77 k).flatten = nums77 k := by induction k with
  | zero => rfl
  | succ k ih => rw [rows77, List.range_succ, List.map_append, List.flatten_append, ← rows77, ih, nums77, nums77, List.range_succ, List.map_append]; rfl
theorem nums77_length (k : Nat) : (nums77 k).length = k := by simp [nums77]
theorem rows77_length (k : Nat) : (rows77 k).length = k := by simp [rows77]
theorem narr77 (k : Nat) : narrB (rows77 k) = u64s (ends 0 ((rows77 k).map List.length)) ++ u32s (nums77 k) := by rw [narrB, rows77_flat]
theorem narr77_drop (k : Nat) : (narrB (rows77 k)).drop (8 * k) = u32s (nums77 k) ∧ (narrB (rows77 k)).length = 12 * k := by
  have h : (u64s (ends 0 ((rows77 k).map List.length))).length = 8 * k := by rw [u64s_length, ends_length, List.length_map, rows77_length]
  rw [narr77]
  refine ⟨by rw [← h, List.drop_left], ?_⟩
  rw [List.length_append, h, u32s_length, nums77_length]
  omega
theorem infoSlD : (Tryz.prog.info? 31).map (fun i => (i.zero, i.size, i.bytes)) = some (some (.slice none 0 0), 1, 24) := by kernel_rfl
set_option maxRecDepth 100000 in
set_option maxHeartbeats 8000000 in
theorem deepTuple (w : World) (A : Option Addr) (n c : Nat) (xs : List ByteArray) (E : Option Addr) (nl cl : Nat) (LL : List (List ByteArray))
    (hx : xs.length = n) (hRx : Rd w 1 A n (xs.map Value.string)) (hn : n ≤ 9223372036854775807) (hl : LL.length = nl) (hRl : RowsOf w E LL) (hnl : nl ≤ 9223372036854775807) (hi : ∀ X ∈ LL, X.length ≤ 9223372036854775807) :
    Calls Tryz.prog 4 #[.slice A n c, .slice E nl cl] w fun e w' => e = .returned (.bool true) ∧ Below w.heap.size w w' := by
  obtain ⟨i0, hi0, hz0, hz1, hz2⟩ := info_parts infoStrE
  obtain ⟨j0, hj0, hj1, hj2, hj3⟩ := info_parts infoN
  obtain ⟨l0, hl0, hl1, hl2, hl3⟩ := info_parts infoSlD
  have HF2 := Lib.hid (fits2 w A n c xs hx hRx hn)
  have HF1 := Lib.hid (fits1 w E nl cl LL hl hRl hi hnl)
  have HLI := Lib.hid (arLists w E nl cl LL hl hRl hnl hi)
  have hlen := lists_len LL
  have hpos := lists_pos LL
  have hsm := lists_small LL
  have hin := lists_in LL
  have HAW := Lib.hid (fun (W : World) (K : Keeps (fun _ => False) w W) (m : Nat) (hm : m ≤ 1000) => arWords W A n c m xs hx (hRx.keeps K (fun _ _ h => h)) hn hm)
  clear hx hRx hl hRl hnl hi
  generalize listsOf LL = X at *
  generalize hmX : X.length = m at *
  obtain ⟨hp0, hp1⟩ := hpos
  have HMX := Lib.hid hmX
  have HIN := Lib.hid hin
  have HSM := Lib.hid hsm
  clear hmX hin hsm
  go_enter Tryz.func4, Tryz.ntmps4
  go_wp2_with fail
  refine HF2.out.mono ?_
  rintro e w1 ⟨⟨b, rfl⟩, rfl⟩
  cases b with
  | false =>
    go_wp2_with fail
    go_ret
    exact ⟨rfl, Below.refl _ _⟩
  | true =>
  go_wp2_with fail
  refine HF1.out.mono ?_
  rintro e w1 ⟨⟨b, rfl⟩, rfl⟩
  cases b with
  | false =>
    go_wp2_with fail
    go_ret
    exact ⟨rfl, Below.refl _ _⟩
  | true =>
  go_wp2_with fail
  refine HLI.out.mono ?_
  rintro e w2 ⟨A2, c2, rfl, hX2, K2⟩
  have RX := Lib.hid hX2
  have HK := Lib.hid K2
  clear hX2 K2
  go_wp2_with fail
  refine (HAW.out w2 HK.out m (by omega)).mono ?_
  rintro e w3 ⟨A1, a1, rfl, oA, kw, _⟩
  have hwl := wordsOf_length m xs
  have hwlm : (wordsOf m xs).length ≤ m := by rw [hwl]; omega
  have hw60 := words_small m xs
  have HKC := Lib.hid kw
  clear hwl kw
  generalize wordsOf m xs = p0 at *
  generalize hpl : p0.length = pl at *
  have HPL := Lib.hid hpl
  clear hpl
  go_wp2_with fail
  go_loopg [6] (m - pl) (fun gk s wr => ∃ (k : Nat) (a' : List ByteArray) (A1 : Option Addr) (a1 : Nat), k ≤ m ∧ gk = m - k ∧ a'.length = k ∧ (∀ x ∈ a', x.size ≤ 60) ∧ s = .slice A1 k a1 ∧ wr.ownsRow w2.heap.size 9 1 (.slice A1 k a1) k (a'.map Value.string) ∧ Keeps (fun _ => False) w2 wr)
  case atStart => exact ⟨pl, p0, A1, a1, hwlm, rfl, HPL.out, hw60, rfl, oA, HKC.out⟩
  case round =>
    clear oA
    obtain ⟨k, a', A1, a1, hk, hgk, ha', ha60, rfl, oA, hK⟩ := hrel
    by_cases hlt : k < m
    · have KA := (Keeps.refl (fun _ => False) wr).alloc (.cells #[.string ⟨#[116]⟩] 9)
      have oAa := own_keeps oA KA (fun _ _ h => h)
      have hKa := hK.trans KA (fun _ _ h => h)
      have HA60 := Lib.hid ha60
      have HAL := Lib.hid ha'
      clear ha60 ha'
      go_wp2_with (at_builtin
                   refine wpList_append_rd _ rfl (.tmp 35) (.tmp 36) _ rfl w2.heap.size 9 i0 _ 1 16 Tryz.underlying22 hi0 hz0 hz1 hz2 rfl Nat.one_pos A1 a1 k _ rfl oAa (some ⟨wr.heap.size, 0, none⟩) 1 1 [.string ⟨#[116]⟩] rfl (rd_one wr 9 _) (one_val _ rfl) (by simp only [maxLen]; omega) (by omega) hKa.size ?_
                   intro A3 a3 w4 o3 hg3 hat3)
      go_roundg (m - (k + 1))
      case measure => omega
      case rel => exact ⟨k + 1, a' ++ [⟨#[116]⟩], A3, a3, by omega, rfl, by rw [List.length_append, HAL.out]; rfl, (fun x hx => by rcases List.mem_append.1 hx with h | h; exact HA60.out x h; rw [List.mem_singleton.1 h]; decide), rfl, by rw [List.map_append]; exact o3, hKa.grown hg3 (fun q hq => .inr (oAa.lt q (by rw [ownBlock_slice]; exact hq)).1)⟩
    · obtain rfl : m = k := by omega
      have HAL := Lib.hid ha'
      have HA60 := Lib.hid ha60
      have HB0 := Lib.hid (show Bt w2 wr none 0 0 [] ((rows77 0).map nv) none 0 0 (nv (nums77 0)) A1 m a1 (a'.map Value.string) from ⟨World.ownsRow_nil _ _ _ 1, RB.nil _ _, World.ownsRow_nil _ _ _ 1, oA, (fun v hv => by cases hv), hK⟩)
      clear ha' ha60 oA hK
      go_wp2_with fail
      go_loopg [7, 8, 9] m (fun gk s7 s8 s9 wr => ∃ (k : Nat) (T : Option Addr) (ct : Nat) (VS : List Value) (F : Option Addr) (cf : Nat), k ≤ m ∧ gk = m - k ∧ s9 = .int .i64 k ∧ s7 = .slice T k ct ∧ s8 = .slice F k cf ∧ Bt w2 wr T k ct VS ((rows77 k).map nv) F k cf (nv (nums77 k)) A1 m a1 (a'.map Value.string))
      case atStart => exact ⟨0, none, 0, [], none, 0, Nat.zero_le _, rfl, rfl, rfl, rfl, HB0.out⟩
      case round =>
        obtain ⟨k, T, ct, VS, F, cf, hk, hgk, rfl, rfl, rfl, hB⟩ := hrel
        by_cases hlt : k < m
        · obtain ⟨z, hz⟩ : ∃ z, 77 * k = z := ⟨_, rfl⟩
          have HRS := Lib.hid (rows77_snoc k)
          have HNS := Lib.hid (nums77_snoc k)
          rw [hz] at HRS HNS
          have hq1 : IntKind.i64.wrap ((k : Int) * 77) = (z : Int) := by rw [IntKind.wrap_i64]; omega
          have hq2 : IntKind.u32.wrap (z : Int) = (z : Int) := by rw [IntKind.wrap_u32]; omega
          clear hz
          have K1 := (Keeps.refl (fun _ => False) wr).alloc (.cells #[.int .u32 (z : Int)] 32)
          have b1 := hB.new K1
          have hW1 := Whole.new wr 32 #[.int .u32 (z : Int)]
          have K2 := (Keeps.refl (fun _ => False) (wr.alloc (.cells #[.int .u32 (z : Int)] 32))).alloc (.cells #[.slice (some ⟨wr.heap.size, 0, none⟩) 1 1] 31)
          have b2 := b1.new K2
          have hW2 := hW1.alloc (.cells #[.slice (some ⟨wr.heap.size, 0, none⟩) 1 1] 31)
          have hrd := rd_one (wr.alloc (.cells #[.int .u32 (z : Int)] 32)) 31 (.slice (some ⟨wr.heap.size, 0, none⟩) 1 1)
          rw [World.size_alloc] at hrd
          have hFb : ob F ≠ some wr.heap.size := fun e => by have := (hB.oF.lt _ (by rw [ownBlock_slice]; exact e)).2; omega
          have hbs : w2.heap.size ≤ wr.heap.size := hB.kp.size
          have HB2 := Lib.hid b2
          have HW2 := Lib.hid hW2
          have HRD := Lib.hid hrd
          have HFB := Lib.hid hFb
          clear hB b1 b2 hW1 hW2 hrd K1 K2 hFb
          go_wp2_with (first
            | (at_builtin
               refine wpList_append_rd _ rfl (.tmp 44) (.tmp 49) _ rfl w2.heap.size 31 l0 _ 1 24 Tryz.underlying30 hl0 hl1 hl2 hl3 rfl Nat.one_pos T ct k _ rfl HB2.out.oT (some ⟨wr.heap.size + 1, 0, none⟩) 1 1 [.slice (some ⟨wr.heap.size, 0, none⟩) 1 1] rfl HRD.out (one_val _ rfl) (by simp only [maxLen]; omega) (by omega) HB2.out.kp.size ?_
               intro T3 t3 w4 o4 hg4 hat4
               have b4 := Lib.hid (HB2.out.appT HW2.out hbs HFB.out o4 hg4 hat4)
               have K4 := (Keeps.refl (fun _ => False) w4).alloc (.cells #[.int .u32 (z : Int)] 32)
               have b5 := Lib.hid (b4.out.new K4))
            | (at_builtin
               refine wpList_append_rd _ rfl (.tmp 51) (.tmp 55) _ rfl w2.heap.size 32 j0 _ 1 4 Tryz.underlying31 hj0 hj1 hj2 hj3 rfl Nat.one_pos F cf k _ rfl b5.out.oF (some ⟨w4.heap.size, 0, none⟩) 1 1 [.int .u32 (z : Int)] rfl (rd_one w4 32 _) (one_val _ rfl) (by simp only [maxLen]; omega) (by omega) b5.out.kp.size ?_
               intro F3 f3 w6 o6 hg6 hat6
               have b6 := Lib.hid (b5.out.appF o6 hg6 hat6)))
          go_roundg (m - (k + 1))
          case measure => omega
          case rel => exact ⟨k + 1, T3, t3, _, F3, f3, by omega, rfl, by go_num, rfl, rfl, by rw [HRS.out, HNS.out]; exact b6.out⟩
        · obtain rfl : m = k := by omega
          have RA := Lib.hid (Rd.own hB.oA)
          have RF := Lib.hid (Rd.own hB.oF)
          have RX := Lib.hid (RX.out.keeps hB.kp)
          have RT := Lib.hid (show NumsOf wr T (rows77 m) from RB.rows hB.rb hB.oT)
          have HK := Lib.hid (HK.out.trans hB.kp (fun _ _ h => h))
          clear hB
          have hm21 : m ≤ 21 := hlen
          have sb := strs_bounds a' HA60.out
          rw [HAL.out] at sb
          obtain ⟨sb1, sb2⟩ := sb
          obtain ⟨x1, x2, x3, x4, x5⟩ := HSM.out
          obtain ⟨hn8, hn12⟩ := narr77_drop m
          have hul : (u32s (nums77 m)).length = 4 * m := by rw [u32s_length, nums77_length]
          have habl : (arrB X).length ≤ 17808 := by rw [arrB_spec, List.length_append, offB_length, List.length_map, HMX.out]; omega
          have hebl : (encB (a'.map sl)).length ≤ 1470 := by rw [enc_str]; omega
          have htl2 : (tupB a' (nums77 m) X).length = (encB (a'.map sl)).length + (u32s (nums77 m)).length + (arrB X).length := by rw [tupB, List.length_append, List.length_append, Nat.add_assoc]
          have HARN := Lib.hid (fun w T ct hR => arNum w T m ct (rows77 m) (rows77_length m) hR (by rw [rows77_flat, nums77_length]; omega) (by omega))
          have HARS := Lib.hid (fun w A c hR => arStr w A m c X HMX.out hR (fun L hL x hx => by have := (HIN.out L hL).2 x hx; omega) (by omega) (by omega) (by omega) (by omega))
          have HAR := Lib.hid (fun w Ea ka Eb kb Ec kc ha hb hc => arTuple w Ea m ka a' Eb m kb (nums77 m) Ec m kc X HAL.out (nums77_length m) HMX.out ha hb hc (fun x hx => by have := HA60.out x hx; omega) (fun L hL x hx => by have := (HIN.out L hL).2 x hx; omega) (by omega) (by omega) (by omega) (by omega) (by omega) (by omega) (by omega))
          have HOFS := Lib.hid (fun w A c hR => stOf w A m c a' HAL.out hR (by omega) (fun x hx => by have := HA60.out x hx; omega))
          have HSE := Lib.hid (fun w A c hR => stEncode0 w A m c (a'.map sl) (by rw [List.length_map]; exact HAL.out) hR (by omega) (fun l hl => by obtain ⟨x, hx, rfl⟩ := List.mem_map.1 hl; rw [sl_length]; have := HA60.out x hx; omega) (by omega))
          have hmm : (a'.map sl).map Lib.byteCells = a'.map fun x => Lib.byteCells (sl x) := by rw [List.map_map]; rfl
          rw [hmm] at HSE
          have hcat : encB (a'.map sl) ++ u32s (nums77 m) ++ arrB X = tupB a' (nums77 m) X := by rw [tupB, List.append_assoc]
          clear hmm x1 x2 x3 x4 x5 sb1 sb2
          generalize narrB (rows77 m) = NB at *
          generalize (a'.map fun x => Lib.byteCells (sl x)) = VA at *
          generalize encB (a'.map sl) = d1 at *
          generalize u32s (nums77 m) = d2 at *
          generalize arrB X = d3 at *
          generalize tupB a' (nums77 m) X = dd at *
          generalize hn1 : d1.length = n1 at *
          generalize hn2 : d2.length = n2 at *
          generalize hn3 : d3.length = n3 at *
          obtain ⟨p8, hp8⟩ : ∃ p, 8 * m = p := ⟨_, rfl⟩
          obtain ⟨p12, hp12⟩ : ∃ p, 12 * m = p := ⟨_, rfl⟩
          rw [hp8] at hn8
          rw [hp12] at hn12
          have hw8 : IntKind.i64.wrap (8 * (m : Int)) = (p8 : Int) := by rw [IntKind.wrap_i64]; omega
          have hw12 : IntKind.i64.wrap (12 * (m : Int)) = (p12 : Int) := by rw [IntKind.wrap_i64]; omega
          have y1 : p12 = p8 + n2 := by omega
          have y2 : 0 < n2 := by omega
          have y3 : p12 ≤ 252 := by omega
          have HDROP := Lib.hid (show ((Lib.byteCells NB).drop p8).take n2 = Lib.byteCells d2 by
            rw [Lib.byteCells, ← List.map_drop, hn8, ← Lib.byteCells, List.take_of_length_le (by rw [Lib.byteCells_length]; omega)])
          have HNL := Lib.hid hn12
          have HSL := Lib.hid hn3
          have HN1 := Lib.hid hn1
          have HDL := Lib.hid htl2
          have HCAT := Lib.hid hcat
          clear hn8 hn12 hul htl2 hcat hn1 hn2 hn3 hp8 hp12
          go_wp2_with fail
          refine (HARN.out wr T ct RT.out).mono ?_
          rintro e v1 ⟨VN, cN, he, o1, k1⟩
          rw [HNL.out] at he o1
          subst he
          have RA := Lib.hid (RA.out.keeps k1 (fun _ _ h => h))
          have RF := Lib.hid (RF.out.keeps k1 (fun _ _ h => h))
          have RX := Lib.hid (RX.out.keeps k1)
          have HK := Lib.hid (HK.out.trans k1 (fun _ _ h => h))
          have ON := Lib.hid o1
          clear o1 k1
          go_wp2_with fail
          refine (HARS.out v1 A2 c2 RX.out).mono ?_
          rintro e v2 ⟨VS2, cS, he, o2, k2⟩
          rw [HSL.out] at he o2
          subst he
          have RA := Lib.hid (RA.out.keeps k2 (fun _ _ h => h))
          have RF := Lib.hid (RF.out.keeps k2 (fun _ _ h => h))
          have RX := Lib.hid (RX.out.keeps k2)
          have ON := Lib.hid (own_keeps ON.out k2 (fun _ _ h => h))
          have HK := Lib.hid (HK.out.trans k2 (fun _ _ h => h))
          have RS := Lib.hid (Rd.own o2)
          clear o2 k2
          go_wp2_with fail
          refine (HAR.out v2 A1 a1 F cf A2 c2 RA.out RF.out RX.out).mono ?_
          rintro e v3 ⟨VG, cG, he, o3, k3⟩
          rw [HDL.out] at he o3
          subst he
          have RA := Lib.hid (RA.out.keeps k3 (fun _ _ h => h))
          have RF := Lib.hid (RF.out.keeps k3 (fun _ _ h => h))
          have RX := Lib.hid (RX.out.keeps k3)
          have ON := Lib.hid (own_keeps ON.out k3 (fun _ _ h => h))
          have RS := Lib.hid (RS.out.keeps k3 (fun _ _ h => h))
          have HK := Lib.hid (HK.out.trans k3 (fun _ _ h => h))
          have RG := Lib.hid (Rd.own o3)
          clear o3 k3
          obtain ⟨gN, capN, hvN, hlN, hhN⟩ := ON.out.form (by omega)
          injection hvN with hv1 hv2 hv3
          subst hv1 hv3
          have hNc := (own_cap ON.out).1
          have hNm := (own_cap ON.out).2.1
          simp only [maxLen] at hNm
          have RN := Lib.hid (show Rd v3 1 (some ⟨gN, p8, none⟩) n2 (Lib.byteCells d2) by
            have h := (Rd.own ON.out).part (lo := p8) (hi := p12) (by omega) (Nat.le_refl _)
            rw [Nat.mul_one, Nat.mul_one, add_lit', Nat.zero_add, show p12 - p8 = n2 by omega, HDROP.out] at h
            exact h)
          have hkk := (Keeps.refl (fun _ => False) v3).drew
          have hcb := cv_str (c := cG) (RG.out.keeps hkk (fun _ _ h => h))
          have u1 : (p8 : Int) ≤ (p12 : Int) := by omega
          have u2 : (p12 : Int) ≤ (cN : Int) := by omega
          have u3 : ¬ (cN = p8) := by omega
          have u4 : p12 - p8 = n2 := by omega
          have u5 : (p8 : Int) ≤ (cN : Int) := by omega
          have u6 : (0 : Int) ≤ (p8 : Int) := by omega
          have u7 : p8 ≤ p12 := by omega
          have u8 : p12 ≤ cN := by omega
          have u9 : p8 ≤ cN := by omega
          have u10 : ¬ (cN - p8 = 0) := by omega
          have u11 : (0 : Int) ≤ (p12 : Int) := by omega
          clear hv2 hlN hhN hNm
          go_wp2_with fail
          rw [show Op.convert 33 9 (.tmp 103) = cvOpD 33 9 (.tmp 103) from rfl, show Op.slice 33 (.tmp 96) (some (.tmp 99)) none none = slOpD 33 (.tmp 96) (.tmp 99) from rfl]
          go_region_held3 (fun w' => (convert 33 9 (.slice VG (n1 + n2 + n3) cG)).run Tryz.prog w' = .ok (.string ⟨dd.toArray⟩) w') (first | exact hcb | exact cv_str (c := cG) (RG.out.keeps (hkk.alloc _) (fun _ _ h => h))) (first
            | (go_at_call 13
               refine (stJoinThree _ wz.heap.size 33 Ae n1 ce d1 (some ⟨gN, p8, none⟩) n2 (cN - p8) d2 VS2 n3 cS d3 (Whole.new wz _ _) (hoe.keeps ((Keeps.refl (fun _ => False) wz).alloc _) (fun _ _ h => h)) (RN.out.keeps (hkk.alloc _) (fun _ _ h => h)) (RS.out.keeps (hkk.alloc _) (fun _ _ h => h)) (by omega)).mono ?_
               rintro e wj ⟨Aj, cj, rfl, oj, Kj, _⟩
               rw [HCAT.out] at oj
               have hcj := cv_str (c := cj) (Rd.own oj)
               have hkf := (hkk.alloc _).trans Kj (fun _ _ h => h)
               have hcb := cv_str (c := cG) (RG.out.keeps hkf (fun _ _ h => h)))
            | (go_at_call 14
               refine (HSE.out _ Ao co hof).mono ?_
               rintro e wz ⟨Ae, ce, he, oe, Kl⟩
               rw [HN1.out] at he oe
               subst he
               have hoe := Rd.own oe
               have hkk := hkk.trans Kl (fun _ _ h => h)
               have hcb := cv_str (c := cG) (RG.out.keeps hkk (fun _ _ h => h)))
            | (go_at_call 15
               refine (HOFS.out _ A1 a1 (RA.out.keeps hkk (fun _ _ h => h))).mono ?_
               rintro e wo ⟨Ao, co, rfl, hof, Ko⟩
               have hkk := hkk.trans Ko (fun _ _ h => h)
               have hcb := cv_str (c := cG) (RG.out.keeps hkk (fun _ _ h => h))))
          all_goals
            go_wp2_with fail
            go_ret
            exact ⟨rfl, (HK.out.trans hkf (fun _ _ h => h)).below (Nat.le_refl _) (fun _ h => h.elim)⟩
end Go.Proofs.YtpbnhhfpbadhjaaGreat
