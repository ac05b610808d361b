/- The specification's bytes of columns of strings and of their arrays. Conditions: sizes far below the machine's. -/
import Derived.Test.YtpcjifhklofofaaOpen
import Derived.Test.YtpcjifhklofofaaStr
import Derived.LoopTactic
namespace Go.Proofs.Ytpcjifhklofofaa
open Go.RowKit Go.Lib
set_option linter.unusedVariables false
theorem infoStrE : (Try.prog.info? 9).map (fun i => (i.zero, i.size, i.bytes)) = some (some (.string ⟨#[]⟩), 1, 16) := by kernel_rfl
theorem infoIntE : (Try.prog.info? 3).map (fun i => (i.zero, i.size, i.bytes)) = some (some (.int .i64 0), 1, 8) := by kernel_rfl
theorem infoBsE : (Try.prog.info? 25).map (fun i => (i.zero, i.size, i.bytes)) = some (some (.slice none 0 0), 1, 24) := by kernel_rfl
theorem infoSsE : (Try.prog.info? 22).map (fun i => (i.zero, i.size, i.bytes)) = some (some (.slice none 0 0), 1, 24) := by kernel_rfl
theorem one_val (v : Value) (h : v.oneCell' = true) : ∀ u ∈ [v], u.oneCell' = true := fun u hu => by rw [List.mem_singleton.1 hu]; exact h
theorem strs_one (xs : List ByteArray) : ∀ u ∈ xs.map Value.string, u.oneCell' = true := by
  intro u hu
  obtain ⟨s, _, rfl⟩ := List.mem_map.1 hu
  rfl
theorem rd_one (w : World) (t : TypeId) (v : Value) : Rd (w.alloc (.cells #[v] t)) 1 (some ⟨w.heap.size, 0, none⟩) 1 [v] := Rd.whole (Whole.new w t #[v]) rfl rfl
/-- What a function that makes a row of its own returns. -/
def OwnRes (w : World) (e : TypeId) (vs : List Value) (n : Nat) (en : Ending) (w' : World) : Prop := ∃ A c, en = .returned (.slice A n c) ∧ w'.ownsRow w.heap.size e 1 (.slice A n c) n vs ∧ Keeps (fun _ => False) w w' ∧ ∀ k, ob A = some k → w.heap.size ≤ k
theorem OwnRes.mk {w w' : World} {e : TypeId} {vs : List Value} {n c : Nat} {A : Option Addr} (h : w'.ownsRow w.heap.size e 1 (.slice A n c) n vs) (hk : Keeps (fun _ => False) w w') : OwnRes w e vs n (.returned (.slice A n c)) w' :=
  ⟨A, c, rfl, h, hk, fun k hk => (h.lt k (by rw [ownBlock_slice]; exact hk)).1⟩
theorem OwnRes.of {w w' : World} {e : TypeId} {vs : List Value} {n c : Nat} {A : Option Addr} {en : Ending} (he : en = .returned (.slice A n c)) (h : w'.ownsRow w.heap.size e 1 (.slice A n c) n vs) (hk : Keeps (fun _ => False) w w') : OwnRes w e vs n en w' := by
  rw [he]; exact OwnRes.mk h hk
theorem take_map {α : Type} (f : α → Value) {xs : List α} {k : Nat} {x : α} (h : xs[k]? = some x) : (xs.take k).map f ++ [f x] = (xs.take (k + 1)).map f := by
  rw [List.take_add_one, h]; simp
theorem take_flat {α : Type} {LL : List (List α)} {k : Nat} {L : List α} (h : LL[k]? = some L) : (LL.take (k + 1)).flatten = (LL.take k).flatten ++ L := by
  rw [List.take_add_one, h]; simp
theorem flat_le {α : Type} (LL : List (List α)) (k : Nat) : (LL.take k).flatten.length ≤ LL.flatten.length := by
  have h : LL.flatten = (LL.take k).flatten ++ (LL.drop k).flatten := by rw [← List.flatten_append, List.take_append_drop]
  rw [h, List.length_append]; omega

set_option maxRecDepth 100000 in
set_option maxHeartbeats 2000000 in
theorem arLens (w : World) (A : Option Addr) (n c : Nat) (LL : List (List ByteArray)) (hl : LL.length = n) (hR : RowsOf w A LL) (hn : n ≤ 100000) (hf : LL.flatten.length ≤ 100000) :
    Calls Try.prog 13 #[.slice A n c] w fun e w' => OwnRes w 3 (LL.map fun L => .int .i64 (L.length : Int)) n e w' := by
  obtain ⟨i0, hi0, hz0, hz1, hz2⟩ := info_parts infoIntE
  have HR := Lib.hid hR
  have HL := Lib.hid hl
  clear hR hl
  go_enter Try.func13, Try.ntmps13
  go_wp2_with fail
  go_loopw [3, 4] (fun v i wr => ∃ (k : Nat) (A1 : Option Addr) (c1 : Nat), k ≤ n ∧ i = .int .i64 k ∧ v = .slice A1 k c1 ∧ wr.ownsRow w.heap.size 3 1 (.slice A1 k c1) k ((LL.take k).map fun L => .int .i64 (L.length : Int)) ∧ Keeps (fun _ => False) w wr) (fun _ i _ => n - (RowKit.intOf i).toNat)
  case atStart => exact ⟨0, none, 0, Nat.zero_le _, rfl, rfl, World.ownsRow_nil w w.heap.size 3 1, Keeps.refl _ _⟩
  case round =>
    obtain ⟨k, A1, c1, hk, rfl, rfl, hown, hK⟩ := hrel
    by_cases hlt : k < n
    · obtain ⟨L, hL⟩ : ∃ L, LL[k]? = some L := ⟨_, List.getElem?_eq_getElem (by rw [HL.out]; exact hlt)⟩
      have HT := Lib.hid (take_map (fun L : List ByteArray => .int .i64 (L.length : Int)) hL)
      obtain ⟨ad, B, d, rfl, hl, hcell, hRd⟩ := (HR.out.keeps hK).at' hL
      clear hL
      have hKa := hK.alloc (.cells #[.int .i64 (L.length : Int)] 3)
      have howna := own_keeps hown ((Keeps.refl (fun _ => False) wr).alloc (.cells #[.int .i64 (L.length : Int)] 3)) (fun _ _ h => h)
      go_wp2_with (at_builtin
                   refine wpList_append_rd _ rfl (.tmp 11) (.tmp 17) _ rfl w.heap.size 3 i0 _ 1 8 Try.underlying36 hi0 hz0 hz1 hz2 rfl Nat.one_pos A1 c1 k _ rfl howna (some ⟨wr.heap.size, 0, none⟩) 1 1 [.int .i64 (L.length : Int)] rfl (rd_one wr 3 _) (one_val _ rfl) (by simp only [maxLen]; omega) (by omega) hKa.size ?_
                   intro A2 c2 w2 hown2 hg2 hat2)
      have hK2 := hKa.grown hg2 (fun i hi => .inr (howna.lt i (by rw [ownBlock_slice]; exact hi)).1)
      rw [HT.out] at hown2
      go_roundw
      case rel => exact ⟨k + 1, A2, c2, by omega, by go_num, rfl, hown2, hK2⟩
      case measure => (first | (simp [RowKit.intOf]; done) | (simp [RowKit.intOf]; omega))
    · have hkn : k = n := by omega
      subst hkn
      rw [List.take_of_length_le (by rw [HL.out]; exact Nat.le_refl _)] at hown
      go_wp2_with fail
      go_ret
      exact OwnRes.mk hown hK

set_option maxRecDepth 100000 in
set_option maxHeartbeats 2000000 in
theorem arFlat (w : World) (A : Option Addr) (n c : Nat) (LL : List (List ByteArray)) (hl : LL.length = n) (hR : RowsOf w A LL) (hn : n ≤ 100000) (hf : LL.flatten.length ≤ 100000) :
    Calls Try.prog 14 #[.slice A n c] w fun e w' => OwnRes w 9 (LL.flatten.map Value.string) LL.flatten.length e w' := by
  obtain ⟨i0, hi0, hz0, hz1, hz2⟩ := info_parts infoStrE
  have HR := Lib.hid hR
  have HL := Lib.hid hl
  have HF := Lib.hid (fun k => Nat.le_trans (flat_le LL k) hf)
  clear hR hl hf
  go_enter Try.func14, Try.ntmps14
  go_wp2_with fail
  go_loopw [3, 4] (fun v i wr => ∃ (k m : Nat) (A1 : Option Addr) (c1 : Nat), k ≤ n ∧ m = (LL.take k).flatten.length ∧ i = .int .i64 k ∧ v = .slice A1 m c1 ∧ wr.ownsRow w.heap.size 9 1 (.slice A1 m c1) m ((LL.take k).flatten.map Value.string) ∧ Keeps (fun _ => False) w wr) (fun _ i _ => n - (RowKit.intOf i).toNat)
  case atStart => exact ⟨0, 0, none, 0, Nat.zero_le _, by simp, rfl, rfl, World.ownsRow_nil w w.heap.size 9 1, Keeps.refl _ _⟩
  case round =>
    obtain ⟨k, m, A1, c1, hk, hm, rfl, rfl, hown, hK⟩ := hrel
    by_cases hlt : k < n
    · obtain ⟨L, hL⟩ : ∃ L, LL[k]? = some L := ⟨_, List.getElem?_eq_getElem (by rw [HL.out]; exact hlt)⟩
      have HT := Lib.hid (take_flat hL)
      have hm1 : m ≤ 100000 := by rw [hm]; exact HF.out k
      have hm2 : m + L.length ≤ 100000 := by have := HF.out (k + 1); rw [HT.out, List.length_append, ← hm] at this; exact this
      obtain ⟨ad, B, d, rfl, hl, hcell, hRd⟩ := (HR.out.keeps hK).at' hL
      have HM := Lib.hid hm
      clear hL hm
      go_wp2_with (at_builtin
                   refine wpList_append_rd _ rfl (.tmp 11) (.tmp 15) _ rfl w.heap.size 9 i0 _ 1 16 Try.underlying22 hi0 hz0 hz1 hz2 rfl Nat.one_pos A1 c1 m _ rfl hown B L.length d _ rfl hRd (strs_one L) (by simp only [maxLen]; omega) (by omega) hK.size ?_
                   intro A2 c2 w2 hown2 hg2 hat2)
      have hK2 := hK.grown hg2 (fun i hi => .inr (hown.lt i (by rw [ownBlock_slice]; exact hi)).1)
      rw [← List.map_append, ← HT.out] at hown2
      go_roundw
      case rel => exact ⟨k + 1, m + L.length, A2, c2, by omega, by rw [HT.out, List.length_append, ← HM.out], by go_num, rfl, hown2, hK2⟩
      case measure => (first | (simp [RowKit.intOf]; done) | (simp [RowKit.intOf]; omega))
    · have hkn : k = n := by omega
      subst hkn
      have e : LL.take k = LL := List.take_of_length_le (by rw [HL.out]; exact Nat.le_refl _)
      rw [e] at hown hm
      subst hm
      go_wp2_with fail
      go_ret
      exact OwnRes.mk hown hK

theorem leb_step (j y : Nat) : leb (j + 1) y = UInt8.ofNat y :: leb j (y / 256) := rfl
theorem byte_of (y : Nat) : [Value.int .u8 ((y : Int) % 256)] = Lib.byteCells [UInt8.ofNat y] := by
  rw [← cell_ofNat]; rfl

set_option maxRecDepth 100000 in
set_option maxHeartbeats 2000000 in
theorem stNumber (w : World) (x k : Nat) (hx : x < 18446744073709551616) (hk : k ≤ 8) :
    Calls Try.prog 22 #[.int .u64 x, .int .i64 k] w fun e w' => OwnRes w 5 (Lib.byteCells (leb k x)) k e w' := by
  obtain ⟨i0, hi0, hz0, hz1, hz2⟩ := info_parts infoU8
  have HX := Lib.hid hx
  clear hx
  go_enter Try.func22, Try.ntmps22
  go_wp2_with fail
  go_loopw [0, 5, 6] (fun X v i wr => ∃ (j y : Nat) (pre : List UInt8) (A1 : Option Addr) (c1 : Nat), j ≤ k ∧ y ≤ x ∧ pre.length = j ∧ leb k x = pre ++ leb (k - j) y ∧ X = .int .u64 y ∧ i = .int .i64 j ∧ v = .slice A1 j c1 ∧ wr.ownsRow w.heap.size 5 1 (.slice A1 j c1) j (Lib.byteCells pre) ∧ Keeps (fun _ => False) w wr) (fun _ _ i _ => k - (RowKit.intOf i).toNat)
  case atStart => exact ⟨0, x, [], none, 0, Nat.zero_le _, Nat.le_refl _, rfl, rfl, rfl, rfl, rfl, World.ownsRow_nil w w.heap.size 5 1, Keeps.refl _ _⟩
  case round =>
    obtain ⟨j, y, pre, A1, c1, hj, hy, hp, he, rfl, rfl, rfl, hown, hK⟩ := hrel
    have HE := Lib.hid he
    have HP := Lib.hid hp
    clear he hp
    by_cases hlt : j < k
    · have hKa := hK.alloc (.cells #[.int .u8 ((y : Int) % 256)] 5)
      have howna := own_keeps hown ((Keeps.refl (fun _ => False) wr).alloc (.cells #[.int .u8 ((y : Int) % 256)] 5)) (fun _ _ h => h)
      go_wp2_with (at_builtin
                   refine wpList_append_rd _ rfl (.tmp 12) (.tmp 15) _ rfl w.heap.size 5 i0 _ 1 1 Try.underlying25 hi0 hz0 hz1 hz2 rfl Nat.one_pos A1 c1 j _ rfl howna (some ⟨wr.heap.size, 0, none⟩) 1 1 [.int .u8 ((y : Int) % 256)] rfl (rd_one wr 5 _) (one_val _ rfl) (by simp only [maxLen]; omega) (by omega) hKa.size ?_
                   intro A2 c2 w2 hown2 hg2 hat2)
      have hK2 := hKa.grown hg2 (fun i hi => .inr (howna.lt i (by rw [ownBlock_slice]; exact hi)).1)
      rw [byte_of, ← Lib.byteCells_append] at hown2
      go_roundw
      case rel => exact ⟨j + 1, y / 256, pre ++ [UInt8.ofNat y], A2, c2, by omega, by omega, by rw [List.length_append, HP.out]; rfl, by rw [HE.out, show k - j = (k - (j + 1)) + 1 by omega, leb_step]; simp, by go_num, by go_num, rfl, hown2, hK2⟩
      case measure => (first | (simp [RowKit.intOf]; done) | (simp [RowKit.intOf]; omega))
    · have hkn : j = k := by omega
      subst hkn
      have e : leb j x = pre := by rw [HE.out, Nat.sub_self]; simp [leb]
      go_wp2_with fail
      go_ret
      rw [e]
      exact OwnRes.mk hown hK

/-- The offsets of rows with these lengths, from s on. -/
def offB : List Nat → Nat → List UInt8
  | [], _ => []
  | k :: r, s => leb 8 (s + k) ++ offB r (s + k)
theorem offB_length : ∀ (l : List Nat) (s : Nat), (offB l s).length = 8 * l.length
  | [], _ => rfl
  | k :: r, s => by rw [offB, List.length_append, leb_length, offB_length, List.length_cons]; omega
theorem offB_snoc : ∀ (l : List Nat) (x s : Nat), offB (l ++ [x]) s = offB l s ++ leb 8 (s + l.sum + x)
  | [], x, s => by simp [offB]
  | k :: r, x, s => by rw [List.cons_append, offB, offB_snoc, offB, List.sum_cons, List.append_assoc, Nat.add_assoc s k]
theorem sum_le (l : List Nat) (k : Nat) : (l.take k).sum ≤ l.sum := by
  have h : l.sum = (l.take k).sum + (l.drop k).sum := by rw [← List.sum_append, List.take_append_drop]
  omega

set_option maxRecDepth 100000 in
set_option maxHeartbeats 2000000 in
theorem arOffsets (w : World) (A : Option Addr) (n c : Nat) (ks : List Nat) (hl : ks.length = n) (hR : Rd w 1 A n (ks.map fun x : Nat => Value.int .i64 (x : Int))) (hn : n ≤ 100000) (hs : ks.sum ≤ 1000000000) :
    Calls Try.prog 12 #[.slice A n c] w fun e w' => OwnRes w 5 (Lib.byteCells (offB ks 0)) (8 * n) e w' := by
  obtain ⟨i0, hi0, hz0, hz1, hz2⟩ := info_parts infoU8
  have HR := Lib.hid hR
  have HL := Lib.hid hl
  have HS := Lib.hid (fun k => Nat.le_trans (sum_le ks k) hs)
  clear hR hl hs
  go_enter Try.func12, Try.ntmps12
  go_wp2_with fail
  go_loopw [3, 4, 5] (fun v s i wr => ∃ (k : Nat) (A1 : Option Addr) (c1 : Nat), k ≤ n ∧ i = .int .i64 k ∧ s = .int .i64 ((ks.take k).sum : Nat) ∧ v = .slice A1 (8 * k) c1 ∧ wr.ownsRow w.heap.size 5 1 (.slice A1 (8 * k) c1) (8 * k) (Lib.byteCells (offB (ks.take k) 0)) ∧ Keeps (fun _ => False) w wr) (fun _ _ i _ => n - (RowKit.intOf i).toNat)
  case atStart => exact ⟨0, none, 0, Nat.zero_le _, rfl, rfl, rfl, World.ownsRow_nil w w.heap.size 5 1, Keeps.refl _ _⟩
  case round =>
    obtain ⟨k, A1, c1, hk, rfl, rfl, rfl, hown, hK⟩ := hrel
    by_cases hlt : k < n
    · have hkl : k < ks.length := by rw [HL.out]; exact hlt
      obtain ⟨x, hx⟩ : ∃ x, ks[k]? = some x := ⟨_, List.getElem?_eq_getElem hkl⟩
      have et : ks.take (k + 1) = ks.take k ++ [x] := by rw [List.take_add_one, hx]; rfl
      have es : (ks.take (k + 1)).sum = (ks.take k).sum + x := by rw [et]; simp
      have h1 := HS.out (k + 1)
      rw [es] at h1
      obtain ⟨ad, u, rfl, hb, hu, hcell⟩ := (HR.out.keeps hK (fun _ _ h => h)).at' hlt
      have hu' : u = .int .i64 (x : Int) := by
        rw [List.getElem?_map, hx] at hu
        injection hu with hu
        exact hu.symm
      subst hu'
      have HT := Lib.hid et
      have HES := Lib.hid es
      have HO := Lib.hid (offB_snoc (ks.take k) x 0)
      clear hu et es hx hkl
      generalize hq : (ks.take k).sum = q at *
      have HQ := Lib.hid hq
      clear hq
      have HN := Lib.hid (fun w => stNumber w (q + x) 8 (by omega) (by omega))
      have hqx : ((q : Int) + (x : Int)) = ((q + x : Nat) : Int) := by omega
      have HQX := Lib.hid hqx
      clear hqx
      go_wp2_with (first
        | (go_at_call 22
           rw [HQX.out]
           refine (HN.out _).mono ?_
           rintro e w2 ⟨A2, c2, rfl, hown2, hK2, hA2⟩
           have hK02 := hK.trans hK2 (fun _ _ h => h)
           have hown12 := own_keeps hown hK2 (fun _ _ h => h))
        | (at_builtin
           refine wpList_append_rd _ rfl (.tmp 18) (.tmp 21) _ rfl w.heap.size 5 i0 _ 1 1 Try.underlying25 hi0 hz0 hz1 hz2 rfl Nat.one_pos A1 c1 (8 * k) _ rfl hown12 A2 8 c2 _ rfl (Rd.own hown2) (byteCells_one _) (by simp only [maxLen]; omega) (by omega) hK02.size ?_
           intro A3 c3 w3 hown3 hg3 hat3))
      have hK3 := hK02.grown hg3 (fun i hi => .inr (hown12.lt i (by rw [ownBlock_slice]; exact hi)).1)
      rw [← Lib.byteCells_append] at hown3
      go_roundw
      case rel => exact ⟨k + 1, A3, c3, by omega, by go_num, by rw [HES.out]; go_num, rfl, by rw [HT.out, HO.out, Nat.zero_add]; exact hown3, hK3⟩
      case measure => (first | (simp [RowKit.intOf]; done) | (simp [RowKit.intOf]; omega))
    · have hkn : k = n := by omega
      subst hkn
      have e : ks.take k = ks := List.take_of_length_le (by rw [HL.out]; exact Nat.le_refl _)
      rw [e] at hown
      have HOW := Lib.hid hown
      clear hown e
      go_wp2_with fail
      go_ret
      exact OwnRes.mk HOW.out hK

theorem byte_one2 (n : Nat) (z : Int) (h : n < 256) (hz : (n : Int) = z) : [Value.int .u8 z] = Lib.byteCells [n.toUInt8] := by
  subst hz
  have e : n.toUInt8.toNat = n := by rw [Nat.toUInt8_eq, UInt8.toNat_ofNat']; omega
  simp [Lib.byteCells, e]
set_option maxRecDepth 100000 in
set_option maxHeartbeats 1000000 in
theorem stLength (w : World) (x : Nat) (hx : x < 18446744073709551616) :
    Calls Try.prog 36 #[.int .u64 x] w fun e w' => OwnRes w 5 (Lib.byteCells (Lib.uvarint x)) (Lib.uvarint x).length e w' := by
  obtain ⟨i0, hi0, hz0, hz1, hz2⟩ := info_parts infoU8
  have hl := Lib.uvarint_length64 hx
  clear hx
  go_enter Try.func36, Try.ntmps36
  go_wp2_with fail
  go_loopw [0, 3] (fun X V wr => ∃ (y : Nat) (pre : List UInt8) (A : Option Addr) (c : Nat), X = .int .u64 y ∧ V = .slice A pre.length c ∧ Lib.uvarint x = pre ++ Lib.uvarint y ∧ y ≤ x ∧ wr.ownsRow w.heap.size 5 1 (.slice A pre.length c) pre.length (Lib.byteCells pre) ∧ Keeps (fun _ => False) w wr) (fun X _ _ => (RowKit.intOf X).toNat)
  case atStart => exact ⟨x, [], none, 0, rfl, rfl, rfl, by omega, World.ownsRow_nil _ _ _ _, Keeps.refl _ _⟩
  case round =>
    obtain ⟨y, pre, A, c, rfl, rfl, he, hy, hown, hK⟩ := hrel
    have hp := Lib.uvarint_pos y
    have hk : pre.length < 10 := by have := congrArg List.length he; simp only [List.length_append] at this; omega
    have HE := Lib.hid he
    clear he hl
    by_cases hlt : 128 ≤ y
    · have hb : Go.bits .or .u8 ((y : Int) % 256) 128 = ((y % 128 + 128 : Nat) : Int) := by rw [Lib.u8_or128_any _ (by omega) (by omega)]; omega
      generalize hbb : y % 128 + 128 = bb at hb
      have hbl : bb < 256 := by omega
      go_wp2_with (first
        | (at_builtin
           refine wpList_append_rd _ rfl (.tmp 6) (.tmp 10) _ rfl w.heap.size 5 i0 _ 1 1 Try.underlying25 hi0 hz0 hz1 hz2 rfl Nat.one_pos A c pre.length (Lib.byteCells pre) rfl (own_keeps hown ((Keeps.refl (fun _ => False) _).alloc _) (fun _ _ h => h)) (some ⟨wr.heap.size, 0, none⟩) 1 1 (Lib.byteCells [bb.toUInt8]) rfl (Rd.whole (by exact Whole.new _ _ _) (by exact byte_one2 bb _ hbl rfl) (by rfl)) (byteCells_one _) (by simp only [maxLen]; omega) (by omega) (by have := hK.size; rw [World.size_alloc]; omega) ?_
           intro A1 c1 w1 o1 hg1 hat1
           have K1 := (hK.alloc (.cells #[.int .u8 (bb : Int)] 5)).grown hg1 (fun k hk => .inr (hown.lt k (by rw [ownBlock_slice]; exact hk)).1)
           rw [← Lib.byteCells_append] at o1))
      go_roundw
      case rel =>
        refine ⟨y / 128, pre ++ [bb.toUInt8], A1, c1, by simp, by simp, ?_, by omega, by simpa using o1, K1⟩
        rw [HE.out, Lib.uvarint_big hlt, ← hbb]; simp
      case measure => simp [RowKit.intOf]; omega
    · have hb : (y : Int) % 256 = ((y : Nat) : Int) := by omega
      have hu := Lib.uvarint_small (x := y) (by omega)
      have HU := Lib.hid hu
      clear hu
      go_wp2_with (first
        | (at_builtin
           refine wpList_append_rd _ rfl (.tmp 14) (.tmp 17) _ rfl w.heap.size 5 i0 _ 1 1 Try.underlying25 hi0 hz0 hz1 hz2 rfl Nat.one_pos A c pre.length (Lib.byteCells pre) rfl (own_keeps hown ((Keeps.refl (fun _ => False) _).alloc _) (fun _ _ h => h)) (some ⟨wr.heap.size, 0, none⟩) 1 1 (Lib.byteCells [y.toUInt8]) rfl (Rd.whole (by exact Whole.new _ _ _) (by exact byte_one2 y _ (by omega) rfl) (by rfl)) (byteCells_one _) (by simp only [maxLen]; omega) (by omega) (by have := hK.size; rw [World.size_alloc]; omega) ?_
           intro A1 c1 w1 o1 hg1 hat1
           have K1 := (hK.alloc (.cells #[.int .u8 (y : Int)] 5)).grown hg1 (fun k hk => .inr (hown.lt k (by rw [ownBlock_slice]; exact hk)).1)
           rw [← Lib.byteCells_append] at o1))
      go_ret
      rw [HE.out, HU.out]
      exact ⟨A1, c1, by simp, by simpa using o1, K1, fun k hk => (o1.lt k (by rw [ownBlock_slice]; exact hk)).1⟩

set_option maxRecDepth 100000 in
set_option maxHeartbeats 2000000 in
theorem stOf (w : World) (A : Option Addr) (n c : Nat) (xs : List ByteArray) (hl : xs.length = n) (hR : Rd w 1 A n (xs.map Value.string)) (hn : n ≤ 100000) (hx : ∀ x ∈ xs, x.size ≤ 100000) :
    Calls Try.prog 21 #[.slice A n c] w fun e w' => ∃ A' c', e = .returned (.slice A' n c') ∧ RowsV w' A' (xs.map fun x => Lib.byteCells (sl x)) ∧ Keeps (fun _ => False) w w' := by
  obtain ⟨i0, hi0, hz0, hz1, hz2⟩ := info_parts infoBsE
  have HR := Lib.hid hR
  have HL := Lib.hid hl
  have HX := Lib.hid hx
  clear hR hl hx
  go_enter Try.func21, Try.ntmps21
  go_wp2_with fail
  go_loopw [3, 4] (fun v i wr => ∃ (k : Nat) (A1 : Option Addr) (c1 : Nat) (VS : List Value), k ≤ n ∧ i = .int .i64 k ∧ v = .slice A1 k c1 ∧ wr.ownsRow w.heap.size 25 1 (.slice A1 k c1) k VS ∧ RB wr A1 VS ((xs.take k).map fun x => Lib.byteCells (sl x)) ∧ Keeps (fun _ => False) w wr) (fun _ i _ => n - (RowKit.intOf i).toNat)
  case atStart => exact ⟨0, none, 0, [], Nat.zero_le _, rfl, rfl, World.ownsRow_nil w w.heap.size 25 1, RB.nil _ _, Keeps.refl _ _⟩
  case round =>
    obtain ⟨k, A1, c1, VS, hk, rfl, rfl, hown, hRB, hK⟩ := hrel
    have HRB := Lib.hid hRB
    clear hRB
    by_cases hlt : k < n
    · obtain ⟨x, hx⟩ : ∃ x, xs[k]? = some x := ⟨_, List.getElem?_eq_getElem (by rw [HL.out]; exact hlt)⟩
      have HT := Lib.hid (show (xs.take (k + 1)).map (fun x => Lib.byteCells (sl x)) = (xs.take k).map (fun x => Lib.byteCells (sl x)) ++ [Lib.byteCells (sl x)] by rw [List.take_add_one, hx]; simp)
      obtain ⟨ad, u, rfl, hb, hu, hcell⟩ := (HR.out.keeps hK (fun _ _ h => h)).at' hlt
      have hu' : u = .string x := by
        rw [List.getElem?_map, hx] at hu
        injection hu with hu
        exact hu.symm
      subst hu'
      have hxs := HX.out x (List.mem_of_getElem? hx)
      clear hu hx
      have hcv := run_bytes_of_string (P := Try.prog) wr 9 25 5 x Try.underlying9 Try.underlying25 Try.underlying5
      generalize hcap : grownCap wr x.size 0 5 = cap at hcv
      have hR1 : Rd (wr.drew.alloc (.cells (bytesRow x cap) 5 ((bytesRow x cap).size, (bytesRow x cap).size + 1))) 1 (some ⟨wr.heap.size, 0, none⟩) (sl x).length (Lib.byteCells (sl x)) := by
        refine ⟨by simp [Lib.byteCells], fun _ => ⟨_, rfl, by simp, fun j u hu => ?_⟩⟩
        rw [add_lit', Nat.zero_add]
        refine (cell_of_row _ wr.heap.size j _ _ _ (heap_alloc_new wr.drew _)).trans ?_
        have hj : j < x.data.size := by
          have h := List.getElem?_eq_some_iff.1 hu
          obtain ⟨h, _⟩ := h
          simpa [Lib.byteCells, sl] using h
        rw [bytesRow, Array.getElem?_append_left (by simpa using hj)]
        rw [← hu]
        simp [Lib.byteCells, sl]
      have K1 := ((Keeps.refl (fun _ => False) wr).drew).alloc (.cells (bytesRow x cap) 5 ((bytesRow x cap).size, (bytesRow x cap).size + 1))
      have hz1' : (wr.drew.alloc (.cells (bytesRow x cap) 5 ((bytesRow x cap).size, (bytesRow x cap).size + 1))).heap.size = wr.heap.size + 1 := by simp
      generalize wr.drew.alloc (.cells (bytesRow x cap) 5 ((bytesRow x cap).size, (bytesRow x cap).size + 1)) = W1 at hcv hR1 K1 hz1'
      have HZ := Lib.hid hz1'
      rw [sl_length] at hR1
      have hK1 := hK.trans K1 (fun _ _ h => h)
      have hKa := hK1.alloc (.cells #[.slice (some ⟨wr.heap.size, 0, none⟩) x.size cap] 25)
      have K1a := (Keeps.refl (fun _ => False) W1).alloc (.cells #[.slice (some ⟨wr.heap.size, 0, none⟩) x.size cap] 25)
      have howna := own_keeps (own_keeps hown K1 (fun _ _ h => h)) K1a (fun _ _ h => h)
      have hRa := hR1.keeps K1a (fun _ _ h => h)
      have hA1 : ∀ q, ob A1 = some q → q < wr.heap.size := fun q hq => (hown.lt q (by rw [ownBlock_slice]; exact hq)).2
      have HCAP := Lib.hid hcap
      clear hcap hz1'
      go_wp2_with (at_builtin
                   refine wpList_append_rd _ rfl (.tmp 11) (.tmp 17) _ rfl w.heap.size 25 i0 _ 1 24 Try.underlying47 hi0 hz0 hz1 hz2 rfl Nat.one_pos A1 c1 k _ rfl howna (some ⟨W1.heap.size, 0, none⟩) 1 1 [.slice (some ⟨wr.heap.size, 0, none⟩) x.size cap] rfl (rd_one W1 25 _) (one_val _ rfl) (by simp only [maxLen]; omega) (by omega) hKa.size ?_
                   intro A2 c2 w2 hown2 hg2 hat2)
      have hK2 := hKa.grown hg2 (fun i hi => .inr (howna.lt i (by rw [ownBlock_slice]; exact hi)).1)
      have hl' : (Lib.byteCells (sl x)).length = x.size := by rw [Lib.byteCells_length, sl_length]
      have hRB2 := (((HRB.out.keeps K1).keeps K1a).snoc (xs := Lib.byteCells (sl x)) (B := some ⟨wr.heap.size, 0, none⟩) (d := cap) (by rw [hl']; exact hRa) (fun q hq => by
        simp [ob] at hq
        subst hq
        refine ⟨by have := K1.size; have := K1a.size; have := HZ.out; omega, fun e => ?_⟩
        have := hA1 _ e
        omega) hg2 hat2)
      rw [hl', ← HT.out] at hRB2
      go_roundw
      case rel => exact ⟨k + 1, A2, c2, _, by omega, by go_num, rfl, hown2, hRB2, hK2⟩
      case measure => (first | (simp [RowKit.intOf]; done) | (simp [RowKit.intOf]; omega))
    · have hkn : k = n := by omega
      subst hkn
      have e : xs.take k = xs := List.take_of_length_le (by rw [HL.out]; exact Nat.le_refl _)
      have hfin := HRB.out
      rw [e] at hfin
      have HFIN := Lib.hid (RB.rows hfin hown)
      clear hfin e
      go_wp2_with fail
      go_ret
      exact ⟨A1, c1, rfl, HFIN.out, hK⟩

set_option maxHeartbeats 400000 in
theorem stSize0 (w : World) : Calls Try.prog 35 #[.agg #[.int .i64 0, .int .i64 0]] w fun e w' => e = .returned (.int .i64 (-1)) ∧ Keeps (fun _ => False) w w' := by
  go_enter Try.func35, Try.ntmps35
  go_wp2
  go_ret
  exact ⟨rfl, (Keeps.refl (fun _ => False) w).alloc _⟩
/-- Texts, each behind its length. -/
def encB (LB : List (List UInt8)) : List UInt8 := (LB.map fun l => Lib.uvarint l.length ++ l).flatten
theorem encB_step {LB : List (List UInt8)} {k : Nat} {l : List UInt8} (h : LB[k]? = some l) : encB (LB.take (k + 1)) = encB (LB.take k) ++ Lib.uvarint l.length ++ l := by
  rw [encB, List.take_add_one, h]
  simp [encB, List.append_assoc]
theorem encB_le (LB : List (List UInt8)) (k : Nat) : (encB (LB.take k)).length ≤ (encB LB).length := by
  have := flat_le (LB.map fun l => Lib.uvarint l.length ++ l) k
  rw [← List.map_take] at this
  exact this

theorem own_base_le {w : World} {b b' : Nat} {e : TypeId} {size n : Nat} {v : Value} {xs : List Value} (h : w.ownsRow b e size v n xs) (hb : b' ≤ b) : w.ownsRow b' e size v n xs := by
  refine ⟨h.1, ?_⟩
  rcases h.2 with hn | ⟨g', cap, cur, rfl, hlo, rest⟩
  · exact .inl hn
  · exact .inr ⟨g', cap, cur, rfl, Nat.le_trans hb hlo, rest⟩

set_option maxRecDepth 100000 in
set_option maxHeartbeats 2000000 in
theorem stBytes (w : World) (A : Option Addr) (n c : Nat) (LB : List (List UInt8)) (hl : LB.length = n) (hR : RowsV w A (LB.map Lib.byteCells)) (hn : n ≤ 100000) (hx : ∀ l ∈ LB, l.length ≤ 1000000) (hb : (encB LB).length ≤ 1000000000) :
    Calls Try.prog 20 #[.agg #[.int .i64 0, .int .i64 0], .slice A n c] w fun e w' => OwnRes w 5 (Lib.byteCells (encB LB)) (encB LB).length e w' := by
  obtain ⟨i0, hi0, hz0, hz1, hz2⟩ := info_parts infoU8
  have K0 := (Keeps.refl (fun _ => False) w).alloc (.cells #[.int .i64 0, .int .i64 0] 50)
  have HR := Lib.hid (hR.keeps K0)
  have HL := Lib.hid hl
  have HX := Lib.hid hx
  have HB := Lib.hid (fun k => Nat.le_trans (encB_le LB k) hb)
  have HW0 := Lib.hid (Whole.new w 50 #[.int .i64 0, .int .i64 0])
  have HSZ := Lib.hid (fun w => stSize0 w)
  have HSZ0 := Lib.hid (show (World.heap (w.alloc (.cells #[.int .i64 0, .int .i64 0] 50))).size = w.heap.size + 1 by simp)
  have HK0 := Lib.hid K0
  clear hR hl hx hb K0
  go_enter Try.func20, Try.ntmps20
  go_wp2_with fail
  go_loopw [5, 6] (fun v i wr => ∃ (k m : Nat) (A1 : Option Addr) (c1 : Nat), k ≤ n ∧ m = (encB (LB.take k)).length ∧ i = .int .i64 k ∧ v = .slice A1 m c1 ∧ wr.ownsRow (w.heap.size + 1) 5 1 (.slice A1 m c1) m (Lib.byteCells (encB (LB.take k))) ∧ Keeps (fun _ => False) (w.alloc (.cells #[.int .i64 0, .int .i64 0] 50)) wr) (fun _ i _ => n - (RowKit.intOf i).toNat)
  case atStart => exact ⟨0, 0, none, 0, Nat.zero_le _, by simp [encB], rfl, rfl, World.ownsRow_nil _ (w.heap.size + 1) 5 1, Keeps.refl _ _⟩
  case round =>
    obtain ⟨k, m, A1, c1, hk, hm, rfl, rfl, hown, hK⟩ := hrel
    have hlow : w.heap.size + 1 ≤ wr.heap.size := by have := hK.size; rw [HSZ0.out] at this; exact this
    by_cases hlt : k < n
    · obtain ⟨l, hl⟩ : ∃ l, LB[k]? = some l := ⟨_, List.getElem?_eq_getElem (by rw [HL.out]; exact hlt)⟩
      have HT := Lib.hid (encB_step hl)
      have hll := HX.out l (List.mem_of_getElem? hl)
      have hm1 : m ≤ 1000000000 := by rw [hm]; exact HB.out k
      have hul := Lib.uvarint_length64 (x := l.length) (by omega)
      obtain ⟨ad, B, d, rfl, hlb, hcw, hRw⟩ := HR.out k (Lib.byteCells l) (by rw [List.getElem?_map, hl]; rfl)
      rw [Lib.byteCells_length] at hcw hRw
      have HC := Lib.hid (fun (w' : World) (h : Keeps (fun _ => False) (w.alloc (.cells #[.int .i64 0, .int .i64 0] 50)) w') => (h.cell (p := ad.add k) (by rw [blk_add]; exact hlb) (fun h => h)).trans hcw)
      have HRD := Lib.hid (fun (w' : World) (h : Keeps (fun _ => False) (w.alloc (.cells #[.int .i64 0, .int .i64 0] 50)) w') => hRw.keeps h (fun _ _ h => h))
      have HM := Lib.hid hm
      have hW := HW0.out.keeps hK (fun h => h)
      have hwl := hW.lt
      have b0 : wr.cell? ⟨w.heap.size, 0, none⟩ = some (.int .i64 0) := hW.cell 0
      have b1 : wr.cell? ⟨w.heap.size, 1, none⟩ = some (.int .i64 0) := hW.cell 1
      have HSL := Lib.hid (fun w => stLength w l.length (by omega))
      generalize hu : Lib.uvarint l.length = u at *
      generalize hln : l.length = ln at *
      have HLN := Lib.hid hln
      clear hl hm hu hW hln hcw hRw
      go_wp2_with (first
        | (go_at_call 35
           refine (HSZ.out _).mono ?_
           rintro e w2 ⟨rfl, K2⟩
           have hK02 := hK.trans K2 (fun _ _ h => h)
           have hown2 := own_keeps hown K2 (fun _ _ h => h)
           have hcell := HC.out w2 hK02))
      refine (HSL.out w2).mono ?_
      rintro e w3 ⟨A3, c3, rfl, hown3, K3, hA3⟩
      have hK03 := hK02.trans K3 (fun _ _ h => h)
      have hown23 := own_keeps hown2 K3 (fun _ _ h => h)
      have hlow3 : w.heap.size + 1 ≤ w3.heap.size := by have := hK03.size; rw [HSZ0.out] at this; exact this
      clear hcell
      go_wp2_with (first
        | (at_builtin
           refine wpList_append_rd _ rfl (.tmp 16) (.tmp 23) _ rfl (w.heap.size + 1) 5 i0 _ 1 1 Try.underlying25 hi0 hz0 hz1 hz2 rfl Nat.one_pos A1 c1 m _ rfl hown23 A3 u.length c3 _ rfl (Rd.own hown3) (byteCells_one _) (by simp only [maxLen]; omega) (by omega) hlow3 ?_
           intro A4 c4 w4 hown4 hg4 hat4
           have hK04 := hK03.grown hg4 (fun i hi => .inr (by rw [HSZ0.out]; exact (hown23.lt i (by rw [ownBlock_slice]; exact hi)).1))
           rw [← Lib.byteCells_append] at hown4
           have hcell4 := HC.out w4 hK04
           have hRd4 := HRD.out w4 hK04
           have hlow4 : w.heap.size + 1 ≤ w4.heap.size := by have := hK04.size; rw [HSZ0.out] at this; exact this)
        | (at_builtin
           refine wpList_append_rd _ rfl (.tmp 25) (.tmp 29) _ rfl (w.heap.size + 1) 5 i0 _ 1 1 Try.underlying25 hi0 hz0 hz1 hz2 rfl Nat.one_pos A4 c4 (m + u.length) _ rfl hown4 B ln d _ rfl hRd4 (byteCells_one _) (by simp only [maxLen]; omega) (by omega) hlow4 ?_
           intro A5 c5 w5 hown5 hg5 hat5
           have hK05 := hK04.grown hg5 (fun i hi => .inr (by rw [HSZ0.out]; exact (hown4.lt i (by rw [ownBlock_slice]; exact hi)).1))
           rw [← Lib.byteCells_append] at hown5))
      go_roundw
      case rel => exact ⟨k + 1, m + u.length + ln, A5, c5, by omega, by rw [HT.out, List.length_append, List.length_append, ← HM.out, HLN.out], by go_num, rfl, by rw [HT.out]; exact hown5, hK05⟩
      case measure => (first | (simp [RowKit.intOf]; done) | (simp [RowKit.intOf]; omega))
    · have hkn : k = n := by omega
      subst hkn
      have e : LB.take k = LB := List.take_of_length_le (by rw [HL.out]; exact Nat.le_refl _)
      rw [e] at hown hm
      subst hm
      have HOW := Lib.hid (own_base_le hown (Nat.le_succ _))
      clear hown e
      go_wp2_with fail
      go_ret
      exact OwnRes.mk HOW.out (HK0.out.trans hK (fun _ _ h => h))

theorem enc_str (xs : List ByteArray) : encB (xs.map sl) = (xs.map strB).flatten := by
  rw [encB, List.map_map]
  congr 1

set_option maxRecDepth 100000 in
set_option maxHeartbeats 1000000 in
theorem stStrings (w : World) (A : Option Addr) (n c : Nat) (xs : List ByteArray) (hl : xs.length = n) (hR : Rd w 1 A n (xs.map Value.string)) (hn : n ≤ 100000) (hx : ∀ x ∈ xs, x.size ≤ 100000) (hb : ((xs.map strB).flatten).length ≤ 1000000000) :
    Calls Try.prog 10 #[.slice A n c] w fun e w' => OwnRes w 5 (Lib.byteCells ((xs.map strB).flatten)) ((xs.map strB).flatten).length e w' := by
  have H1 := Lib.hid (stOf w A n c xs hl hR hn hx)
  have H2 := Lib.hid (fun w A c hR => stBytes w A n c (xs.map sl) (by rw [List.length_map, hl]) hR hn (fun l hl => by obtain ⟨x, hx1, rfl⟩ := List.mem_map.1 hl; rw [sl_length]; have := hx x hx1; omega) (by rw [enc_str]; exact hb))
  rw [enc_str] at H2
  have HM := Lib.hid (show (xs.map fun x => Lib.byteCells (sl x)) = (xs.map sl).map Lib.byteCells by rw [List.map_map]; rfl)
  clear hl hR hx hb
  generalize (xs.map strB).flatten = d at *
  go_enter Try.func10, Try.ntmps10
  go_wp2_with fail
  refine H1.out.mono ?_
  rintro e w1 ⟨A1, c1, rfl, hR1, K1⟩
  rw [HM.out] at hR1
  go_wp2_with fail
  refine (H2.out w1 A1 c1 hR1).mono ?_
  rintro e w2 ⟨A2, c2, rfl, hown2, K2, hA2⟩
  go_wp2_with fail
  go_ret
  exact OwnRes.mk (own_base_le hown2 K1.size) (K1.trans K2 (fun _ _ h => h))

set_option maxHeartbeats 400000 in
theorem stJoinTwo (w : World) (g : Nat) (t : TypeId) (A B : Option Addr) (n c m c2 : Nat) (l d : List UInt8) (hW : Whole w g t #[.slice A n c, .slice B m c2]) (h1 : Rd w 1 A n (Lib.byteCells l)) (h2 : Rd w 1 B m (Lib.byteCells d)) (hn : n + m ≤ 70368744177664) :
    Calls Try.prog 9 #[.slice (some ⟨g, 0, none⟩) 2 2] w fun e w' => ∃ A' c', e = .returned (.slice A' (n + m) c') ∧ w'.ownsRow w.heap.size 5 1 (.slice A' (n + m) c') (n + m) (Lib.byteCells (l ++ d)) ∧ Keeps (fun _ => False) w w' ∧ ∀ k, ob A' = some k → w.heap.size ≤ k := by
  obtain ⟨i0, hi0, hz0, hz1, hz2⟩ := info_parts infoU8
  have hlt := hW.lt
  have c0 : w.cell? ⟨g, 0, none⟩ = some (.slice A n c) := hW.cell 0
  go_enter Try.func9, Try.ntmps9
  go_wp2_with fail
  refine wp_loop_rounds 3 ?_
  rw [rounds_succ]
  go_wp2_with (first
    | (at_builtin
       refine wpList_append_rd _ rfl (.tmp 11) (.tmp 15) _ rfl w.heap.size 5 i0 _ 1 1 Try.underlying25 hi0 hz0 hz1 hz2 rfl Nat.one_pos none 0 0 (Lib.byteCells []) rfl (World.ownsRow_nil _ _ _ _) A n c (Lib.byteCells l) rfl h1 (byteCells_one _) (by simp only [maxLen]; omega) (by omega) (Nat.le_refl _) ?_
       intro A1 c1 w1 o1 hg1 hat1
       have K1 := (Keeps.refl (fun _ => False) w).grown hg1 (fun k hk => by cases hk)
       have e1 : w1.cell? ⟨g, 1, none⟩ = some (.slice B m c2) := (hW.keeps K1 (fun h => h)).cell 1
       rw [← Lib.byteCells_append, Nat.zero_add, List.nil_append] at o1
       rw [Nat.zero_add]
       clear c0))
  rw [rounds_succ]
  go_wp2_with (first
    | (at_builtin
       refine wpList_append_rd _ rfl (.tmp 11) (.tmp 15) _ rfl w.heap.size 5 i0 _ 1 1 Try.underlying25 hi0 hz0 hz1 hz2 rfl Nat.one_pos A1 c1 n (Lib.byteCells l) rfl o1 B m c2 (Lib.byteCells d) rfl (h2.keeps K1 (fun _ _ h => h)) (byteCells_one _) (by simp only [maxLen]; omega) (by omega) K1.size ?_
       intro A2 c2' w2 o2 hg2 hat2
       have K2 := K1.grown hg2 (fun k hk => .inr (o1.lt k (by rw [ownBlock_slice]; exact hk)).1)
       rw [← Lib.byteCells_append] at o2))
  rw [rounds_succ]
  go_wp2_with fail
  go_ret
  exact ⟨A2, c2', rfl, o2, K2, fun k hk => (o2.lt k (by rw [ownBlock_slice]; exact hk)).1⟩
end Go.Proofs.Ytpcjifhklofofaa
