/- The column of nothing: put, read, refused. Conditions: few rows. -/
import Derived.Test.YtllokbblmdadnaaRaw
import Derived.Test.YtllokbblmdadnaaGotC
import Derived.Test.YtllokbblmdadnaaEnc
import Derived.Test.YtllokbblmdadnaaRd4
namespace Go.Proofs.Ytllokbblmdadnaa
open Go.RowKit
theorem own_lower {w : World} {b b' : Nat} {e : TypeId} {size n : Nat} {v : Value} {xs : List Value} (h : w.ownsRow b e size v n xs) (hb : b' ≤ b) : w.ownsRow b' e size v n xs := by
  refine ⟨h.1, ?_⟩
  rcases h.2 with hn | ⟨g', cap, cur, rfl, hlo, rest⟩
  · exact .inl hn
  · exact .inr ⟨g', cap, cur, rfl, Nat.le_trans hb hlo, rest⟩

theorem own_cap {w : World} {base n c size k : Nat} {e : TypeId} {A : Option Addr} {xs : List Value} (h : w.ownsRow base e size (.slice A n c) k xs) : k ≤ c := by
  rcases h.2 with ⟨h', h0⟩ | ⟨g', cap', cur, h', _, _, hnc, _⟩
  · injection h' with h1 h2 h3
    omega
  · injection h' with h1 h2 h3
    omega

set_option maxRecDepth 100000 in
set_option maxHeartbeats 400000 in
theorem noEncode (w : World) (base bb : Nat) (A : Option Addr) (c n : Nat) (l : List UInt8) (hB : BufAt w base bb A c l) (h0 : 0 < n) (hn : n ≤ 1000) (hl : l.length ≤ 1000) :
    Calls Try.prog 78 #[.int .i64 n, .pointer (some ⟨bb, 0, none⟩)] w fun e w' => ∃ A' c', e = .returned (.tuple #[]) ∧ Put w w' base bb A A' c' (l ++ List.replicate n 0) := by
  obtain ⟨i0, hi0, hz0, hz1, hz2⟩ := info_parts infoU8
  have hn0 : ¬ (n : Int) = 0 := by omega
  go_enter Try.func78, Try.ntmps78
  go_wp2_with (first
    | (at_make
       refine wpList_make_full _ rfl (.tmp 7) (.tmp 7) _ rfl w.heap.size 5 i0 _ 1 Try.underlying48 hi0 hz0 hz1 .i64 .i64 _ _ n rfl rfl rfl rfl (by rw [hz2]; omega) (by simp only [maxLen]; omega) (Nat.le_refl _) ?_
       intro w1 hown1 hg1
       rw [made_bytes] at hown1
       have K1 := (Keeps.refl (fun _ => False) w).grown hg1 (fun k hk => by cases hk)
       have hB1 := hB.keeps K1 (fun h => h) (fun _ _ h => h)
       have hput := putRaw w1 base bb A c l (some ⟨w.heap.size, 0, none⟩) n (List.replicate n 0) hB1 (by rw [List.length_replicate]; exact Rd.own hown1) (by simp; omega)
       rw [List.length_replicate] at hput)
    | (go_at_call 105; refine hput.mono ?_; clear hput))
  rintro e w2 ⟨A2, c2, rfl, hP⟩
  go_wp2_with fail
  go_end0
  exact ⟨A2, c2, rfl, hP.behind K1⟩

theorem fNoEnc : ∀ args w, (callFunc 78 args).run Try.prog w = .ok (.enter 78 args) w := fun args w => by kernel_rfl

set_option maxRecDepth 100000 in
set_option maxHeartbeats 400000 in
theorem noAppend (w : World) (g k : Nat) (hk : k < 1000) (hW : Whole w g 109 #[.int .i64 k]) :
    Calls Try.prog 76 #[.pointer (some ⟨g, 0, none⟩), .agg #[]] w fun e w' => e = .returned (.tuple #[]) ∧ Whole w' g 109 #[.int .i64 ((k + 1 : Nat) : Int)] ∧ Keeps (fun i => i = g) w w' := by
  have hlt := hW.lt
  have c0 : w.cell? ⟨g, 0, none⟩ = some (.int .i64 k) := hW.cell 0
  have f0 := hW.frozen 0
  go_enter Try.func76, Try.ntmps76
  go_wp2_with fail
  go_end0
  rw [show ((k + 1 : Nat) : Int) = (k : Int) + 1 by simp]
  exact ⟨rfl, (hW.put 0 _).alloc _, ((Keeps.refl (fun i => i = g) w).setCell (.inl rfl) _).alloc _⟩

set_option maxRecDepth 100000 in
set_option maxHeartbeats 400000 in
theorem noPut (w : World) (n : Nat) (h0 : 0 < n) (hn : n ≤ 1000) :
    Calls Try.prog 35 #[.int .i64 n] w fun e w' => ∃ A c, e = .returned (.slice A n c) ∧ w'.ownsRow w.heap.size 5 1 (.slice A n c) n (Lib.byteCells (List.replicate n 0)) ∧ Keeps (fun _ => False) w w' ∧ ∀ k, ob A = some k → w.heap.size ≤ k := by
  have hmf : ∀ (fn : Fn) (first cap : Array Value) (w : World), (Instr.makeFunc fn first cap).run Try.prog w = .ok (.func fn first cap) w := fun _ _ _ _ => rfl
  go_enter Try.func35, Try.ntmps35
  go_wp2_with fail
  go_loopw [4] (fun i wr => ∃ k : Nat, k ≤ n ∧ i = .int .i64 k ∧ Whole wr w.heap.size 109 #[.int .i64 k] ∧ Keeps (fun _ => False) w wr) (fun i _ => n - (intOf i).toNat)
  case atStart => exact ⟨0, by omega, rfl, Whole.new _ _ _, (Keeps.refl _ _).alloc _⟩
  case round =>
    obtain ⟨k, hk, rfl, hW, hK⟩ := hrel
    have c0 : wr.cell? ⟨w.heap.size, 0, none⟩ = some (.int .i64 k) := hW.cell 0
    have hlt := hW.lt
    by_cases hkn : k < n
    · have hkn' : (k : Int) < n := by omega
      clear c0
      go_wp2_with fail
      refine (noAppend wr w.heap.size k (by omega) hW).mono ?_
      rintro e w2 ⟨rfl, hW2, hK2⟩
      go_wp2_with fail
      go_roundw
      case rel => exact ⟨k + 1, by omega, by go_num, hW2, hK.trans hK2 (fun i hi h => by omega)⟩
      case measure => simp [intOf]; omega
    · have hkn' : ¬ (k : Int) < n := by omega
      obtain rfl : k = n := by omega
      go_wp2_with fail
      have henc := encoded_any wr (List.replicate k 0) 78 #[.int .i64 k] fNoEnc (fun w1 hB1 hK1 => by
        refine (noEncode w1 wr.heap.size wr.heap.size none 0 k [] hB1 h0 hn (by simp)).mono ?_
        rintro e w2 ⟨A, c, rfl, hP⟩
        exact ⟨rfl, A, c, hP⟩)
      rw [List.length_replicate] at henc
      refine henc.mono ?_
      rintro e w3 ⟨A, c, rfl, hown, hK3, hA⟩
      go_wp2_with fail
      go_ret
      refine ⟨A, c, rfl, ?_, hK.trans hK3 (fun _ _ h => h), fun i hi => Nat.le_trans hK.size (hA i hi)⟩
      exact own_lower hown hK.size

set_option maxRecDepth 100000 in
set_option maxHeartbeats 400000 in
theorem noDecode_ok (w : World) (base rb bb g : Nat) (D R : Option Nat) (x : Int) (n : Nat) (l rest : List UInt8) (hl : l.length = n) (h0 : 0 < n) (hn : n ≤ 1000) (hW : Whole w g 109 #[.int .i64 x]) (hD : D ≠ some g) (hR : RdrOn w base rb bb D R (l ++ rest)) :
    Calls Try.prog 81 #[.pointer (some ⟨g, 0, none⟩), .pointer (some ⟨rb, 0, none⟩), .int .i64 n] w fun e w' => e = .returned .nilIface ∧ (∃ R', RdrOn w' base rb bb D R' rest) ∧ Whole w' g 109 #[.int .i64 n] ∧ Keeps (RdrX (fun i => i = g) rb bb R) w w' := by
  have hlt := hW.lt
  have hn0 : ¬ (n : Int) = 0 := by omega
  have c0 : w.cell? ⟨g, 0, none⟩ = some (.int .i64 x) := hW.cell 0
  have f0 := hW.frozen 0
  have hap := hR.apart hW (by decide) (by decide) (by decide)
  have k1 : Keeps (fun i => i = g) w (w.setCell ⟨g, 0, none⟩ (.int .i64 n)) := (Keeps.refl (fun i => i = g) w).setCell (.inl rfl) _
  have hW1 := hW.put 0 (.int .i64 n)
  have hR1 := hR.keeps k1 (fun h => hap (.inl h.symm)) (fun h => hap (.inr (.inl h.symm))) (fun i hi h => hap (.inr (.inr (h ▸ hi)))) (fun i hi h => hD (h ▸ hi))
  go_enter Try.func81, Try.ntmps81
  go_wp2_with fail
  refine (readRaw_ok _ base rb bb D R l rest n hl hR1 (by omega)).mono ?_
  rintro e w2 ⟨A, c, rfl, hown, hG⟩
  obtain ⟨R2, hR2, hS2⟩ := hG.on
  have hap1 := hR1.apart hW1 (by decide) (by decide) (by decide)
  have hW2 := hW1.keeps hG.keeps hap1
  go_wp2_with fail
  go_ret
  exact ⟨rfl, ⟨R2, hR2⟩, hW2, RdrX.step (RdrX.store (Keeps.refl _ _) k1) (.inl rfl) hG.keeps⟩

set_option maxRecDepth 100000 in
set_option maxHeartbeats 400000 in
theorem noDecode_err (w : World) (base rb bb g : Nat) (D R : Option Nat) (x : Int) (n : Nat) (l : List UInt8) (hl : l.length < n) (hW : Whole w g 109 #[.int .i64 x]) (hD : D ≠ some g) (hR : RdrOn w base rb bb D R l) :
    Calls Try.prog 81 #[.pointer (some ⟨g, 0, none⟩), .pointer (some ⟨rb, 0, none⟩), .int .i64 n] w fun e w' => (∃ v, e = .returned v ∧ IsErr v) ∧ Keeps (RdrX (fun i => i = g) rb bb R) w w' := by
  have hlt := hW.lt
  have hn0 : ¬ (n : Int) = 0 := by omega
  have c0 : w.cell? ⟨g, 0, none⟩ = some (.int .i64 x) := hW.cell 0
  have f0 := hW.frozen 0
  have hap := hR.apart hW (by decide) (by decide) (by decide)
  have k1 : Keeps (fun i => i = g) w (w.setCell ⟨g, 0, none⟩ (.int .i64 n)) := (Keeps.refl (fun i => i = g) w).setCell (.inl rfl) _
  have hR1 := hR.keeps k1 (fun h => hap (.inl h.symm)) (fun h => hap (.inr (.inl h.symm))) (fun i hi h => hap (.inr (.inr (h ▸ hi)))) (fun i hi h => hD (h ▸ hi))
  go_enter Try.func81, Try.ntmps81
  go_wp2_with fail
  refine (readRaw_err _ base rb bb D R l n hR1 hl).mono ?_
  rintro e w2 ⟨v, rfl, ⟨a, rfl⟩, hG⟩
  go_wp2_with (go_at_call 108; go_in)
  go_ret
  exact ⟨⟨_, rfl, ⟨_, rfl⟩⟩, (RdrX.step (RdrX.store (Keeps.refl _ _) k1) (.inl rfl) hG.keeps).trans ((Keeps.refl (fun _ => False) _).alloc _) (fun _ _ h => h.elim)⟩

theorem fNoDec : ∀ args w, (callFunc 80 args).run Try.prog w = .ok (.enter 80 args) w := fun args w => by kernel_rfl

set_option maxRecDepth 100000 in
set_option maxHeartbeats 400000 in
theorem noRead_ok (w : World) (A : Option Addr) (c n m : Nat) (l rest d : List UInt8) (hl : l.length = n) (hm : rest.length = m) (h0 : 0 < n) (hn : n ≤ 1000) (hd : d = l ++ rest) (hR : Rd w 1 A (n + m) (Lib.byteCells d)) (hc : n + m ≤ c) (hA : ∀ i, ob A = some i → i < w.heap.size) :
    Calls Try.prog 36 #[.slice A (n + m) c, .int .i64 n] w fun e w' => e = .returned (.tuple #[.int .i64 n, .int .i64 m, .bool true]) ∧ Keeps (fun _ => False) w w' := by
  have hmf : ∀ (fn : Fn) (first cap : Array Value) (w : World), (Instr.makeFunc fn first cap).run Try.prog w = .ok (.func fn first cap) w := fun _ _ _ _ => rfl
  have hdl : d.length = n + m := by rw [hd, List.length_append, hl, hm]
  have hB0 := Whole.new w 3 #[.int .i64 n]
  have hI0 := Whole.new (w.alloc (.cells #[.int .i64 n] 3)) 109 #[.int .i64 0]
  have hB1 := hB0.alloc (.cells #[.int .i64 0] 109)
  have k0 := ((Keeps.refl (fun _ => False) w).alloc (.cells #[.int .i64 n] 3)).alloc (.cells #[.int .i64 0] 109)
  have hR0 := (hR.alloc (.cells #[.int .i64 n] 3)).alloc (.cells #[.int .i64 0] 109)
  have hgot := got_okC ((w.alloc (.cells #[.int .i64 n] 3)).alloc (.cells #[.int .i64 0] 109)) A c d rest (by rw [hdl]; exact hR0) (by omega) (fun i hi => by have := hA i hi; simp; omega) 80 #[.pointer (some ⟨w.heap.size + 1, 0, none⟩), .pointer (some ⟨w.heap.size, 0, none⟩)] fNoDec (RdrX (fun i => i = w.heap.size + 1) (w.heap.size + 1 + 1 + 1 + 1) (w.heap.size + 1 + 1 + 1) none) ?hS (fun w2 => Whole w2 (w.heap.size + 1) 109 #[.int .i64 n]) ?hcall
  case hS =>
    rw [World.size_alloc, World.size_alloc]
    rintro (h | h | h | h)
    · omega
    · omega
    · omega
    · cases h
  case hcall =>
    intro w1 hR1 hK1
    rw [World.size_alloc, World.size_alloc] at hR1 ⊢
    rw [World.size_alloc] at hI0
    have hI1 := hI0.keeps hK1 (fun h => h)
    have hB2 := hB1.keeps hK1 (fun h => h)
    have b0 : w1.cell? ⟨w.heap.size, 0, none⟩ = some (.int .i64 n) := hB2.cell 0
    have bl := hB2.lt
    have hD : ob A ≠ some (w.heap.size + 1) := fun h => by have := hA _ h; omega
    rw [hd] at hR1
    have hdec := noDecode_ok w1 _ _ _ (w.heap.size + 1) (ob A) none 0 n l rest hl h0 hn hI1 hD hR1
    clear hR hR0 hR1 hB0 hB1 hI0 k0
    show Calls Try.prog 80 #[.pointer (some ⟨w.heap.size + 1 + 1 + 1 + 1, 0, none⟩), .pointer (some ⟨w.heap.size + 1, 0, none⟩), .pointer (some ⟨w.heap.size, 0, none⟩)] w1 _
    go_enter Try.func80, Try.ntmps80
    go_wp2_with fail
    refine hdec.mono ?_
    rintro e w2 ⟨rfl, h1, h2, h3⟩
    go_wp2_with fail
    go_ret
    exact ⟨rfl, h1, h3, h2⟩
  rw [hdl, hm] at hgot
  go_enter Try.func36, Try.ntmps36
  go_wp2_with fail
  refine hgot.mono ?_
  clear hgot
  rintro e w3 ⟨w2, rfl, hI2, hK2, hK3⟩
  rw [World.size_alloc, World.size_alloc] at hK3
  have hI3 := hI2.keeps hK3 (by omega)
  have c0 : w3.cell? ⟨w.heap.size + 1, 0, none⟩ = some (.int .i64 n) := hI3.cell 0
  go_wp2_with (go_at_call 82; go_in)
  refine bodyPost_ret (results_tmp3 rfl _ _ _) rfl ⟨rfl, ?_⟩
  refine (k0.trans hK2 ?_).trans hK3 ?_
  · rintro i hi (h | h | h | h)
    · omega
    · omega
    · omega
    · cases h
  · intro i hi h
    omega
set_option maxRecDepth 100000 in
set_option maxHeartbeats 400000 in
theorem noRead_err (w : World) (A : Option Addr) (c n m : Nat) (d : List UInt8) (hdl : d.length = m) (hmn : m < n) (hR : Rd w 1 A m (Lib.byteCells d)) (hc : m ≤ c) (hA : ∀ i, ob A = some i → i < w.heap.size) :
    Calls Try.prog 36 #[.slice A m c, .int .i64 n] w fun e w' => e = .returned (.tuple #[.int .i64 0, .int .i64 0, .bool false]) ∧ Keeps (fun _ => False) w w' := by
  have hmf : ∀ (fn : Fn) (first cap : Array Value) (w : World), (Instr.makeFunc fn first cap).run Try.prog w = .ok (.func fn first cap) w := fun _ _ _ _ => rfl
  have hB0 := Whole.new w 3 #[.int .i64 n]
  have hI0 := Whole.new (w.alloc (.cells #[.int .i64 n] 3)) 109 #[.int .i64 0]
  have hB1 := hB0.alloc (.cells #[.int .i64 0] 109)
  have k0 := ((Keeps.refl (fun _ => False) w).alloc (.cells #[.int .i64 n] 3)).alloc (.cells #[.int .i64 0] 109)
  have hR0 := (hR.alloc (.cells #[.int .i64 n] 3)).alloc (.cells #[.int .i64 0] 109)
  have hgot := got_errC ((w.alloc (.cells #[.int .i64 n] 3)).alloc (.cells #[.int .i64 0] 109)) A c d (by rw [hdl]; exact hR0) (by omega) (fun i hi => by have := hA i hi; simp; omega) 80 #[.pointer (some ⟨w.heap.size + 1, 0, none⟩), .pointer (some ⟨w.heap.size, 0, none⟩)] fNoDec (RdrX (fun i => i = w.heap.size + 1) (w.heap.size + 1 + 1 + 1 + 1) (w.heap.size + 1 + 1 + 1) none) ?hS (fun w2 => True) ?hcall
  case hS =>
    rw [World.size_alloc, World.size_alloc]
    rintro (h | h | h | h)
    · omega
    · omega
    · omega
    · cases h
  case hcall =>
    intro w1 hR1 hK1
    rw [World.size_alloc, World.size_alloc] at hR1 ⊢
    rw [World.size_alloc] at hI0
    have hI1 := hI0.keeps hK1 (fun h => h)
    have hB2 := hB1.keeps hK1 (fun h => h)
    have b0 : w1.cell? ⟨w.heap.size, 0, none⟩ = some (.int .i64 n) := hB2.cell 0
    have bl := hB2.lt
    have hD : ob A ≠ some (w.heap.size + 1) := fun h => by have := hA _ h; omega
    have hdec := noDecode_err w1 _ _ _ (w.heap.size + 1) (ob A) none 0 n d (by omega) hI1 hD hR1
    clear hR hR0 hR1 hB0 hB1 hI0 k0
    show Calls Try.prog 80 #[.pointer (some ⟨w.heap.size + 1 + 1 + 1 + 1, 0, none⟩), .pointer (some ⟨w.heap.size + 1, 0, none⟩), .pointer (some ⟨w.heap.size, 0, none⟩)] w1 _
    go_enter Try.func80, Try.ntmps80
    go_wp2_with fail
    refine hdec.mono ?_
    rintro e w2 ⟨⟨v, rfl, ⟨a, rfl⟩⟩, h3⟩
    go_wp2_with fail
    go_ret
    exact ⟨⟨_, rfl, ⟨_, rfl⟩⟩, h3, trivial⟩
  rw [hdl] at hgot
  go_enter Try.func36, Try.ntmps36
  go_wp2_with fail
  refine hgot.mono ?_
  clear hgot
  rintro e w3 ⟨w2, rfl, _, hK2, hK3⟩
  rw [World.size_alloc, World.size_alloc] at hK3
  go_wp2_with fail
  refine bodyPost_ret (results_tmp3 rfl _ _ _) rfl ⟨rfl, ?_⟩
  refine (k0.trans hK2 ?_).trans hK3 ?_
  · rintro i hi (h | h | h | h)
    · omega
    · omega
    · omega
    · cases h
  · intro i hi h
    omega


set_option maxRecDepth 100000 in
set_option maxHeartbeats 1000000 in
theorem stnothing (x y : Nat) (hx : x < 256) (hy : y < 256) (w : World) :
    Calls Try.prog 10 #[.int .u8 x, .int .u8 y] w fun e w' => e = .returned (.bool true) ∧ Below w.heap.size w w' := by
  obtain ⟨i0, hi0, hz0, hz1, hz2⟩ := info_parts infoU8
  obtain ⟨q, hq, hq2⟩ : ∃ q : Nat, (x : Int) % 60 = (q : Int) ∧ q < 60 := ⟨x % 60, by omega, by omega⟩
  obtain ⟨m, hm, hm2⟩ : ∃ q : Nat, (y : Int) % 61 = (q : Int) ∧ q < 61 := ⟨y % 61, by omega, by omega⟩
  have hq3 : (1 : Int) + (q : Int) = ((q + 1 : Nat) : Int) := by omega
  have hq4 : ((q + 1 : Nat) : Int) - 1 = (q : Int) := by omega
  generalize hn : q + 1 = n at hq3 hq4
  go_enter Try.func10, Try.ntmps10
  go_wp2_with fail
  refine (noPut w n (by omega) (by omega)).mono ?_
  rintro e w1 ⟨A1, c1, rfl, hown1, hK1, hA1⟩
  go_wp2_with (first
    | (at_make
       refine wpList_make_full _ rfl (.tmp 25) (.tmp 25) _ rfl w1.heap.size 5 i0 _ 1 Try.underlying48 hi0 hz0 hz1 .i64 .i64 _ _ m rfl rfl rfl rfl (by rw [hz2]; omega) (by simp only [maxLen]; omega) (Nat.le_refl _) ?_
       intro w2 hown2 hg2
       rw [made_bytes] at hown2
       have K2 := (Keeps.refl (fun _ => False) w1).grown hg2 (fun k hk => by cases hk)
       have hK12 := hK1.trans K2 (fun _ _ h => h)
       have hown12 := own_keeps hown1 K2 (fun _ _ h => h))
    | (go_at_call 37
       refine (stJoin2 _ w2.heap.size _ A1 _ n c1 m m (List.replicate n 0) (List.replicate m 0) (by exact Whole.new _ _ _) (by exact (Rd.own hown12).alloc _) (by exact (Rd.own hown2).alloc _) (by omega)).mono ?_
       rintro e w3 ⟨A3, c3, rfl, hown3, hK3, hA3⟩
       have hK13 := (hK12.alloc _).trans hK3 (fun _ _ h => h))
    | (at_make
       refine wpList_make_full _ rfl (.tmp 36) (.tmp 36) _ rfl w4.heap.size 5 i0 _ 1 Try.underlying48 hi0 hz0 hz1 .i64 .i64 _ _ q rfl rfl rfl rfl (by rw [hz2]; omega) (by simp only [maxLen]; omega) (Nat.le_refl _) ?_
       intro w5 hown5 hg5
       rw [made_bytes] at hown5
       have hK15 := hK14.grown hg5 (fun k hk => by cases hk))
    | (go_at_call 36
       refine (noRead_err w5 (some ⟨w4.heap.size, 0, none⟩) q n q (List.replicate q 0) (by simp) (by omega) (Rd.own hown5) (Nat.le_refl _) (fun i hi => (hown5.lt i (by rw [ownBlock_slice]; exact hi)).2)).mono ?_
       rintro e w6 ⟨rfl, hK6⟩
       have hK16 := hK15.trans hK6 (fun _ _ h => h))
    | (go_at_call 36
       refine (noRead_ok w3 A3 c3 n m (List.replicate n 0) (List.replicate m 0) _ (by simp) (by simp) (by omega) (by omega) rfl (Rd.own hown3) (own_cap hown3) (fun i hi => (hown3.lt i (by rw [ownBlock_slice]; exact hi)).2)).mono ?_
       rintro e w4 ⟨rfl, hK4⟩
       have hK14 := hK13.trans hK4 (fun _ _ h => h)))
  go_ret
  exact ⟨rfl, hK16.below (Nat.le_refl _) (fun _ h => h.elim)⟩
end Go.Proofs.Ytllokbblmdadnaa
