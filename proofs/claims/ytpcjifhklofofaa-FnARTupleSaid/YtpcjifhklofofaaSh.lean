/- ARReadTuple: strings, numbers and arrays of strings read of a tuple. Conditions: the bytes are there, at least one row; sizes far below the machine's. -/
import Derived.Test.YtpcjifhklofofaaSg
import Derived.Test.YtpcjifhklofofaaEs
import Derived.Deep.RegionHeldLaw
import Derived.Deep.RegionHeld3
namespace Go.Proofs.Ytpcjifhklofofaa
open Go.RowKit Go.Lib
set_option linter.unusedVariables false
def sv (x : List UInt8) : Value := .string ⟨x.toArray⟩
def TupGot (w : World) (LA : List (List UInt8)) (LB : List Nat) (LC : List (List ByteArray)) (n m : Nat) (e : Ending) (w' : World) : Prop := ∃ T1 c1 T2 c2 T3 c3 VS, e = .returned (.tuple #[.slice T1 n c1, .slice T2 n c2, .slice T3 n c3, .int .i64 (m : Int), .bool true]) ∧ Rt w w' T1 n c1 (LA.map sv) T2 n c2 (nv LB) T3 n c3 VS (LC.map fun X => X.map Value.string)
theorem infoSlS : (Try.prog.info? 22).map (fun i => (i.zero, i.size, i.bytes)) = some (some (.slice none 0 0), 1, 24) := by kernel_rfl
theorem ArrAt.base_leA {w : World} {b b' ga gs ko c d : Nat} {O A B : Option Addr} {RR : List (List ByteArray)} (h : ArrAt w b ga gs O ko A c B d RR) (hb : b' ≤ b) : ArrAt w b' ga gs O ko A c B d RR := ⟨h.blk, own_base_le h.off hb, ⟨h.col.blk, own_base_le h.col.buf hb, own_base_le h.col.pos hb, Nat.le_trans hb h.col.lo⟩, Nat.le_trans hb h.lo⟩
/-- What the loop knows of the columns. -/
structure TC (w : World) (base gx gy ga gs : Nat) (A : Option Addr) (c : Nat) (B : Option Addr) (cB : Nat) (LA : List (List UInt8)) (Y : Option Addr) (cy : Nat) (LB : List Nat) (O : Option Addr) (ko : Nat) (A3 : Option Addr) (c3 : Nat) (B3 : Option Addr) (d3 : Nat) (LC : List (List ByteArray)) : Prop where
  x : ColAt w base gx A c B cB LA
  y : NumAt w base gy Y cy LB
  z : ArrAt w base ga gs O ko A3 c3 B3 d3 LC
theorem TC.new {w w' : World} {base gx gy ga gs c cB cy ko c3 d3 : Nat} {A B Y O A3 B3 : Option Addr} {LA : List (List UInt8)} {LB : List Nat} {LC : List (List ByteArray)} (h : TC w base gx gy ga gs A c B cB LA Y cy LB O ko A3 c3 B3 d3 LC) (hk : Keeps (fun _ => False) w w') : TC w' base gx gy ga gs A c B cB LA Y cy LB O ko A3 c3 B3 d3 LC := ⟨h.x.new hk, h.y.new hk, h.z.new hk⟩
theorem TC.cells {w : World} {base gx gy ga gs c cB cy ko c3 d3 fA n : Nat} {A B Y O A3 B3 : Option Addr} {LA : List (List UInt8)} {LB : List Nat} {LC : List (List ByteArray)} (h : TC w base gx gy ga gs A c B cB LA Y cy LB O ko A3 c3 B3 d3 LC) (hf : LA.flatten.length = fA) (la : LA.length = n) (lb : LB.length = n) (lc : LC.length = n) : w.cell? ⟨gx, 0, none⟩ = some (.slice A fA c) ∧ w.cell? ⟨gx, 1, none⟩ = some (.slice B n cB) ∧ w.cell? ⟨gy, 0, none⟩ = some (.slice Y n cy) ∧ w.cell? ⟨ga, 0, none⟩ = some (.slice O n ko) ∧ w.cell? ⟨ga, 1, none⟩ = some (.iface 54 (.pointer (some ⟨gs, 0, none⟩))) := by
  have h1 := h.x.blk.cell 0
  have h2 := h.x.blk.cell 1
  have h3 := h.y.blk.cell 0
  have h4 := h.z.blk.cell 0
  have h5 := h.z.blk.cell 1
  rw [hf] at h1
  rw [la] at h2
  rw [lb] at h3
  rw [lc] at h4
  exact ⟨h1, h2, h3, h4, h5⟩
set_option maxRecDepth 100000 in
set_option maxHeartbeats 8000000 in
theorem readTuple (w : World) (E : Option Addr) (cE : Nat) (LA : List (List UInt8)) (LB : List Nat) (LC : List (List ByteArray)) (n f len : Nat) (d l : List UInt8) (h0 : 0 < n) (hn : n ≤ 1000) (la : LA.length = n) (lb : LB.length = n) (lc : LC.length = n) (hFA : LA.flatten.length ≤ 10000000) (hx : ∀ x ∈ LB, x < 4294967296) (hfl : LC.flatten.length = f) (f0 : 0 < f) (hf : f ≤ 1000) (hFC : (LC.flatten.map sl).flatten.length ≤ 10000000)
    (hL : l = encB LA ++ (u32s LB ++ (arrB LC ++ d))) (hlen : l.length = len) (hR : Rd w 1 E len (Lib.byteCells l)) (hc : len ≤ cE) (hE : ∀ i, ob E = some i → i < w.heap.size) :
    Calls Try.prog 16 #[.slice E len cE, .int .i64 (n : Int)] w (TupGot w LA LB LC n d.length) := by
  obtain ⟨i0, hi0, hz0, hz1, hz2⟩ := info_parts infoStrE
  obtain ⟨j0, hj0, hj1, hj2, hj3⟩ := info_parts infoN
  obtain ⟨l0, hl0, hl1, hl2, hl3⟩ := info_parts infoSlS
  subst hlen
  have K0 := (((Keeps.refl (fun _ => False) w).alloc (.cells #[.bool false] 4)).alloc (.cells #[.slice none 0 0, .slice none 0 0] 57)).alloc (.cells #[.slice none 0 0] 59)
  have hX0 := (colNew (w.alloc (.cells #[.bool false] 4)) (base := w.heap.size) (by simp)).new ((Keeps.refl (fun _ => False) _).alloc (.cells #[.slice none 0 0] 59))
  have hY0 := numNew ((w.alloc (.cells #[.bool false] 4)).alloc (.cells #[.slice none 0 0, .slice none 0 0] 57)) (base := w.heap.size) (by simp; omega)
  have hB0 := ((Whole.new w 4 #[.bool false]).alloc (.cells #[.slice none 0 0, .slice none 0 0] 57)).alloc (.cells #[.slice none 0 0] 59)
  have HN := Lib.hid (strsNew (((w.alloc (.cells #[.bool false] 4)).alloc (.cells #[.slice none 0 0, .slice none 0 0] 57)).alloc (.cells #[.slice none 0 0] 59)))
  simp only [World.size_alloc] at hX0 hY0
  have HK0 := Lib.hid K0
  have HX0 := Lib.hid hX0
  have HY0 := Lib.hid hY0
  have HB0 := Lib.hid hB0
  have HR := Lib.hid hR
  have HE := Lib.hid hE
  have HLL := Lib.hid hL
  have HA := Lib.hid la
  have HB := Lib.hid lb
  have HC := Lib.hid lc
  have HFA := Lib.hid hFA
  have HX := Lib.hid hx
  have HFL := Lib.hid hfl
  have HFC := Lib.hid hFC
  clear K0 hX0 hY0 hB0 hR hE hL la lb lc hFA hx hfl hFC
  go_enter_defers Try.func16, Try.ntmps16
  go_wp2_with fail
  refine HN.out.mono ?_
  rintro e w1 ⟨ga, gs, rfl, K1, hZ⟩
  simp only [World.size_alloc] at hZ
  have hW1 := K1.size
  simp only [World.size_alloc] at hW1
  have HRD := Lib.hid (newRdr w1 E cE l (HR.out.keeps (HK0.out.trans K1 (fun _ _ h => h)) (fun _ _ h => h)) hc (fun i hi => by have := HE.out i hi; omega))
  have HX1 := Lib.hid (HX0.out.new K1)
  have HY1 := Lib.hid (HY0.out.new K1)
  have HB1 := Lib.hid (HB0.out.keeps K1 (fun h => h))
  have HK1 := Lib.hid (HK0.out.trans K1 (fun _ _ h => h))
  have HZ1 := Lib.hid hZ
  clear K1 hZ
  generalize hlen : l.length = len at *
  go_wp2_with fail
  refine HRD.out.mono ?_
  rintro e w2 ⟨rfl, hRd, K2, hs2⟩
  have zl := HZ1.out.blk.lt
  have zs := HZ1.out.col.blk.lt
  have zb := HZ1.out.lo
  have zc := HZ1.out.col.lo
  have zn := HZ1.out.blk.differ HZ1.out.col.blk (by decide)
  have K3 := (Keeps.refl (fun _ => False) w2).alloc (.cells #[.iface 54 (.pointer (some ⟨w.heap.size + 1, 0, none⟩)), .iface 58 (.pointer (some ⟨w.heap.size + 1 + 1, 0, none⟩)), .iface 60 (.pointer (some ⟨ga, 0, none⟩))] 90)
  have K23 := K2.trans K3 (fun _ _ h => h)
  have hUW := Whole.new w2 90 #[.iface 54 (.pointer (some ⟨w.heap.size + 1, 0, none⟩)), .iface 58 (.pointer (some ⟨w.heap.size + 1 + 1, 0, none⟩)), .iface 60 (.pointer (some ⟨ga, 0, none⟩))]
  have hU : Rd _ 1 (some ⟨w2.heap.size, 0, none⟩) 3 [.iface 54 (.pointer (some ⟨w.heap.size + 1, 0, none⟩)), .iface 58 (.pointer (some ⟨w.heap.size + 1 + 1, 0, none⟩)), .iface 60 (.pointer (some ⟨ga, 0, none⟩))] := Rd.whole hUW rfl rfl
  have HRC := Lib.hid (readCols _ w.heap.size (w1.heap.size + 1) w1.heap.size (w.heap.size + 1) (w.heap.size + 1 + 1) ga gs (ob E) LA LB LC d (some ⟨w2.heap.size, 0, none⟩) 3 n f
    ⟨by simp; omega, by simp; omega, by simp; omega, by simp; omega, by simp; omega, by simp; omega, by omega, by omega, by omega, by omega, HE.out, ⟨by omega, by omega, by omega, by omega, by omega⟩, ⟨by omega, by omega, by omega, by omega⟩, ⟨zn, by omega, by omega⟩, ⟨by omega, by omega⟩⟩ hU
    (fun i hi => by injection hi with hi; simp only at hi; omega) ⟨HX1.out.new K23, HY1.out.new K23, (HZ1.out.base_leA (by omega)).new K23, by rw [← HLL.out]; exact (hRd.base_le (by omega)).new K3, (fun i hi => nomatch hi), (fun i hi => nomatch hi), Keeps.refl _ _⟩ h0 hn HA.out HB.out HC.out HFA.out HX.out HFL.out f0 hf HFC.out)
  have HKU := Lib.hid (HK1.out.trans K23 (fun _ _ h => h))
  have HBU := Lib.hid (HB1.out.keeps K23 (fun h => h))
  clear hRd K2 K3 K23 hUW hU hs2
  go_wp2_with fail
  refine HRC.out.mono ?_
  rintro e w3 ⟨rfl, A, c, B, cB, R, Y, cy, O, ko, A3, c3, B3, d3, hT⟩
  have HTC := Lib.hid (show TC w3 w.heap.size (w.heap.size + 1) (w.heap.size + 1 + 1) ga gs A c B cB LA Y cy LB O ko A3 c3 B3 d3 LC from ⟨hT.x, hT.y, hT.z⟩)
  have HR3 := Lib.hid hT.r
  have hb3 := HBU.out.keeps hT.kp (by omega)
  have HK3 := Lib.hid (HKU.out.trans hT.kp (fun i hi e => by omega))
  have HB3 := Lib.hid hb3
  obtain ⟨fA, hfA⟩ : ∃ fA, LA.flatten.length = fA := ⟨_, rfl⟩
  have HfA := Lib.hid hfA
  have HFB := Lib.hid (show fA ≤ 10000000 by have := HFA.out; omega)
  have hgs := HK3.out.size
  clear hT hb3 hfA zl zs zb zc zn hW1
  have HRW1 := Lib.hid (show ∀ (W : World) (k : Nat) (x : List UInt8), TC W w.heap.size (w.heap.size + 1) (w.heap.size + 1 + 1) ga gs A c B cB LA Y cy LB O ko A3 c3 B3 d3 LC → LA[k]? = some x → Calls Try.prog 31 #[.agg #[.slice A fA c, .slice B n cB], .int .i64 (k : Int)] W fun e w' => e = .returned (.string ⟨x.toArray⟩) ∧ Keeps (fun _ => False) W w' from fun W k x h hx => by
    have h1 := strRow W _ (w.heap.size + 1) A c B cB LA k x h.x hx (by rw [HfA.out]; have := HFB.out; omega) (by rw [HA.out]; omega)
    rwa [HfA.out, HA.out] at h1)
  have HRW2 := Lib.hid (show ∀ (W : World) (k x : Nat), TC W w.heap.size (w.heap.size + 1) (w.heap.size + 1 + 1) ga gs A c B cB LA Y cy LB O ko A3 c3 B3 d3 LC → LB[k]? = some x → Calls Try.prog 32 #[.slice Y n cy, .int .i64 (k : Int)] W fun e w' => e = .returned (.int .u32 (x : Int)) ∧ W = w' from fun W k x h hx => by
    have ho := Rd.own h.y.own
    rw [HB.out] at ho
    exact numRow W Y n cy k x LB ho (by have := (List.getElem?_eq_some_iff.1 hx).1; rw [HB.out] at this; exact this) hx)
  have HRW3 := Lib.hid (show ∀ (W : World) (k : Nat) (X : List ByteArray), TC W w.heap.size (w.heap.size + 1) (w.heap.size + 1 + 1) ga gs A c B cB LA Y cy LB O ko A3 c3 B3 d3 LC → LC[k]? = some X → Calls Try.prog 33 #[.agg #[.slice O n ko, .iface 54 (.pointer (some ⟨gs, 0, none⟩))], .int .i64 (k : Int)] W fun e w' => SRowRes W X e w' from fun W k X h hx => by
    have h1 := saRow W _ ga gs O ko A3 c3 B3 d3 LC k X h.z hx (by rw [HC.out]; omega) (by rw [HFL.out]; omega) (by have := HFC.out; omega)
    rwa [HC.out] at h1)
  have HCE := Lib.hid (fun (W : World) (h : TC W w.heap.size (w.heap.size + 1) (w.heap.size + 1 + 1) ga gs A c B cB LA Y cy LB O ko A3 c3 B3 d3 LC) => h.cells (n := n) (fA := fA) HfA.out HA.out HB.out HC.out)
  go_wp2_with fail
  go_loopg [4, 5, 6, 13] n (fun gk a b cc i wr => ∃ (k : Nat) (T1 : Option Addr) (t1 : Nat) (T2 : Option Addr) (t2 : Nat) (T3 : Option Addr) (t3 : Nat) (VS : List Value), k ≤ n ∧ gk = n - k ∧ i = .int .i64 k ∧ a = .slice T1 k t1 ∧ b = .slice T2 k t2 ∧ cc = .slice T3 k t3 ∧
    Rt w3 wr T1 k t1 ((LA.take k).map sv) T2 k t2 (nv (LB.take k)) T3 k t3 VS ((LC.take k).map fun X => X.map Value.string))
  case atStart => exact ⟨0, none, 0, none, 0, none, 0, [], Nat.zero_le _, rfl, rfl, rfl, rfl, rfl, Rt.nil w3⟩
  case round =>
    obtain ⟨k, T1, t1, T2, t2, T3, t3, VS, hk, hgk, rfl, rfl, rfl, rfl, hRt⟩ := hrel
    by_cases hlt : k < n
    · obtain ⟨xa, hxa⟩ : ∃ x, LA[k]? = some x := ⟨_, List.getElem?_eq_getElem (by rw [HA.out]; exact hlt)⟩
      obtain ⟨xb, hxb⟩ : ∃ x, LB[k]? = some x := ⟨_, List.getElem?_eq_getElem (by rw [HB.out]; exact hlt)⟩
      obtain ⟨xc, hxc⟩ : ∃ x, LC[k]? = some x := ⟨_, List.getElem?_eq_getElem (by rw [HC.out]; exact hlt)⟩
      have HXA := Lib.hid hxa
      have HXB := Lib.hid hxb
      have HXC := Lib.hid hxc
      have HT1 := Lib.hid (show (LA.take (k + 1)).map sv = (LA.take k).map sv ++ [.string ⟨xa.toArray⟩] by rw [List.take_add_one, hxa]; simp [sv])
      have HT2 := Lib.hid (show nv (LB.take (k + 1)) = nv (LB.take k) ++ [.int .u32 (xb : Int)] by rw [List.take_add_one, hxb]; simp [nv])
      have HT3 := Lib.hid (show (LC.take (k + 1)).map (fun X => X.map Value.string) = (LC.take k).map (fun X => X.map Value.string) ++ [xc.map Value.string] by rw [List.take_add_one, hxc]; simp)
      have r0 := hRt.new (Keeps.refl (fun _ => False) wr).drew
      have s0 := HCE.out _ (HTC.out.new r0.kp)
      clear hxa hxb hxc hRt
      go_wp2_with fail
      go_region_held3 (fun w' => w'.cell? ⟨w.heap.size + 1, 0, none⟩ = some (.slice A fA c) ∧ w'.cell? ⟨w.heap.size + 1, 1, none⟩ = some (.slice B n cB) ∧ w'.cell? ⟨w.heap.size + 1 + 1, 0, none⟩ = some (.slice Y n cy) ∧ w'.cell? ⟨ga, 0, none⟩ = some (.slice O n ko) ∧ w'.cell? ⟨ga, 1, none⟩ = some (.iface 54 (.pointer (some ⟨gs, 0, none⟩)))) (first | exact s0 | exact s1 | exact s1a | exact s2 | exact s2a | exact s3 | exact s4 | exact s4a | exact s5) (first
        | (refine step_append_rd _ (by rfl) (.tmp 51) (.tmp 57) _ (by rfl) w3.heap.size 22 l0 _ 1 24 Try.underlying24 hl0 hl1 hl2 hl3 rfl Nat.one_pos T3 t3 k VS (by rfl) r4a.o3 (some ⟨wd.heap.size, 0, none⟩) 1 1 [.slice Bx xc.length cx] (by rfl) (rd_one wd 22 _) (one_val _ rfl) (by simp only [maxLen]; omega) (by omega) r4a.kp.size ?_
           intro U3 u3 we o3' hg3 hat3
           have r5 := r4a.app3 hxa hbx hBx o3' hg3 hat3
           have s5 := HCE.out _ (HTC.out.new r5.kp))
        | (go_at_call 33
           refine (HRW3.out _ k xc (HTC.out.new r3.kp) HXC.out).mono ?_
           rintro e wd ⟨Bx, cx, rfl, hx0, k4⟩
           have r4 := r3.new k4
           have k4a := (Keeps.refl (fun _ => False) wd).alloc (.cells #[.slice Bx xc.length cx] 22)
           have r4a := r4.new k4a
           have hxa := own_keeps hx0 k4a (fun _ _ h => h)
           have hbx := r3.kp.size
           have hBx : ∀ q, ob Bx = some q → ob U1 ≠ some q := fun q hq e => by have h1 := (hx0.lt q (by rw [ownBlock_slice]; exact hq)).1; have h2 := (r3.o1.lt q (by rw [ownBlock_slice]; exact e)).2; omega
           have s4 := HCE.out _ (HTC.out.new r4.kp)
           have s4a := HCE.out _ (HTC.out.new r4a.kp))
        | (refine step_append_rd _ (by rfl) (.tmp 43) (.tmp 49) _ (by rfl) w3.heap.size 30 j0 _ 1 4 Try.underlying23 hj0 hj1 hj2 hj3 rfl Nat.one_pos T2 t2 k _ (by rfl) r2a.o2 (some ⟨wb.heap.size, 0, none⟩) 1 1 [.int .u32 (xb : Int)] (by rfl) (rd_one wb 30 _) (one_val _ rfl) (by simp only [maxLen]; omega) (by omega) r2a.kp.size ?_
           intro U2 u2 wc o2' hg2 hat2
           have r3 := r2a.app2 o2' hg2 hat2
           have s3 := HCE.out _ (HTC.out.new r3.kp))
        | (go_at_call 32
           refine (HRW2.out _ k xb (HTC.out.new r2.kp) HXB.out).mono ?_
           rintro e wb' ⟨rfl, rfl⟩
           have r2a := r2.new ((Keeps.refl (fun _ => False) wb).alloc (.cells #[.int .u32 (xb : Int)] 30))
           have s2a := HCE.out _ (HTC.out.new r2a.kp))
        | (refine step_append_rd _ (by rfl) (.tmp 35) (.tmp 41) _ (by rfl) w3.heap.size 9 i0 _ 1 16 Try.underlying22 hi0 hz0 hz1 hz2 rfl Nat.one_pos T1 t1 k _ (by rfl) r1a.o1 (some ⟨wa.heap.size, 0, none⟩) 1 1 [.string ⟨xa.toArray⟩] (by rfl) (rd_one wa 9 _) (one_val _ rfl) (by simp only [maxLen]; omega) (by omega) r1a.kp.size ?_
           intro U1 u1 wb o1' hg1 hat1
           have r2 := r1a.app1 o1' hg1 hat1
           have s2 := HCE.out _ (HTC.out.new r2.kp))
        | (go_at_call 31
           refine (HRW1.out _ k xa (HTC.out.new r0.kp) HXA.out).mono ?_
           rintro e wa ⟨rfl, k1⟩
           have r1 := r0.new k1
           have r1a := r1.new ((Keeps.refl (fun _ => False) wa).alloc (.cells #[.string ⟨xa.toArray⟩] 9))
           have s1 := HCE.out _ (HTC.out.new r1.kp)
           have s1a := HCE.out _ (HTC.out.new r1a.kp)))
      all_goals
        rw [← HT1.out, ← HT2.out, ← HT3.out] at r5
        have H5 := Lib.hid r5
        clear r0 r1 r1a r2 r2a r3 r4 r4a r5
        go_wp2_with fail
        go_roundg (n - (k + 1))
        case measure => omega
        case rel => exact ⟨k + 1, U1, u1, U2, u2, U3, u3, _, by omega, rfl, by go_num, rfl, rfl, rfl, H5.out⟩
    · obtain rfl : k = n := by omega
      rw [List.take_of_length_le (by rw [HA.out]; exact Nat.le_refl _), List.take_of_length_le (by rw [HB.out]; exact Nat.le_refl _), List.take_of_length_le (by rw [HC.out]; exact Nat.le_refl _)] at hRt
      have HLE := Lib.hid (leftOf wr w.heap.size _ _ _ _ d (HR3.out.new hRt.kp))
      have hb4 := HB3.out.keeps hRt.kp (fun h => h)
      have hlt4 := hb4.lt
      have hcb : wr.cell? ⟨w.heap.size, 0, none⟩ = some (.bool false) := hb4.cell 0
      have hfz : wr.frozen? ⟨w.heap.size, 0, none⟩ = false := hb4.frozen 0
      have HRT := Lib.hid hRt
      clear hRt hb4
      go_wp2_with fail
      refine HLE.out.mono ?_
      rintro e w5 ⟨rfl, rfl⟩
      go_wp2
      refine leaves_cons (f := 28) (args := #[.pointer (some ⟨w.heap.size, 0, none⟩)]) (by simp) (by simp [go_sem]) ?_
      refine (caughtIdle ⟨w.heap.size, 0, none⟩ _).mono ?_
      rintro e u' w'' ⟨rfl, rfl, rfl⟩
      have hb' : (wr.setCell ⟨w.heap.size, 0, none⟩ (.bool true)).cell? ⟨w.heap.size, 0, none⟩ = some (.bool true) := by
        exact World.cell?_setCell_same _ _ _ hcb
      simp [Leaves, settle, results, Try.results16, go_sem, hb']
      have K5 := (Keeps.refl (fun i => i = w.heap.size) wr).setCell (p := ⟨w.heap.size, 0, none⟩) (.inl rfl) (.bool true)
      have h := HRT.out
      have h1 := fun q hq => (h.o1.lt q (by rw [ownBlock_slice]; exact hq)).1
      have h2 := fun q hq => (h.o2.lt q (by rw [ownBlock_slice]; exact hq)).1
      have h3 := fun q hq => (h.o3.lt q (by rw [ownBlock_slice]; exact hq)).1
      have hs3 : w.heap.size < w3.heap.size := by have := HB3.out.lt; omega
      exact ⟨T1, t1, T2, t2, T3, t3, VS, rfl, own_base_le (own_keeps h.o1 K5 (fun q hq e => by rw [ownBlock_slice] at hq; have := h1 q hq; omega)) (by omega), own_base_le (own_keeps h.o2 K5 (fun q hq e => by rw [ownBlock_slice] at hq; have := h2 q hq; omega)) (by omega), own_base_le (own_keeps h.o3 K5 (fun q hq e => by rw [ownBlock_slice] at hq; have := h3 q hq; omega)) (by omega), h.rb.apartS K5 (fun v hv q hq e => by have := (h.lo v hv q hq).1; omega), (fun v hv q hq => by obtain ⟨a, b, c, d⟩ := h.lo v hv q hq; exact ⟨by omega, Nat.lt_of_lt_of_le b K5.size, c, d⟩), (HK3.out.trans h.kp (fun _ _ h => h)).trans K5 (fun i hi e => by omega)⟩
end Go.Proofs.Ytpcjifhklofofaa
