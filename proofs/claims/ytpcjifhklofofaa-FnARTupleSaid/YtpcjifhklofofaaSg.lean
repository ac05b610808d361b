/- ARReadTuple: strings, numbers and arrays of strings read of a tuple. Conditions: the bytes are there, at least one row; sizes far below the machine's. -/
import Derived.Test.YtpcjifhklofofaaSf
import Derived.Test.YtpcjifhklofofaaSq
import Derived.Test.YtpcjifhklofofaaNr
import Derived.Test.YtpcjifhklofofaaD32
import Derived.Test.YtpcjifhklofofaaSn
import Derived.OwnWalk
namespace Go.Proofs.Ytpcjifhklofofaa
open Go.RowKit Go.Lib
set_option linter.unusedVariables false
theorem RB.apartS {w w' : World} {S : Nat → Prop} {A : Option Addr} {VS : List Value} {R : List (List Value)} (h : RB w A VS R) (hk : Keeps S w w') (hS : ∀ v ∈ VS, ∀ q, v.ownBlock = some q → ¬ S q) : RB w' A VS R := ⟨h.1, fun i xs hx => by
  obtain ⟨B, d, h1, h2, h3⟩ := h.2 i xs hx
  exact ⟨B, d, h1, h2.keeps hk (fun q hq => hS _ (List.mem_of_getElem? h1) q (by rw [ownBlock_slice]; exact hq)), fun q hq => ⟨Nat.lt_of_lt_of_le (h3 q hq).1 hk.size, (h3 q hq).2⟩⟩⟩
/-- Three rows of the call's own, the third one of rows. -/
structure Rt (w3 wr : World) (T1 : Option Addr) (k1 c1 : Nat) (X1 : List Value) (T2 : Option Addr) (k2 c2 : Nat) (X2 : List Value) (T3 : Option Addr) (k3 c3 : Nat) (VS : List Value) (R3 : List (List Value)) : Prop where
  o1 : wr.ownsRow w3.heap.size 9 1 (.slice T1 k1 c1) k1 X1
  o2 : wr.ownsRow w3.heap.size 30 1 (.slice T2 k2 c2) k2 X2
  o3 : wr.ownsRow w3.heap.size 22 1 (.slice T3 k3 c3) k3 VS
  rb : RB wr T3 VS R3
  lo : ∀ v ∈ VS, ∀ q, v.ownBlock = some q → w3.heap.size ≤ q ∧ q < wr.heap.size ∧ ob T1 ≠ some q ∧ ob T2 ≠ some q
  kp : Keeps (fun _ => False) w3 wr
section
variable {w3 wr w' : World} {T1 T2 T3 T' : Option Addr} {k1 c1 k2 c2 k3 c3 c' : Nat} {X1 X2 VS : List Value} {R3 : List (List Value)} {v : Value}
theorem Rt.nil (w : World) : Rt w w none 0 0 [] none 0 0 [] none 0 0 [] [] := ⟨World.ownsRow_nil _ _ _ 1, World.ownsRow_nil _ _ _ 1, World.ownsRow_nil _ _ _ 1, RB.nil _ _, (fun v hv => by cases hv), Keeps.refl _ _⟩
theorem Rt.new (h : Rt w3 wr T1 k1 c1 X1 T2 k2 c2 X2 T3 k3 c3 VS R3) (hk : Keeps (fun _ => False) wr w') : Rt w3 w' T1 k1 c1 X1 T2 k2 c2 X2 T3 k3 c3 VS R3 :=
  ⟨own_keeps h.o1 hk (fun _ _ h => h), own_keeps h.o2 hk (fun _ _ h => h), own_keeps h.o3 hk (fun _ _ h => h), h.rb.keeps hk, fun v hv q hq => by
    obtain ⟨a, b, c, d⟩ := h.lo v hv q hq
    exact ⟨a, Nat.lt_of_lt_of_le b hk.size, c, d⟩, h.kp.trans hk (fun _ _ h => h)⟩
theorem Rt.app1 (h : Rt w3 wr T1 k1 c1 X1 T2 k2 c2 X2 T3 k3 c3 VS R3) (o : w'.ownsRow w3.heap.size 9 1 (.slice T' (k1 + 1) c') (k1 + 1) (X1 ++ [v])) (hg : wr.grownBy w' (ob T1)) (hat : ob T' = ob T1 ∨ ob T' = some wr.heap.size) : Rt w3 w' T' (k1 + 1) c' (X1 ++ [v]) T2 k2 c2 X2 T3 k3 c3 VS R3 := by
  have K : Keeps (fun i => ob T1 = some i) wr w' := (Keeps.refl _ wr).grown hg (fun k hk => .inl hk)
  have a2 : ∀ k, ob T2 = some k → ob T1 ≠ some k := by have := own_apart h.o2 h.o1 (by decide); simpa only [ownBlock_slice] using this
  have a3 : ∀ k, ob T3 = some k → ob T1 ≠ some k := by have := own_apart h.o3 h.o1 (by decide); simpa only [ownBlock_slice] using this
  refine ⟨o, own_keeps h.o2 K (fun k hk => by rw [ownBlock_slice] at hk; exact a2 k hk), own_keeps h.o3 K (fun k hk => by rw [ownBlock_slice] at hk; exact a3 k hk), h.rb.apartS K (fun v hv q hq => (h.lo v hv q hq).2.2.1), fun v hv q hq => ?_, h.kp.trans K (fun i hi e => by have := (h.o1.lt i (by rw [ownBlock_slice]; exact e)).1; omega)⟩
  obtain ⟨a, b, c, d⟩ := h.lo v hv q hq
  refine ⟨a, Nat.lt_of_lt_of_le b K.size, ?_, d⟩
  rcases hat with e | e
  · rw [e]; exact c
  · rw [e]; intro e2; injection e2 with e2; omega
theorem Rt.app2 (h : Rt w3 wr T1 k1 c1 X1 T2 k2 c2 X2 T3 k3 c3 VS R3) (o : w'.ownsRow w3.heap.size 30 1 (.slice T' (k2 + 1) c') (k2 + 1) (X2 ++ [v])) (hg : wr.grownBy w' (ob T2)) (hat : ob T' = ob T2 ∨ ob T' = some wr.heap.size) : Rt w3 w' T1 k1 c1 X1 T' (k2 + 1) c' (X2 ++ [v]) T3 k3 c3 VS R3 := by
  have K : Keeps (fun i => ob T2 = some i) wr w' := (Keeps.refl _ wr).grown hg (fun k hk => .inl hk)
  have a1 : ∀ k, ob T1 = some k → ob T2 ≠ some k := by have := own_apart h.o1 h.o2 (by decide); simpa only [ownBlock_slice] using this
  have a3 : ∀ k, ob T3 = some k → ob T2 ≠ some k := by have := own_apart h.o3 h.o2 (by decide); simpa only [ownBlock_slice] using this
  refine ⟨own_keeps h.o1 K (fun k hk => by rw [ownBlock_slice] at hk; exact a1 k hk), o, own_keeps h.o3 K (fun k hk => by rw [ownBlock_slice] at hk; exact a3 k hk), h.rb.apartS K (fun v hv q hq => (h.lo v hv q hq).2.2.2), fun v hv q hq => ?_, h.kp.trans K (fun i hi e => by have := (h.o2.lt i (by rw [ownBlock_slice]; exact e)).1; omega)⟩
  obtain ⟨a, b, c, d⟩ := h.lo v hv q hq
  refine ⟨a, Nat.lt_of_lt_of_le b K.size, c, ?_⟩
  rcases hat with e | e
  · rw [e]; exact d
  · rw [e]; intro e2; injection e2 with e2; omega
theorem Rt.app3 {B : Option Addr} {m cb bx : Nat} {xs : List Value} (h : Rt w3 wr T1 k1 c1 X1 T2 k2 c2 X2 T3 k3 c3 VS R3) (hx : wr.ownsRow bx 9 1 (.slice B m cb) m xs) (hb : w3.heap.size ≤ bx) (hB : ∀ q, ob B = some q → ob T1 ≠ some q)
    (o : w'.ownsRow w3.heap.size 22 1 (.slice T' (k3 + 1) c') (k3 + 1) (VS ++ [.slice B m cb])) (hg : wr.grownBy w' (ob T3)) (hat : ob T' = ob T3 ∨ ob T' = some wr.heap.size) : Rt w3 w' T1 k1 c1 X1 T2 k2 c2 X2 T' (k3 + 1) c' (VS ++ [.slice B m cb]) (R3 ++ [xs]) := by
  have K : Keeps (fun i => ob T3 = some i) wr w' := (Keeps.refl _ wr).grown hg (fun k hk => .inl hk)
  have a1 : ∀ k, ob T1 = some k → ob T3 ≠ some k := by have := own_apart h.o1 h.o3 (by decide); simpa only [ownBlock_slice] using this
  have a2 : ∀ k, ob T2 = some k → ob T3 ≠ some k := by have := own_apart h.o2 h.o3 (by decide); simpa only [ownBlock_slice] using this
  have b2 : ∀ k, ob B = some k → ob T2 ≠ some k := by have := own_apart hx h.o2 (by decide); simpa only [ownBlock_slice] using this
  have b3 : ∀ k, ob B = some k → ob T3 ≠ some k := by have := own_apart hx h.o3 (by decide); simpa only [ownBlock_slice] using this
  have bl : ∀ k, ob B = some k → bx ≤ k ∧ k < wr.heap.size := fun k hk => hx.lt k (by rw [ownBlock_slice]; exact hk)
  have hm : xs.length = m := by have := hx.1; omega
  refine ⟨own_keeps h.o1 K (fun k hk => by rw [ownBlock_slice] at hk; exact a1 k hk), own_keeps h.o2 K (fun k hk => by rw [ownBlock_slice] at hk; exact a2 k hk), o, ?_, fun v hv q hq => ?_, h.kp.trans K (fun i hi e => by have := (h.o3.lt i (by rw [ownBlock_slice]; exact e)).1; omega)⟩
  · have := h.rb.snoc (xs := xs) (B := B) (d := cb) (by rw [hm]; exact Rd.own hx) (fun q hq => ⟨(bl q hq).2, b3 q hq⟩) hg hat
    rw [hm] at this
    exact this
  · rcases List.mem_append.1 hv with hv | hv
    · obtain ⟨a, b, c, d⟩ := h.lo v hv q hq
      exact ⟨a, Nat.lt_of_lt_of_le b K.size, c, d⟩
    · rw [List.mem_singleton.1 hv, ownBlock_slice] at hq
      have := bl q hq
      exact ⟨by omega, Nat.lt_of_lt_of_le this.2 K.size, hB q hq, b2 q hq⟩
end
theorem iColStrDec : (Try.prog.info? 54).map (fun i => (i.methods.find? (·.name == "DecodeColumn")).map (fun m => (m.path.toList.length, m.func))) = some (some (0, some (60, true))) := by kernel_rfl
theorem mColStrDec (w : World) (g : Nat) (fuel : Nat) : (method (fuel + 1) 54 (.pointer (some ⟨g, 0, none⟩)) "DecodeColumn").run Try.prog w = .ok (60, .pointer (some ⟨g, 0, none⟩)) w := by
  obtain ⟨i, m, h1, h2, h3, h4⟩ := method_row iColStrDec
  exact method_ptr h1 h2 h3 h4 Try.underlying54
theorem fColStrDec (args : Array Value) (w : World) : (callFunc 60 args).run Try.prog w = .ok (.enter 60 args) w := by kernel_rfl
theorem iColUInt32Dec : (Try.prog.info? 58).map (fun i => (i.methods.find? (·.name == "DecodeColumn")).map (fun m => (m.path.toList.length, m.func))) = some (some (0, some (76, true))) := by kernel_rfl
theorem mColUInt32Dec (w : World) (g : Nat) (fuel : Nat) : (method (fuel + 1) 58 (.pointer (some ⟨g, 0, none⟩)) "DecodeColumn").run Try.prog w = .ok (76, .pointer (some ⟨g, 0, none⟩)) w := by
  obtain ⟨i, m, h1, h2, h3, h4⟩ := method_row iColUInt32Dec
  exact method_ptr h1 h2 h3 h4 Try.underlying58
theorem fColUInt32Dec (args : Array Value) (w : World) : (callFunc 76 args).run Try.prog w = .ok (.enter 76 args) w := by kernel_rfl
theorem iColArrSDec : (Try.prog.info? 60).map (fun i => (i.methods.find? (·.name == "DecodeColumn")).map (fun m => (m.path.toList.length, m.func))) = some (some (0, some (83, true))) := by kernel_rfl
theorem mColArrSDec (w : World) (g : Nat) (fuel : Nat) : (method (fuel + 1) 60 (.pointer (some ⟨g, 0, none⟩)) "DecodeColumn").run Try.prog w = .ok (83, .pointer (some ⟨g, 0, none⟩)) w := by
  obtain ⟨i, m, h1, h2, h3, h4⟩ := method_row iColArrSDec
  exact method_ptr h1 h2 h3 h4 Try.underlying60
theorem fColArrSDec (args : Array Value) (w : World) : (callFunc 83 args).run Try.prog w = .ok (.enter 83 args) w := by kernel_rfl
/-- What is known of a tuple's three columns ahead of the reading. -/
structure TP (w1 : World) (base rb bb gx gy ga gs : Nat) (D : Option Nat) : Prop where
  l1 : gx < w1.heap.size
  l2 : gy < w1.heap.size
  l3 : ga < w1.heap.size
  l4 : gs < w1.heap.size
  l5 : rb < w1.heap.size
  l6 : bb < w1.heap.size
  b1 : base ≤ gx
  b2 : base ≤ gy
  b3 : base ≤ ga
  b4 : base ≤ gs
  d : ∀ i, D = some i → i < base
  n1 : gx ≠ gy ∧ gx ≠ ga ∧ gx ≠ gs ∧ gx ≠ rb ∧ gx ≠ bb
  n2 : gy ≠ ga ∧ gy ≠ gs ∧ gy ≠ rb ∧ gy ≠ bb
  n3 : ga ≠ gs ∧ ga ≠ rb ∧ ga ≠ bb
  n4 : gs ≠ rb ∧ gs ≠ bb
structure TS (w1 wr : World) (base rb bb gx gy ga gs : Nat) (D R : Option Nat) (A : Option Addr) (c : Nat) (B : Option Addr) (cB : Nat) (LA : List (List UInt8)) (Y : Option Addr) (cy : Nat) (LB : List Nat) (O : Option Addr) (ko : Nat) (A3 : Option Addr) (c3 : Nat) (B3 : Option Addr) (d3 : Nat) (LC : List (List ByteArray)) (bs : List UInt8) : Prop where
  x : ColAt wr base gx A c B cB LA
  y : NumAt wr base gy Y cy LB
  z : ArrAt wr base ga gs O ko A3 c3 B3 d3 LC
  r : RdrOn wr base rb bb D R bs
  rn : ∀ i, R = some i → w1.heap.size ≤ i
  ap : ∀ i, ob A = some i → R ≠ some i
  kp : Keeps (fun i => i = gx ∨ i = gy ∨ i = ga ∨ i = gs ∨ i = rb ∨ i = bb) w1 wr
section
variable {w1 wr : World} {base rb bb gx gy ga gs : Nat} {D R : Option Nat} {A B Y O A3 B3 : Option Addr} {c cB cy ko c3 d3 : Nat} {LA : List (List UInt8)} {LB : List Nat} {LC : List (List ByteArray)} {bs d : List UInt8}
theorem TP.pre (hp : TP w1 base rb bb gx gy ga gs D) {g : Nat} (hg : g = gx ∨ g = ga ∨ g = gs) (hs : w1.heap.size ≤ wr.heap.size) (hr : ∀ i, R = some i → w1.heap.size ≤ i) : SdPre wr rb bb g D R := by
  obtain ⟨l1, l2, l3, l4, l5, l6, b1, b2, b3, b4, hd, n1, n2, n3, n4⟩ := hp
  have e : g < w1.heap.size ∧ base ≤ g ∧ g ≠ rb ∧ g ≠ bb := by rcases hg with rfl | rfl | rfl <;> refine ⟨?_, ?_, ?_, ?_⟩ <;> omega
  obtain ⟨e1, e2, e3, e4⟩ := e
  exact ⟨by omega, by omega, by omega, e3, e4, fun h => by have := hr g h; omega, fun h => by have := hd g h; omega, fun i hi => by have := hd i hi; omega⟩
theorem RdrOn.far {w : World} {b n s : Nat} {e : TypeId} {v : Value} {xs : List Value} (h : RdrOn w base rb bb D R d) (ho : w.ownsRow b e s v n xs) (h1 : e ≠ 98) (h2 : e ≠ 96) : v.ownBlock ≠ some rb ∧ v.ownBlock ≠ some bb := by
  obtain ⟨A, c, C, n', k', q, hR, _, hC⟩ := h
  exact ⟨own_far ho hR.rdr h1, own_far ho hR.blk h2⟩
def TX (w1 : World) (base rb bb gx gy ga gs : Nat) (D : Option Nat) (LA : List (List UInt8)) (bs : List UInt8) (wr : World) : Prop := ∃ A c B cB R, TS w1 wr base rb bb gx gy ga gs D R A c B cB LA none 0 [] none 0 none 0 none 0 [] bs
def TY (w1 : World) (base rb bb gx gy ga gs : Nat) (D : Option Nat) (LA : List (List UInt8)) (LB : List Nat) (bs : List UInt8) (wr : World) : Prop := ∃ A c B cB R Y cy, TS w1 wr base rb bb gx gy ga gs D R A c B cB LA Y cy LB none 0 none 0 none 0 [] bs
def TZ (w1 : World) (base rb bb gx gy ga gs : Nat) (D : Option Nat) (LA : List (List UInt8)) (LB : List Nat) (LC : List (List ByteArray)) (bs : List UInt8) (wr : World) : Prop := ∃ A c B cB R Y cy O ko A3 c3 B3 d3, TS w1 wr base rb bb gx gy ga gs D R A c B cB LA Y cy LB O ko A3 c3 B3 d3 LC bs
theorem tsX (n : Nat) (hp : TP w1 base rb bb gx gy ga gs D) (h : TS w1 wr base rb bb gx gy ga gs D R none 0 none 0 [] none 0 [] none 0 none 0 none 0 [] (encB LA ++ bs)) (hl : LA.length = n) (h0 : 0 < n) (hn : n ≤ 1000) (hF : LA.flatten.length ≤ 10000000) :
    Calls Try.prog 60 #[.pointer (some ⟨gx, 0, none⟩), .pointer (some ⟨rb, 0, none⟩), .int .i64 (n : Int)] wr fun e w' => e = .returned .nilIface ∧ TX w1 base rb bb gx gy ga gs D LA bs w' := by
  have hs := h.kp.size
  refine (decStr wr base rb bb gx D R LA n bs hl h0 hn hF h.x h.r (hp.pre (.inl rfl) hs h.rn)).mono ?_
  rintro e w2 ⟨rfl, A, c, B, cB, R', hC, hR, hRR, hap, K⟩
  obtain ⟨l1, l2, l3, l4, l5, l6, b1, b2, b3, b4, hd, n1, n2, n3, n4⟩ := hp
  have rn := h.rn
  have no : ∀ g, g < w1.heap.size → g ≠ gx → g ≠ rb → g ≠ bb → ¬ (g = gx ∨ g = rb ∨ g = bb ∨ R = some g) := by
    rintro g hg e1 e2 e3 (e | e | e | e)
    · exact e1 e
    · exact e2 e
    · exact e3 e
    · have := rn g e; omega
  refine ⟨rfl, A, c, B, cB, R', hC, h.y.keeps K (no gy l2 (by omega) (by omega) (by omega)) (fun k hk => by cases hk), ⟨h.z.blk.keeps K (no ga l3 (by omega) (by omega) (by omega)), own_keeps h.z.off K (fun k hk => by cases hk), h.z.col.keeps K (no gs l4 (by omega) (by omega) (by omega)) (fun k hk => by cases hk) (fun k hk => by cases hk), h.z.lo⟩, hR, fun i hi => ?_, hap, h.kp.trans K (fun i hi e => ?_)⟩
  · rcases hRR with e | e
    · exact rn i (e ▸ hi)
    · have := e i hi; omega
  · rcases e with e | e | e | e
    · exact .inl e
    · exact .inr (.inr (.inr (.inr (.inl e))))
    · exact .inr (.inr (.inr (.inr (.inr e))))
    · have := rn i e; omega
theorem tsY (n : Nat) (hp : TP w1 base rb bb gx gy ga gs D) (h : TS w1 wr base rb bb gx gy ga gs D R A c B cB LA none 0 [] none 0 none 0 none 0 [] (u32s LB ++ bs)) (hl : LB.length = n) (h0 : 0 < n) (hn : n ≤ 1000) (hx : ∀ x ∈ LB, x < 4294967296) :
    Calls Try.prog 76 #[.pointer (some ⟨gy, 0, none⟩), .pointer (some ⟨rb, 0, none⟩), .int .i64 (n : Int)] wr fun e w' => e = .returned .nilIface ∧ TY w1 base rb bb gx gy ga gs D LA LB bs w' := by
  have hs := h.kp.size
  obtain ⟨l1, l2, l3, l4, l5, l6, b1, b2, b3, b4, hd, n1, n2, n3, n4⟩ := hp
  have rn := h.rn
  refine (decU32 wr base rb bb gy D R n LB bs hl h0 (by omega) (fun x hx' => by have := hx x hx'; simpa using this) h.r (h.y.blk.cell 0) (h.y.blk.frozen 0) (by rintro (e | e | e); omega; omega; have := rn gy e; omega) (by omega)).mono ?_
  rintro e w3 ⟨V, cV, w2, rfl, rfl, hV, hG⟩
  obtain ⟨R', hR, hRR⟩ := hG.on
  have K := hG.keeps
  have hvl : (LB.map fun x : Nat => Value.int .u32 (x : Int)).length = LB.length := by rw [List.length_map]
  rw [hvl] at hV ⊢
  have no : ∀ g, g < w1.heap.size → g ≠ rb → g ≠ bb → ¬ (g = rb ∨ g = bb ∨ R = some g) := by
    rintro g hg e2 e3 (e | e | e)
    · exact e2 e
    · exact e3 e
    · have := rn g e; omega
  have fA := h.r.far h.x.buf (by decide) (by decide)
  have fB := h.r.far h.x.pos (by decide) (by decide)
  have rB := h.r.apart_own h.x.pos (by decide)
  rw [ownBlock_slice] at fA fB rB
  have x2 := h.x.keeps K (no gx l1 (by omega) (by omega)) (fun k hk => by rintro (e | e | e); exact fA.1 (e ▸ hk); exact fA.2 (e ▸ hk); exact h.ap k hk e) (fun k hk => by rintro (e | e | e); exact fB.1 (e ▸ hk); exact fB.2 (e ▸ hk); exact rB k hk e)
  have y2 := h.y.blk.keeps K (no gy l2 (by omega) (by omega))
  have z2 : ArrAt w2 base ga gs none 0 none 0 none 0 [] := ⟨h.z.blk.keeps K (no ga l3 (by omega) (by omega)), own_keeps h.z.off K (fun k hk => by cases hk), h.z.col.keeps K (no gs l4 (by omega) (by omega)) (fun k hk => by cases hk) (fun k hk => by cases hk), h.z.lo⟩
  have nV : ob V ≠ some gy := by have := own_far hV y2 (by decide); rwa [ownBlock_slice] at this
  have fA2 : ob A ≠ some gy := by have := own_far x2.buf y2 (by decide); rwa [ownBlock_slice] at this
  have fB2 : ob B ≠ some gy := by have := own_far x2.pos y2 (by decide); rwa [ownBlock_slice] at this
  have rY : R' ≠ some gy := hR.apart_whole y2 (by decide)
  have K2 := (Keeps.refl (fun i => i = gy) w2).setCell (p := ⟨gy, 0, none⟩) (.inl rfl) (.slice V LB.length cV)
  have rl := h.x.rowsLo
  refine ⟨rfl, A, c, B, cB, R', V, cV, x2.keeps K2 (by omega) (fun k hk e => fA2 (e ▸ hk)) (fun k hk e => fB2 (e ▸ hk)), ⟨y2.put 0 _, own_keeps (own_base_le hV (by omega)) K2 (fun k hk e => by rw [ownBlock_slice] at hk; exact nV (e ▸ hk)), h.y.lo⟩, ⟨z2.blk.keeps K2 (by omega), own_keeps z2.off K2 (fun k hk => by cases hk), z2.col.keeps K2 (by omega) (fun k hk => by cases hk) (fun k hk => by cases hk), z2.lo⟩, hR.keeps K2 (by omega) (by omega) (fun i hi e => rY (e ▸ hi)) (fun i hi e => by have := hd i hi; omega), fun i hi => ?_, fun i hi e => ?_, (h.kp.trans K (fun i hi e => ?_)).trans K2 (fun i _ e => .inr (.inl e))⟩
  · rcases hRR with e | e
    · exact rn i (e ▸ hi)
    · have := e i hi; omega
  · rcases hRR with e2 | e2
    · exact h.ap i hi (e2 ▸ e)
    · have h1 := e2 i e
      have h2 := (rl.1 i hi).2
      omega
  · rcases e with e | e | e
    · exact .inr (.inr (.inr (.inr (.inl e))))
    · exact .inr (.inr (.inr (.inr (.inr e))))
    · have := rn i e; omega
theorem tsZ (n f : Nat) (hp : TP w1 base rb bb gx gy ga gs D) (h : TS w1 wr base rb bb gx gy ga gs D R A c B cB LA Y cy LB none 0 none 0 none 0 [] (arrB LC ++ bs)) (hl : LC.length = n) (h0 : 0 < n) (hn : n ≤ 1000) (hfl : LC.flatten.length = f) (f0 : 0 < f) (hf : f ≤ 1000) (hF : (LC.flatten.map sl).flatten.length ≤ 10000000) :
    Calls Try.prog 83 #[.pointer (some ⟨ga, 0, none⟩), .pointer (some ⟨rb, 0, none⟩), .int .i64 (n : Int)] wr fun e w' => e = .returned .nilIface ∧ TZ w1 base rb bb gx gy ga gs D LA LB LC bs w' := by
  have hs := h.kp.size
  refine (decSArr wr base rb bb ga gs D R LC n f bs h.z hl h0 hn hfl f0 hf hF h.r (hp.pre (.inr (.inl rfl)) hs h.rn) (hp.pre (.inr (.inr rfl)) hs h.rn)).mono ?_
  rintro e w2 ⟨rfl, ⟨O, ko, A3, c3, B3, d3, hC⟩, ⟨R', hR, hRR⟩, K⟩
  obtain ⟨l1, l2, l3, l4, l5, l6, b1, b2, b3, b4, hd, n1, n2, n3, n4⟩ := hp
  have rn := h.rn
  have no : ∀ g, g < w1.heap.size → g ≠ ga → g ≠ gs → g ≠ rb → g ≠ bb → ¬ (g = ga ∨ g = gs ∨ g = rb ∨ g = bb ∨ R = some g) := by
    rintro g hg e1 e2 e3 e4 (e | e | e | e | e)
    · exact e1 e
    · exact e2 e
    · exact e3 e
    · exact e4 e
    · have := rn g e; omega
  have fA := h.r.far h.x.buf (by decide) (by decide)
  have fB := h.r.far h.x.pos (by decide) (by decide)
  have rB := h.r.apart_own h.x.pos (by decide)
  have fY := h.r.far h.y.own (by decide) (by decide)
  have rY := h.r.apart_own h.y.own (by decide)
  have gA := own_far h.x.buf h.z.blk (by decide)
  have gB := own_far h.x.pos h.z.blk (by decide)
  have gY := own_far h.y.own h.z.blk (by decide)
  have sA := own_far h.x.buf h.z.col.blk (by decide)
  have sB := own_far h.x.pos h.z.col.blk (by decide)
  have sY := own_far h.y.own h.z.col.blk (by decide)
  rw [ownBlock_slice] at fA fB rB fY rY gA gB gY sA sB sY
  have rl := h.x.rowsLo
  refine ⟨rfl, A, c, B, cB, R', Y, cy, O, ko, A3, c3, B3, d3, h.x.keeps K (no gx l1 (by omega) (by omega) (by omega) (by omega)) (fun k hk => by rintro (e | e | e | e | e); exact gA (e ▸ hk); exact sA (e ▸ hk); exact fA.1 (e ▸ hk); exact fA.2 (e ▸ hk); exact h.ap k hk e) (fun k hk => by rintro (e | e | e | e | e); exact gB (e ▸ hk); exact sB (e ▸ hk); exact fB.1 (e ▸ hk); exact fB.2 (e ▸ hk); exact rB k hk e),
    h.y.keeps K (no gy l2 (by omega) (by omega) (by omega) (by omega)) (fun k hk => by rintro (e | e | e | e | e); exact gY (e ▸ hk); exact sY (e ▸ hk); exact fY.1 (e ▸ hk); exact fY.2 (e ▸ hk); exact rY k hk e), hC, hR, fun i hi => ?_, fun i hi e => ?_, h.kp.trans K (fun i hi e => ?_)⟩
  · rcases hRR with e | e
    · exact rn i (e ▸ hi)
    · have := e i hi; omega
  · rcases hRR with e2 | e2
    · exact h.ap i hi (e2 ▸ e)
    · have h1 := e2 i e
      have h2 := (rl.1 i hi).2
      omega
  · rcases e with e | e | e | e | e
    · exact .inr (.inr (.inl e))
    · exact .inr (.inr (.inr (.inl e)))
    · exact .inr (.inr (.inr (.inr (.inl e))))
    · exact .inr (.inr (.inr (.inr (.inr e))))
    · have := rn i e; omega
end
def TJ (w1 : World) (base rb bb gx gy ga gs : Nat) (D : Option Nat) (LA : List (List UInt8)) (LB : List Nat) (LC : List (List ByteArray)) (d : List UInt8) (k : Nat) (wr : World) : Prop := match k with
  | 0 => TS w1 wr base rb bb gx gy ga gs D none none 0 none 0 [] none 0 [] none 0 none 0 none 0 [] (encB LA ++ (u32s LB ++ (arrB LC ++ d)))
  | 1 => TX w1 base rb bb gx gy ga gs D LA (u32s LB ++ (arrB LC ++ d)) wr
  | 2 => TY w1 base rb bb gx gy ga gs D LA LB (arrB LC ++ d) wr
  | _ => TZ w1 base rb bb gx gy ga gs D LA LB LC d wr
theorem TJ.kp {w1 wr : World} {base rb bb gx gy ga gs : Nat} {D : Option Nat} {LA : List (List UInt8)} {LB : List Nat} {LC : List (List ByteArray)} {d : List UInt8} : ∀ {k : Nat}, TJ w1 base rb bb gx gy ga gs D LA LB LC d k wr → Keeps (fun i => i = gx ∨ i = gy ∨ i = ga ∨ i = gs ∨ i = rb ∨ i = bb) w1 wr
  | 0, h => TS.kp h
  | 1, ⟨_, _, _, _, _, h⟩ => h.kp
  | 2, ⟨_, _, _, _, _, _, _, h⟩ => h.kp
  | _ + 3, ⟨_, _, _, _, _, _, _, _, _, _, _, _, _, h⟩ => h.kp
theorem readCols (w1 : World) (base rb bb gx gy ga gs : Nat) (D : Option Nat) (LA : List (List UInt8)) (LB : List Nat) (LC : List (List ByteArray)) (d : List UInt8) (U : Option Addr) (k0 n f : Nat) (hp : TP w1 base rb bb gx gy ga gs D) (hU : Rd w1 1 U 3 [.iface 54 (.pointer (some ⟨gx, 0, none⟩)), .iface 58 (.pointer (some ⟨gy, 0, none⟩)), .iface 60 (.pointer (some ⟨ga, 0, none⟩))])
    (hUn : ∀ i, ob U = some i → ¬ (i = gx ∨ i = gy ∨ i = ga ∨ i = gs ∨ i = rb ∨ i = bb)) (h : TJ w1 base rb bb gx gy ga gs D LA LB LC d 0 w1) (h0 : 0 < n) (hn : n ≤ 1000) (la : LA.length = n) (lb : LB.length = n) (lc : LC.length = n) (hFA : LA.flatten.length ≤ 10000000) (hx : ∀ x ∈ LB, x < 4294967296) (hfl : LC.flatten.length = f) (f0 : 0 < f) (hf : f ≤ 1000) (hFC : (LC.flatten.map sl).flatten.length ≤ 10000000) :
    Calls Try.prog 30 #[.slice U 3 k0, .pointer (some ⟨rb, 0, none⟩), .int .i64 (n : Int)] w1 fun e w' => e = .returned .nilIface ∧ TZ w1 base rb bb gx gy ga gs D LA LB LC d w' := by
  refine decTuple w1 U 3 k0 n rb [(54, .pointer (some ⟨gx, 0, none⟩)), (58, .pointer (some ⟨gy, 0, none⟩)), (60, .pointer (some ⟨ga, 0, none⟩))] (TJ w1 base rb bb gx gy ga gs D LA LB LC d) rfl (by omega) (fun k wr hJ => hU.keeps hJ.kp hUn) h ?_
  intro k c hc wr hJ
  match k, hc, hJ with
  | 0, hc, hJ =>
    obtain rfl := (Option.some.inj hc).symm
    exact ⟨_, fun fuel => mColStrDec wr gx fuel, fColStrDec, tsX n hp hJ la h0 hn hFA⟩
  | 1, hc, hJ =>
    obtain rfl := (Option.some.inj hc).symm
    obtain ⟨A, c, B, cB, R, h⟩ := hJ
    exact ⟨_, fun fuel => mColUInt32Dec wr gy fuel, fColUInt32Dec, tsY n hp h lb h0 hn hx⟩
  | 2, hc, hJ =>
    obtain rfl := (Option.some.inj hc).symm
    obtain ⟨A, c, B, cB, R, Y, cy, h⟩ := hJ
    exact ⟨_, fun fuel => mColArrSDec wr ga fuel, fColArrSDec, tsZ n f hp h lc h0 hn hfl f0 hf hFC⟩
end Go.Proofs.Ytpcjifhklofofaa
