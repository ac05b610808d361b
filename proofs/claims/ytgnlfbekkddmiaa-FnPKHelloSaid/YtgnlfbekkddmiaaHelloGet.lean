/- The client's hello read by PKHelloGet. Conditions: short strings, numbers of 31 bits. -/
import Derived.Test.YtgnlfbekkddmiaaHello
import Derived.Test.YtgnlfbekkddmiaaHelloPut
import Derived.Test.YtgnlfbekkddmiaaGotF
namespace Go.Proofs.Ytgnlfbekkddmiaa
open Go.RowKit Go.Lib
set_option linter.unusedVariables false
theorem results_cell3 {P : Program} {fn : Func} {t u v : Tmp} {ty : TypeId} (h : fn.results = #[.cell t ty, .tmp u, .tmp v]) (tmps : Array Value) (p : Addr) (w : World) (x : Value) (hp : tmps.getD t undef = .pointer (some p)) (hx : (loadVar ty p).run P w = .ok x w) :
    (results fn tmps).run P w = .ok (.tuple #[x, tmps.getD u undef, tmps.getD v undef]) w := by
  have hp2 : tmps[t]?.getD undef = .pointer (some p) := by simpa using hp
  simp [results, h, hp2, asAddr, hx]
theorem infoHello : (Try.prog.info? 36).map (·.size) = some 7 := by kernel_rfl
theorem fHelloDec : ∀ args w, (callFunc 32 args).run Try.prog w = .ok (.enter 32 args) w := fun args w => by kernel_rfl

set_option maxRecDepth 100000 in
set_option maxHeartbeats 2000000 in
theorem helloGet_ok (w : World) (A : Option Addr) (c : Nat) (t0 : ByteArray) (x1 : Nat) (x2 : Nat) (x3 : Nat) (t4 : ByteArray) (t5 : ByteArray) (t6 : ByteArray) (h0 : t0.size ≤ 1000) (h1 : x1 < 2147483648) (h2 : x2 < 2147483648) (h3 : x3 < 2147483648) (h4 : t4.size ≤ 1000) (h5 : t5.size ≤ 1000) (h6 : t6.size ≤ 1000) (rest d : List UInt8) (hd : d = 0 :: ((strB t0 ++ (Lib.uvarint x1 ++ (Lib.uvarint x2 ++ (Lib.uvarint x3 ++ (strB t4 ++ (strB t5 ++ (strB t6))))))) ++ rest)) (hR : Rd w 1 A d.length (Lib.byteCells d)) (hc : d.length ≤ c) (hA : ∀ i, ob A = some i → i < w.heap.size) :
    Calls Try.prog 17 #[.slice A d.length c] w fun e w' => e = .returned (.tuple #[.agg #[.string t0, .int .i64 x1, .int .i64 x2, .int .i64 x3, .string t4, .string t5, .string t6], .int .i64 rest.length, .bool true]) ∧ Keeps (fun _ => False) w w' := by
  have hmf : ∀ (fn : Fn) (first cap : Array Value) (w : World), (Instr.makeFunc fn first cap).run Try.prog w = .ok (.func fn first cap) w := fun _ _ _ _ => rfl
  have k0 := ((Keeps.refl (fun _ => False) w).alloc (.cells #[.string ⟨#[]⟩, .int .i64 0, .int .i64 0, .int .i64 0, .string ⟨#[]⟩, .string ⟨#[]⟩, .string ⟨#[]⟩] 36)).alloc (.cells #[.string ⟨#[]⟩, .int .i64 0, .int .i64 0, .int .i64 0, .string ⟨#[]⟩, .string ⟨#[]⟩, .string ⟨#[]⟩] 60)
  have hsz : (World.heap ((w.alloc (.cells #[.string ⟨#[]⟩, .int .i64 0, .int .i64 0, .int .i64 0, .string ⟨#[]⟩, .string ⟨#[]⟩, .string ⟨#[]⟩] 36)).alloc (.cells #[.string ⟨#[]⟩, .int .i64 0, .int .i64 0, .int .i64 0, .string ⟨#[]⟩, .string ⟨#[]⟩, .string ⟨#[]⟩] 60))).size = w.heap.size + 1 + 1 := by simp only [World.size_alloc]
  have hZ : Whole ((w.alloc (.cells #[.string ⟨#[]⟩, .int .i64 0, .int .i64 0, .int .i64 0, .string ⟨#[]⟩, .string ⟨#[]⟩, .string ⟨#[]⟩] 36)).alloc (.cells #[.string ⟨#[]⟩, .int .i64 0, .int .i64 0, .int .i64 0, .string ⟨#[]⟩, .string ⟨#[]⟩, .string ⟨#[]⟩] 60)) w.heap.size 36 #[.string ⟨#[]⟩, .int .i64 0, .int .i64 0, .int .i64 0, .string ⟨#[]⟩, .string ⟨#[]⟩, .string ⟨#[]⟩] := (Whole.new w 36 #[.string ⟨#[]⟩, .int .i64 0, .int .i64 0, .int .i64 0, .string ⟨#[]⟩, .string ⟨#[]⟩, .string ⟨#[]⟩]).alloc _
  have hI : Whole ((w.alloc (.cells #[.string ⟨#[]⟩, .int .i64 0, .int .i64 0, .int .i64 0, .string ⟨#[]⟩, .string ⟨#[]⟩, .string ⟨#[]⟩] 36)).alloc (.cells #[.string ⟨#[]⟩, .int .i64 0, .int .i64 0, .int .i64 0, .string ⟨#[]⟩, .string ⟨#[]⟩, .string ⟨#[]⟩] 60)) (w.heap.size + 1) 60 #[.string ⟨#[]⟩, .int .i64 0, .int .i64 0, .int .i64 0, .string ⟨#[]⟩, .string ⟨#[]⟩, .string ⟨#[]⟩] := by have h := Whole.new (w.alloc (.cells #[.string ⟨#[]⟩, .int .i64 0, .int .i64 0, .int .i64 0, .string ⟨#[]⟩, .string ⟨#[]⟩, .string ⟨#[]⟩] 36)) 60 #[.string ⟨#[]⟩, .int .i64 0, .int .i64 0, .int .i64 0, .string ⟨#[]⟩, .string ⟨#[]⟩, .string ⟨#[]⟩]; simp only [World.size_alloc] at h; exact h
  have hR4 : Rd ((w.alloc (.cells #[.string ⟨#[]⟩, .int .i64 0, .int .i64 0, .int .i64 0, .string ⟨#[]⟩, .string ⟨#[]⟩, .string ⟨#[]⟩] 36)).alloc (.cells #[.string ⟨#[]⟩, .int .i64 0, .int .i64 0, .int .i64 0, .string ⟨#[]⟩, .string ⟨#[]⟩, .string ⟨#[]⟩] 60)) 1 A d.length (Lib.byteCells d) := (hR.alloc _).alloc _
  generalize hG : ((w.alloc (.cells #[.string ⟨#[]⟩, .int .i64 0, .int .i64 0, .int .i64 0, .string ⟨#[]⟩, .string ⟨#[]⟩, .string ⟨#[]⟩] 36)).alloc (.cells #[.string ⟨#[]⟩, .int .i64 0, .int .i64 0, .int .i64 0, .string ⟨#[]⟩, .string ⟨#[]⟩, .string ⟨#[]⟩] 60)) = W4 at k0 hsz hZ hI hR4
  have hgot := got_okF W4 A c 0 0 rfl d ((strB t0 ++ (Lib.uvarint x1 ++ (Lib.uvarint x2 ++ (Lib.uvarint x3 ++ (strB t4 ++ (strB t5 ++ (strB t6))))))) ++ rest) rest hd hR4 hc (fun i hi => by have := hA i hi; omega) 32 #[.pointer (some ⟨w.heap.size + 1, 0, none⟩)] fHelloDec (fun i => i = w.heap.size + 1) (by omega) (fun w2 => Whole w2 (w.heap.size + 1) 60 #[.string t0, .int .i64 x1, .int .i64 x2, .int .i64 x3, .string t4, .string t5, .string t6]) (by
    intro w1 Rx hR1 hK1
    have hI1 := hI.keeps hK1 (fun h => h)
    have hD : ob A ≠ some (w.heap.size + 1) := fun h => by have := hA _ h; omega
    refine (helloDecode w1 _ _ _ (w.heap.size + 1) (ob A) Rx t0 x1 x2 x3 t4 t5 t6 ((strB t0 ++ (Lib.uvarint x1 ++ (Lib.uvarint x2 ++ (Lib.uvarint x3 ++ (strB t4 ++ (strB t5 ++ (strB t6))))))) ++ rest).length h0 h1 h2 h3 h4 h5 h6 (strB t0 ++ (Lib.uvarint x1 ++ (Lib.uvarint x2 ++ (Lib.uvarint x3 ++ (strB t4 ++ (strB t5 ++ (strB t6 ++ rest))))))) (Lib.uvarint x1 ++ (Lib.uvarint x2 ++ (Lib.uvarint x3 ++ (strB t4 ++ (strB t5 ++ (strB t6 ++ rest)))))) (Lib.uvarint x2 ++ (Lib.uvarint x3 ++ (strB t4 ++ (strB t5 ++ (strB t6 ++ rest))))) (Lib.uvarint x3 ++ (strB t4 ++ (strB t5 ++ (strB t6 ++ rest)))) (strB t4 ++ (strB t5 ++ (strB t6 ++ rest))) (strB t5 ++ (strB t6 ++ rest)) (strB t6 ++ rest) rest rfl rfl rfl rfl rfl rfl rfl hI1 hD (by rw [List.take_of_length_le (by simp)]; have e : (strB t0 ++ (Lib.uvarint x1 ++ (Lib.uvarint x2 ++ (Lib.uvarint x3 ++ (strB t4 ++ (strB t5 ++ (strB t6))))))) ++ rest = strB t0 ++ (Lib.uvarint x1 ++ (Lib.uvarint x2 ++ (Lib.uvarint x3 ++ (strB t4 ++ (strB t5 ++ (strB t6 ++ rest)))))) := (by simp); rw [← e]; exact hR1)).mono ?_
    rintro e w2 ⟨⟨m', hm', rfl, h1, h2⟩ | ⟨hm, _⟩, h3⟩
    · obtain rfl : m' = rest.length := by simp only [List.length_append] at hm'; omega
      rw [List.take_length] at h1
      exact ⟨rfl, h1, h3, h2⟩
    · simp only [List.length_append] at hm; omega)
  clear h0 h1 h2 h3 h4 h5 h6 hd hR hR4 hI
  generalize d.length = n at hgot hc ⊢
  generalize rest.length = mm at hgot ⊢
  go_enter Try.func17, Try.ntmps17
  go_wp2_with fail
  try simp only [hG]
  refine hgot.mono ?_
  clear hgot
  rintro e w3 ⟨w2, rfl, hI2, hK2, hK3⟩
  have hZ2 := (hZ.keeps hK2 (by omega)).keeps hK3 (by omega)
  have zl := hZ2.lt
  have z0 : w3.cell? ⟨w.heap.size, 0, none⟩ = some (.string ⟨#[]⟩) := hZ2.cell 0
  have zf0 := hZ2.frozen 0
  have z1 : w3.cell? ⟨w.heap.size, 1, none⟩ = some (.int .i64 0) := hZ2.cell 1
  have zf1 := hZ2.frozen 1
  have z2 : w3.cell? ⟨w.heap.size, 2, none⟩ = some (.int .i64 0) := hZ2.cell 2
  have zf2 := hZ2.frozen 2
  have z3 : w3.cell? ⟨w.heap.size, 3, none⟩ = some (.int .i64 0) := hZ2.cell 3
  have zf3 := hZ2.frozen 3
  have z4 : w3.cell? ⟨w.heap.size, 4, none⟩ = some (.string ⟨#[]⟩) := hZ2.cell 4
  have zf4 := hZ2.frozen 4
  have z5 : w3.cell? ⟨w.heap.size, 5, none⟩ = some (.string ⟨#[]⟩) := hZ2.cell 5
  have zf5 := hZ2.frozen 5
  have z6 : w3.cell? ⟨w.heap.size, 6, none⟩ = some (.string ⟨#[]⟩) := hZ2.cell 6
  have zf6 := hZ2.frozen 6
  have hI3 := hI2.keeps hK3 (by omega)
  have ql := hI3.lt
  have q0 : w3.cell? ⟨w.heap.size + 1, 0, none⟩ = some (.string t0) := hI3.cell 0
  have q1 : w3.cell? ⟨w.heap.size + 1, 1, none⟩ = some (.int .i64 x1) := hI3.cell 1
  have q2 : w3.cell? ⟨w.heap.size + 1, 2, none⟩ = some (.int .i64 x2) := hI3.cell 2
  have q3 : w3.cell? ⟨w.heap.size + 1, 3, none⟩ = some (.int .i64 x3) := hI3.cell 3
  have q4 : w3.cell? ⟨w.heap.size + 1, 4, none⟩ = some (.string t4) := hI3.cell 4
  have q5 : w3.cell? ⟨w.heap.size + 1, 5, none⟩ = some (.string t5) := hI3.cell 5
  have q6 : w3.cell? ⟨w.heap.size + 1, 6, none⟩ = some (.string t6) := hI3.cell 6
  go_wp2_with fail
  have hZ3 := (((((((hZ2.put 0 (.string t0)).put 1 (.int .i64 x1)).put 2 (.int .i64 x2)).put 3 (.int .i64 x3)).put 4 (.string t4)).put 5 (.string t5)).put 6 (.string t6))
  have hk3 := (((((((Keeps.refl (fun i => i = w.heap.size) w3).setCell (p := ⟨w.heap.size, 0, none⟩) (.inl rfl) (.string t0)).setCell (p := ⟨w.heap.size, 1, none⟩) (.inl rfl) (.int .i64 x1)).setCell (p := ⟨w.heap.size, 2, none⟩) (.inl rfl) (.int .i64 x2)).setCell (p := ⟨w.heap.size, 3, none⟩) (.inl rfl) (.int .i64 x3)).setCell (p := ⟨w.heap.size, 4, none⟩) (.inl rfl) (.string t4)).setCell (p := ⟨w.heap.size, 5, none⟩) (.inl rfl) (.string t5)).setCell (p := ⟨w.heap.size, 6, none⟩) (.inl rfl) (.string t6)
  have hld := run_loadVar_row (P := Try.prog) _ w.heap.size 36 36 _ (0, 0) _ hZ3 Try.underlying36 rfl infoHello
  refine bodyPost_ret (results_cell3 rfl _ ⟨w.heap.size, 0, none⟩ _ _ rfl hld) rfl ⟨rfl, ?_⟩
  exact ((k0.trans hK2 (fun i hi h => by omega)).trans hK3 (fun i hi h => by omega)).trans hk3 (fun i hi h => by omega)

set_option maxRecDepth 100000 in
set_option maxHeartbeats 2000000 in
theorem helloGet_err (w : World) (A : Option Addr) (c : Nat) (t0 : ByteArray) (x1 : Nat) (x2 : Nat) (x3 : Nat) (t4 : ByteArray) (t5 : ByteArray) (t6 : ByteArray) (h0 : t0.size ≤ 1000) (h1 : x1 < 2147483648) (h2 : x2 < 2147483648) (h3 : x3 < 2147483648) (h4 : t4.size ≤ 1000) (h5 : t5.size ≤ 1000) (h6 : t6.size ≤ 1000) (d : List UInt8) (m : Nat) (hm : m < (strB t0 ++ (Lib.uvarint x1 ++ (Lib.uvarint x2 ++ (Lib.uvarint x3 ++ (strB t4 ++ (strB t5 ++ (strB t6))))))).length) (hd : d = 0 :: (strB t0 ++ (Lib.uvarint x1 ++ (Lib.uvarint x2 ++ (Lib.uvarint x3 ++ (strB t4 ++ (strB t5 ++ (strB t6))))))).take m) (hR : Rd w 1 A d.length (Lib.byteCells d)) (hc : d.length ≤ c) (hA : ∀ i, ob A = some i → i < w.heap.size) :
    Calls Try.prog 17 #[.slice A d.length c] w fun e w' => e = .returned (.tuple #[.agg #[.string ⟨#[]⟩, .int .i64 0, .int .i64 0, .int .i64 0, .string ⟨#[]⟩, .string ⟨#[]⟩, .string ⟨#[]⟩], .int .i64 0, .bool false]) ∧ Keeps (fun _ => False) w w' := by
  have hmf : ∀ (fn : Fn) (first cap : Array Value) (w : World), (Instr.makeFunc fn first cap).run Try.prog w = .ok (.func fn first cap) w := fun _ _ _ _ => rfl
  have k0 := ((Keeps.refl (fun _ => False) w).alloc (.cells #[.string ⟨#[]⟩, .int .i64 0, .int .i64 0, .int .i64 0, .string ⟨#[]⟩, .string ⟨#[]⟩, .string ⟨#[]⟩] 36)).alloc (.cells #[.string ⟨#[]⟩, .int .i64 0, .int .i64 0, .int .i64 0, .string ⟨#[]⟩, .string ⟨#[]⟩, .string ⟨#[]⟩] 60)
  have hsz : (World.heap ((w.alloc (.cells #[.string ⟨#[]⟩, .int .i64 0, .int .i64 0, .int .i64 0, .string ⟨#[]⟩, .string ⟨#[]⟩, .string ⟨#[]⟩] 36)).alloc (.cells #[.string ⟨#[]⟩, .int .i64 0, .int .i64 0, .int .i64 0, .string ⟨#[]⟩, .string ⟨#[]⟩, .string ⟨#[]⟩] 60))).size = w.heap.size + 1 + 1 := by simp only [World.size_alloc]
  have hZ : Whole ((w.alloc (.cells #[.string ⟨#[]⟩, .int .i64 0, .int .i64 0, .int .i64 0, .string ⟨#[]⟩, .string ⟨#[]⟩, .string ⟨#[]⟩] 36)).alloc (.cells #[.string ⟨#[]⟩, .int .i64 0, .int .i64 0, .int .i64 0, .string ⟨#[]⟩, .string ⟨#[]⟩, .string ⟨#[]⟩] 60)) w.heap.size 36 #[.string ⟨#[]⟩, .int .i64 0, .int .i64 0, .int .i64 0, .string ⟨#[]⟩, .string ⟨#[]⟩, .string ⟨#[]⟩] := (Whole.new w 36 #[.string ⟨#[]⟩, .int .i64 0, .int .i64 0, .int .i64 0, .string ⟨#[]⟩, .string ⟨#[]⟩, .string ⟨#[]⟩]).alloc _
  have hI : Whole ((w.alloc (.cells #[.string ⟨#[]⟩, .int .i64 0, .int .i64 0, .int .i64 0, .string ⟨#[]⟩, .string ⟨#[]⟩, .string ⟨#[]⟩] 36)).alloc (.cells #[.string ⟨#[]⟩, .int .i64 0, .int .i64 0, .int .i64 0, .string ⟨#[]⟩, .string ⟨#[]⟩, .string ⟨#[]⟩] 60)) (w.heap.size + 1) 60 #[.string ⟨#[]⟩, .int .i64 0, .int .i64 0, .int .i64 0, .string ⟨#[]⟩, .string ⟨#[]⟩, .string ⟨#[]⟩] := by have h := Whole.new (w.alloc (.cells #[.string ⟨#[]⟩, .int .i64 0, .int .i64 0, .int .i64 0, .string ⟨#[]⟩, .string ⟨#[]⟩, .string ⟨#[]⟩] 36)) 60 #[.string ⟨#[]⟩, .int .i64 0, .int .i64 0, .int .i64 0, .string ⟨#[]⟩, .string ⟨#[]⟩, .string ⟨#[]⟩]; simp only [World.size_alloc] at h; exact h
  have hR4 : Rd ((w.alloc (.cells #[.string ⟨#[]⟩, .int .i64 0, .int .i64 0, .int .i64 0, .string ⟨#[]⟩, .string ⟨#[]⟩, .string ⟨#[]⟩] 36)).alloc (.cells #[.string ⟨#[]⟩, .int .i64 0, .int .i64 0, .int .i64 0, .string ⟨#[]⟩, .string ⟨#[]⟩, .string ⟨#[]⟩] 60)) 1 A d.length (Lib.byteCells d) := (hR.alloc _).alloc _
  generalize hG : ((w.alloc (.cells #[.string ⟨#[]⟩, .int .i64 0, .int .i64 0, .int .i64 0, .string ⟨#[]⟩, .string ⟨#[]⟩, .string ⟨#[]⟩] 36)).alloc (.cells #[.string ⟨#[]⟩, .int .i64 0, .int .i64 0, .int .i64 0, .string ⟨#[]⟩, .string ⟨#[]⟩, .string ⟨#[]⟩] 60)) = W4 at k0 hsz hZ hI hR4
  have hgot := got_errF W4 A c 0 0 rfl d ((strB t0 ++ (Lib.uvarint x1 ++ (Lib.uvarint x2 ++ (Lib.uvarint x3 ++ (strB t4 ++ (strB t5 ++ (strB t6))))))).take m) hd hR4 hc (fun i hi => by have := hA i hi; omega) 32 #[.pointer (some ⟨w.heap.size + 1, 0, none⟩)] fHelloDec (fun i => i = w.heap.size + 1) (by omega) (fun w2 => True) (by
    intro w1 Rx hR1 hK1
    have hI1 := hI.keeps hK1 (fun h => h)
    have hD : ob A ≠ some (w.heap.size + 1) := fun h => by have := hA _ h; omega
    refine (helloDecode w1 _ _ _ (w.heap.size + 1) (ob A) Rx t0 x1 x2 x3 t4 t5 t6 m h0 h1 h2 h3 h4 h5 h6 (strB t0 ++ (Lib.uvarint x1 ++ (Lib.uvarint x2 ++ (Lib.uvarint x3 ++ (strB t4 ++ (strB t5 ++ (strB t6 ++ []))))))) (Lib.uvarint x1 ++ (Lib.uvarint x2 ++ (Lib.uvarint x3 ++ (strB t4 ++ (strB t5 ++ (strB t6 ++ [])))))) (Lib.uvarint x2 ++ (Lib.uvarint x3 ++ (strB t4 ++ (strB t5 ++ (strB t6 ++ []))))) (Lib.uvarint x3 ++ (strB t4 ++ (strB t5 ++ (strB t6 ++ [])))) (strB t4 ++ (strB t5 ++ (strB t6 ++ []))) (strB t5 ++ (strB t6 ++ [])) (strB t6 ++ []) [] rfl rfl rfl rfl rfl rfl rfl hI1 hD (by have e : strB t0 ++ (Lib.uvarint x1 ++ (Lib.uvarint x2 ++ (Lib.uvarint x3 ++ (strB t4 ++ (strB t5 ++ (strB t6 ++ [])))))) = strB t0 ++ (Lib.uvarint x1 ++ (Lib.uvarint x2 ++ (Lib.uvarint x3 ++ (strB t4 ++ (strB t5 ++ (strB t6)))))) := (by simp); rw [e]; exact hR1)).mono ?_
    rintro e w2 ⟨⟨m', hm', _⟩ | ⟨_, z, rfl, hz⟩, h3⟩
    · simp only [List.length_append] at hm; omega
    · exact ⟨⟨z, rfl, hz⟩, h3, trivial⟩)
  clear h0 h1 h2 h3 h4 h5 h6 hd hm hR hR4 hI
  generalize d.length = n at hgot hc ⊢
  go_enter Try.func17, Try.ntmps17
  go_wp2_with fail
  try simp only [hG]
  refine hgot.mono ?_
  clear hgot
  rintro e w3 ⟨w2, rfl, hI2, hK2, hK3⟩
  have hZ2 := (hZ.keeps hK2 (by omega)).keeps hK3 (by omega)
  have zl := hZ2.lt
  have z0 : w3.cell? ⟨w.heap.size, 0, none⟩ = some (.string ⟨#[]⟩) := hZ2.cell 0
  have zf0 := hZ2.frozen 0
  have z1 : w3.cell? ⟨w.heap.size, 1, none⟩ = some (.int .i64 0) := hZ2.cell 1
  have zf1 := hZ2.frozen 1
  have z2 : w3.cell? ⟨w.heap.size, 2, none⟩ = some (.int .i64 0) := hZ2.cell 2
  have zf2 := hZ2.frozen 2
  have z3 : w3.cell? ⟨w.heap.size, 3, none⟩ = some (.int .i64 0) := hZ2.cell 3
  have zf3 := hZ2.frozen 3
  have z4 : w3.cell? ⟨w.heap.size, 4, none⟩ = some (.string ⟨#[]⟩) := hZ2.cell 4
  have zf4 := hZ2.frozen 4
  have z5 : w3.cell? ⟨w.heap.size, 5, none⟩ = some (.string ⟨#[]⟩) := hZ2.cell 5
  have zf5 := hZ2.frozen 5
  have z6 : w3.cell? ⟨w.heap.size, 6, none⟩ = some (.string ⟨#[]⟩) := hZ2.cell 6
  have zf6 := hZ2.frozen 6
  go_wp2_with fail
  have hZ3 := (((((((hZ2.put 0 (.string ⟨#[]⟩)).put 1 (.int .i64 0)).put 2 (.int .i64 0)).put 3 (.int .i64 0)).put 4 (.string ⟨#[]⟩)).put 5 (.string ⟨#[]⟩)).put 6 (.string ⟨#[]⟩))
  have hk3 := (((((((Keeps.refl (fun i => i = w.heap.size) w3).setCell (p := ⟨w.heap.size, 0, none⟩) (.inl rfl) (.string ⟨#[]⟩)).setCell (p := ⟨w.heap.size, 1, none⟩) (.inl rfl) (.int .i64 0)).setCell (p := ⟨w.heap.size, 2, none⟩) (.inl rfl) (.int .i64 0)).setCell (p := ⟨w.heap.size, 3, none⟩) (.inl rfl) (.int .i64 0)).setCell (p := ⟨w.heap.size, 4, none⟩) (.inl rfl) (.string ⟨#[]⟩)).setCell (p := ⟨w.heap.size, 5, none⟩) (.inl rfl) (.string ⟨#[]⟩)).setCell (p := ⟨w.heap.size, 6, none⟩) (.inl rfl) (.string ⟨#[]⟩)
  have hld := run_loadVar_row (P := Try.prog) _ w.heap.size 36 36 _ (0, 0) _ hZ3 Try.underlying36 rfl infoHello
  refine bodyPost_ret (results_cell3 rfl _ ⟨w.heap.size, 0, none⟩ _ _ rfl hld) rfl ⟨rfl, ?_⟩
  exact ((k0.trans hK2 (fun i hi h => by omega)).trans hK3 (fun i hi h => by omega)).trans hk3 (fun i hi h => by omega)

set_option maxRecDepth 100000 in
set_option maxHeartbeats 2000000 in
theorem helloGet_none (w : World) (A : Option Addr) (c : Nat)  (hA : ∀ i, ob A = some i → i < w.heap.size) :
    Calls Try.prog 17 #[.slice A 0 c] w fun e w' => e = .returned (.tuple #[.agg #[.string ⟨#[]⟩, .int .i64 0, .int .i64 0, .int .i64 0, .string ⟨#[]⟩, .string ⟨#[]⟩, .string ⟨#[]⟩], .int .i64 0, .bool false]) ∧ Keeps (fun _ => False) w w' := by
  have hmf : ∀ (fn : Fn) (first cap : Array Value) (w : World), (Instr.makeFunc fn first cap).run Try.prog w = .ok (.func fn first cap) w := fun _ _ _ _ => rfl
  have k0 := ((Keeps.refl (fun _ => False) w).alloc (.cells #[.string ⟨#[]⟩, .int .i64 0, .int .i64 0, .int .i64 0, .string ⟨#[]⟩, .string ⟨#[]⟩, .string ⟨#[]⟩] 36)).alloc (.cells #[.string ⟨#[]⟩, .int .i64 0, .int .i64 0, .int .i64 0, .string ⟨#[]⟩, .string ⟨#[]⟩, .string ⟨#[]⟩] 60)
  have hsz : (World.heap ((w.alloc (.cells #[.string ⟨#[]⟩, .int .i64 0, .int .i64 0, .int .i64 0, .string ⟨#[]⟩, .string ⟨#[]⟩, .string ⟨#[]⟩] 36)).alloc (.cells #[.string ⟨#[]⟩, .int .i64 0, .int .i64 0, .int .i64 0, .string ⟨#[]⟩, .string ⟨#[]⟩, .string ⟨#[]⟩] 60))).size = w.heap.size + 1 + 1 := by simp only [World.size_alloc]
  have hZ : Whole ((w.alloc (.cells #[.string ⟨#[]⟩, .int .i64 0, .int .i64 0, .int .i64 0, .string ⟨#[]⟩, .string ⟨#[]⟩, .string ⟨#[]⟩] 36)).alloc (.cells #[.string ⟨#[]⟩, .int .i64 0, .int .i64 0, .int .i64 0, .string ⟨#[]⟩, .string ⟨#[]⟩, .string ⟨#[]⟩] 60)) w.heap.size 36 #[.string ⟨#[]⟩, .int .i64 0, .int .i64 0, .int .i64 0, .string ⟨#[]⟩, .string ⟨#[]⟩, .string ⟨#[]⟩] := (Whole.new w 36 #[.string ⟨#[]⟩, .int .i64 0, .int .i64 0, .int .i64 0, .string ⟨#[]⟩, .string ⟨#[]⟩, .string ⟨#[]⟩]).alloc _
  have hI : Whole ((w.alloc (.cells #[.string ⟨#[]⟩, .int .i64 0, .int .i64 0, .int .i64 0, .string ⟨#[]⟩, .string ⟨#[]⟩, .string ⟨#[]⟩] 36)).alloc (.cells #[.string ⟨#[]⟩, .int .i64 0, .int .i64 0, .int .i64 0, .string ⟨#[]⟩, .string ⟨#[]⟩, .string ⟨#[]⟩] 60)) (w.heap.size + 1) 60 #[.string ⟨#[]⟩, .int .i64 0, .int .i64 0, .int .i64 0, .string ⟨#[]⟩, .string ⟨#[]⟩, .string ⟨#[]⟩] := by have h := Whole.new (w.alloc (.cells #[.string ⟨#[]⟩, .int .i64 0, .int .i64 0, .int .i64 0, .string ⟨#[]⟩, .string ⟨#[]⟩, .string ⟨#[]⟩] 36)) 60 #[.string ⟨#[]⟩, .int .i64 0, .int .i64 0, .int .i64 0, .string ⟨#[]⟩, .string ⟨#[]⟩, .string ⟨#[]⟩]; simp only [World.size_alloc] at h; exact h
  generalize hG : ((w.alloc (.cells #[.string ⟨#[]⟩, .int .i64 0, .int .i64 0, .int .i64 0, .string ⟨#[]⟩, .string ⟨#[]⟩, .string ⟨#[]⟩] 36)).alloc (.cells #[.string ⟨#[]⟩, .int .i64 0, .int .i64 0, .int .i64 0, .string ⟨#[]⟩, .string ⟨#[]⟩, .string ⟨#[]⟩] 60)) = W4 at k0 hsz hZ hI
  have hgot := got_noneF W4 A c 0 (by omega) (fun i hi => by have := hA i hi; omega) 32 #[.pointer (some ⟨w.heap.size + 1, 0, none⟩)]
  clear hI
  go_enter Try.func17, Try.ntmps17
  go_wp2_with fail
  try simp only [hG]
  refine hgot.mono ?_
  clear hgot
  rintro e w3 ⟨rfl, hK3⟩
  have hZ2 := hZ.keeps hK3 (fun h => h)
  have zl := hZ2.lt
  have z0 : w3.cell? ⟨w.heap.size, 0, none⟩ = some (.string ⟨#[]⟩) := hZ2.cell 0
  have zf0 := hZ2.frozen 0
  have z1 : w3.cell? ⟨w.heap.size, 1, none⟩ = some (.int .i64 0) := hZ2.cell 1
  have zf1 := hZ2.frozen 1
  have z2 : w3.cell? ⟨w.heap.size, 2, none⟩ = some (.int .i64 0) := hZ2.cell 2
  have zf2 := hZ2.frozen 2
  have z3 : w3.cell? ⟨w.heap.size, 3, none⟩ = some (.int .i64 0) := hZ2.cell 3
  have zf3 := hZ2.frozen 3
  have z4 : w3.cell? ⟨w.heap.size, 4, none⟩ = some (.string ⟨#[]⟩) := hZ2.cell 4
  have zf4 := hZ2.frozen 4
  have z5 : w3.cell? ⟨w.heap.size, 5, none⟩ = some (.string ⟨#[]⟩) := hZ2.cell 5
  have zf5 := hZ2.frozen 5
  have z6 : w3.cell? ⟨w.heap.size, 6, none⟩ = some (.string ⟨#[]⟩) := hZ2.cell 6
  have zf6 := hZ2.frozen 6
  go_wp2_with fail
  have hZ3 := (((((((hZ2.put 0 (.string ⟨#[]⟩)).put 1 (.int .i64 0)).put 2 (.int .i64 0)).put 3 (.int .i64 0)).put 4 (.string ⟨#[]⟩)).put 5 (.string ⟨#[]⟩)).put 6 (.string ⟨#[]⟩))
  have hk3 := (((((((Keeps.refl (fun i => i = w.heap.size) w3).setCell (p := ⟨w.heap.size, 0, none⟩) (.inl rfl) (.string ⟨#[]⟩)).setCell (p := ⟨w.heap.size, 1, none⟩) (.inl rfl) (.int .i64 0)).setCell (p := ⟨w.heap.size, 2, none⟩) (.inl rfl) (.int .i64 0)).setCell (p := ⟨w.heap.size, 3, none⟩) (.inl rfl) (.int .i64 0)).setCell (p := ⟨w.heap.size, 4, none⟩) (.inl rfl) (.string ⟨#[]⟩)).setCell (p := ⟨w.heap.size, 5, none⟩) (.inl rfl) (.string ⟨#[]⟩)).setCell (p := ⟨w.heap.size, 6, none⟩) (.inl rfl) (.string ⟨#[]⟩)
  have hld := run_loadVar_row (P := Try.prog) _ w.heap.size 36 36 _ (0, 0) _ hZ3 Try.underlying36 rfl infoHello
  refine bodyPost_ret (results_cell3 rfl _ ⟨w.heap.size, 0, none⟩ _ _ rfl hld) rfl ⟨rfl, ?_⟩
  exact (k0.trans hK3 (fun _ _ h => h)).trans hk3 (fun i hi h => by omega)
end Go.Proofs.Ytgnlfbekkddmiaa
