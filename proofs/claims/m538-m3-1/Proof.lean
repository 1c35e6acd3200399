import JvmDerived
import JvmDerived.Pilot.@@N@@Statement
import JvmDerived.Pilot.@@N@@Code
set_option linter.unusedVariables false
set_option linter.unusedSimpArgs false
namespace Jvm.Pilot.@@N@@
open Jvm Jvm.ClassFile Sem Op Lib Jvm.Free Jvm.Stand Jvm.LawKit Jvm.RoadKit Bundle Jvm.Pilot.@@N@@.Jvm.D
section OwnKit
variable {p : Program} {l : Launch} {e : Env} {R : Room} {s : State} {m : MethodId} {args : Array Value} {below : List Frame} {meth : Method} {c : Code} {T T' : State} {locs : List Loc} {cells slots : Nat} {h : Heap} {Q : Option Value → Heap → List Loc → Prop} {kc ks : Nat} {g g' : JFrame}
/-- from this state and frame the method comes to its end, and what it leaves is Q -/
def Gl (p : Program) (e : Env) (below : List Frame) (s : State) (Q : Option Value → Heap → List Loc → Prop) (kc ks : Nat) (T : State) (g : JFrame) : Prop :=
  ∃ s₂ o, Steps p.tables e below (T.setTop g) s₂ ∧ s₂.status = .running ∧ Ended s₂ below o ∧ ∃ v L, o = .returned v ∧ Q v s₂.heap L ∧ FrameEnd s o s₂ L kc ks
theorem Gl.st (h : ∀ t, Steps p.tables e below (T'.setTop g') t → Steps p.tables e below (T.setTop g) t) (k : Gl p e below s Q kc ks T' g') : Gl p e below s Q kc ks T g := by
  obtain ⟨s₂, o, h1, r⟩ := k
  exact ⟨s₂, o, h _ h1, r⟩
theorem Gl.ret (X : Stand p l e R s m args below meth c T locs cells slots) (hlk : meth.locks = false) (v : Option Value) (hv : meth.sig.returnType = none → v = none) (eT : T.heap = h) (hc : cells ≤ kc) (hs : slots ≤ ks)
    (hst : ∀ fs, (∀ (f : JFrame) (acts : List Action), f.method = m → f.locked = none → f.entered = [] → (doReturn e (T.setTop f) acts v).1 = T.setFrames fs) → Steps p.tables e below (T.setTop g) (T.setFrames fs))
    (hq : Q v h locs) : Gl p e below s Q kc ks T g := by
  obtain ⟨fs, hr, hrun, hended, hW, hsame⟩ := X.leave (v := v) hv hlk
  refine ⟨_, _, hst fs hr, hrun, hended, v, locs, rfl, ?_, ⟨_, rfl⟩, hW, hsame.mono hc hs⟩
  show Q v T.heap locs
  rw [eT]; exact hq
theorem Gl.retI (X : Stand p l e R s m args below meth c T locs cells slots) (hx : p.tables.exec = Jvm.exec) (hlk : meth.locks = false) {pc : Nat} {Ls : Array Slot} {z : Int32} {rest : List Value} (hret : meth.sig.returnType = some .int) (hd : decode c.code pc = .ok (.ireturn, 1)) (eT : T.heap = h) (hc : cells ≤ kc) (hs : slots ≤ ks)
    (hq : Q (some (.int z)) h locs) : Gl p e below s Q kc ks T (mkF m pc Ls (.int z :: rest)) := by
  refine Gl.ret X hlk (some (.int z)) (fun q => by rw [hret] at q; cases q) eT hc hs (fun fs hl => ?_) hq
  exact retOut X hx hret (t := .int) rfl (Or.inl ⟨rfl, Or.inl rfl, _, rfl⟩) hd hl
theorem Gl.retZ (X : Stand p l e R s m args below meth c T locs cells slots) (hx : p.tables.exec = Jvm.exec) (hlk : meth.locks = false) {pc : Nat} {Ls : Array Slot} {z : Int32} {rest : List Value} (t : FieldType) (ht : t = .boolean ∨ t = .byte ∨ t = .char ∨ t = .short) (hret : meth.sig.returnType = some t) (hd : decode c.code pc = .ok (.ireturn, 1)) (eT : T.heap = h) (hc : cells ≤ kc) (hs : slots ≤ ks)
    (hq : Q (some (.int (nar t z))) h locs) : Gl p e below s Q kc ks T (mkF m pc Ls (.int z :: rest)) := by
  refine Gl.ret X hlk (some (.int (nar t z))) (fun q => by rw [hret] at q; cases q) eT hc hs (fun fs hl => ?_) hq
  exact retN X hx (t := t) hret ht hd hl
theorem Gl.retL (X : Stand p l e R s m args below meth c T locs cells slots) (hx : p.tables.exec = Jvm.exec) (hlk : meth.locks = false) {pc : Nat} {Ls : Array Slot} {z : Int64} (hret : meth.sig.returnType = some .long) (hd : decode c.code pc = .ok (.lreturn, 1)) (eT : T.heap = h) (hc : cells ≤ kc) (hs : slots ≤ ks)
    (hq : Q (some (.long z)) h locs) : Gl p e below s Q kc ks T (mkF m pc Ls [.long z]) := by
  refine Gl.ret X hlk (some (.long z)) (fun q => by rw [hret] at q; cases q) eT hc hs (fun fs hl => ?_) hq
  exact X.lreturnOut hx hret hd hl
theorem Gl.retV (X : Stand p l e R s m args below meth c T locs cells slots) (hx : p.tables.exec = Jvm.exec) (hlk : meth.locks = false) {pc : Nat} {Ls : Array Slot} (hret : meth.sig.returnType = none) (hd : decode c.code pc = .ok (.return_, 1)) (eT : T.heap = h) (hc : cells ≤ kc) (hs : slots ≤ ks)
    (hq : Q none h locs) : Gl p e below s Q kc ks T (mkF m pc Ls []) := by
  refine Gl.ret X hlk none (fun _ => rfl) eT hc hs (fun fs hl => ?_) hq
  exact X.returnOut hx hret hd hl
end OwnKit

theorem own_z0 : nar .boolean (0 : Int32) = 0 := by decide
theorem own_z1 : nar .boolean (1 : Int32) = 1 := by decide
theorem own_nn (x : Int32) : 0 ≤ (x &&& (2147483647 : Int32)).toInt := by
  rw [c_mask x 2147483647 31 (by decide) (by decide)]
  exact Int.emod_nonneg _ (by decide)
theorem own_lt {x y : Int32} (h : x.toInt < y.toInt) : x < y := Int32.lt_iff_toInt_lt.mpr h
theorem own_nlt {x y : Int32} (h : y.toInt ≤ x.toInt) : ¬ x < y := fun q => by
  have := Int32.lt_iff_toInt_lt.mp q; omega
theorem own_eq {x y : Int32} (h : x.toInt = y.toInt) : x = y := Int32.toInt_inj.mp h
theorem own_ltI {x y : Int32} (h : x < y) : x.toInt < y.toInt := Int32.lt_iff_toInt_lt.mp h
theorem own_nltI {x y : Int32} (h : ¬ x < y) : y.toInt ≤ x.toInt := by
  rcases Int.lt_or_le x.toInt y.toInt with q | q
  · exact absurd (own_lt q) h
  · exact q
theorem own_rem {x y : Int32} (hx : 0 ≤ x.toInt) (hy : 0 < y.toInt) : 0 ≤ (x % y).toInt ∧ (x % y).toInt < y.toInt := by
  have h := (c_irem x y y.toInt rfl).1 hx
  rw [h]; exact ⟨Int.emod_nonneg _ (by omega), Int.emod_lt_of_pos _ hy⟩
theorem own_add {x y : Int32} (h1 : -2147483648 ≤ x.toInt + y.toInt) (h2 : x.toInt + y.toInt < 2147483648) : (x + y).toInt = x.toInt + y.toInt := by
  have a := c_iadd x y; have b := (x + y).toInt_lt; have c := (x + y).le_toInt; omega
theorem own_sub {x y : Int32} (h1 : -2147483648 ≤ x.toInt - y.toInt) (h2 : x.toInt - y.toInt < 2147483648) : (x - y).toInt = x.toInt - y.toInt := by
  have a := c_isub x y; have b := (x - y).toInt_lt; have c := (x - y).le_toInt; omega
theorem own_and (x : Int32) (m : Int32) (k : Nat) (hk : k ≤ 31) (hm : m.toBitVec.toNat = 2 ^ k - 1) : 0 ≤ (x &&& m).toInt ∧ (x &&& m).toInt ≤ m.toInt ∧ (x &&& m).toInt = x.toInt % (2 ^ k : Nat) := by
  have h := c_mask x m k hk hm
  have hm0 : 0 ≤ m.toInt := by
    have e : m.toInt = m.toBitVec.toInt := rfl
    have q : 2 ^ k ≤ 2 ^ 31 := Nat.pow_le_pow_right (by decide) hk
    have l := m.toBitVec.isLt
    rw [e, BitVec.toInt_eq_toNat_cond, hm]; split <;> omega
  exact ⟨(c_and x m hm0).1, (c_and x m hm0).2, h⟩
def own_t (a : Int64) (n : Int32) : Int64 := if (0 : Int32) < n then a + n.toInt64 * (1000 : Int64) else (9223372036854775807 : Int64)
theorem own_gap {a v g : Int64} {n : Int32} (hn : (0 : Int32) < n) (e : own_t a n = v) (f : v - a = g) : g.toInt = n.toInt * 1000 ∧ 0 < n.toInt := by
  have h0 : (0 : Int32).toInt < n.toInt := own_ltI hn
  have z : (0 : Int32).toInt = 0 := by decide
  have u := n.toInt_lt
  unfold own_t at e
  rw [if_pos hn] at e
  have e2 : g = n.toInt64 * (1000 : Int64) := by rw [← f, ← e, Int64.add_comm, Int64.add_sub_cancel]
  have k : (1000 : Int64).toInt = 1000 := by decide
  have q := c_lmul n.toInt64 (1000 : Int64)
  rw [← e2, c_i2l, k] at q
  have b1 := g.toInt_lt; have b2 := g.le_toInt
  exact ⟨by omega, by omega⟩
theorem own_g1 {g : Int64} {n : Int32} (h : g.toInt = n.toInt * 1000 ∧ 0 < n.toInt) : (0 : Int64) < g := by
  rw [Int64.lt_iff_toInt_lt]; show (0 : Int) < _; omega
theorem own_g2 {g : Int64} {n : Int32} (h : g.toInt = n.toInt * 1000 ∧ 0 < n.toInt) : (g - (g / (1000 : Int64)) * (1000 : Int64)) = (0 : Int64) := by
  have q := (c_lrem g (1000 : Int64) 1000 (by decide)).1 (by omega)
  apply Int64.toInt_inj.mp
  rw [q]; show _ = (0 : Int); omega
theorem own_g3 {g : Int64} {n : Int32} (h : g.toInt = n.toInt * 1000 ∧ 0 < n.toInt) : (g / (1000 : Int64)) = (n.toInt64) := by
  have q := (c_ldiv g (1000 : Int64) 1000 (by decide) (by decide)).1 (by omega)
  apply Int64.toInt_inj.mp
  rw [q, c_i2l]; omega
theorem own_mx {a v : Int64} {n : Int32} (hn : ¬ (0 : Int32) < n) (e : own_t a n = v) : v = (9223372036854775807 : Int64) := by
  rw [← e]; unfold own_t; rw [if_neg hn]
theorem d1_0 : decode prog_58_method_11_code 0 = .ok (.iload_n 2, 1) := by decide +kernel
theorem d1_1 : decode prog_58_method_11_code 1 = .ok (.ifCond .le 14, 3) := by decide +kernel
theorem d1_4 : decode prog_58_method_11_code 4 = .ok (.lload_n 0, 1) := by decide +kernel
theorem d1_5 : decode prog_58_method_11_code 5 = .ok (.iload_n 2, 1) := by decide +kernel
theorem d1_6 : decode prog_58_method_11_code 6 = .ok (.i2l, 1) := by decide +kernel
theorem d1_7 : decode prog_58_method_11_code 7 = .ok (.ldc2_w 69, 3) := by decide +kernel
theorem d1_10 : decode prog_58_method_11_code 10 = .ok (.lmul, 1) := by decide +kernel
theorem d1_11 : decode prog_58_method_11_code 11 = .ok (.ladd, 1) := by decide +kernel
theorem d1_12 : decode prog_58_method_11_code 12 = .ok (.goto 6, 3) := by decide +kernel
theorem d1_15 : decode prog_58_method_11_code 15 = .ok (.ldc2_w 73, 3) := by decide +kernel
theorem d1_18 : decode prog_58_method_11_code 18 = .ok (.lreturn, 1) := by decide +kernel
theorem pn_0 : plainName "com/example/passivation/passivation/StoredSession" = true := by first | (simp [plainName, overriddenIn]; done) | decide +kernel
theorem ef_1 (m : MethodId) (p1 : Int64) (p2 : Int32) : entryFrame m #[(.long p1), (.int p2)] 3 = mkF m 0 #[.val (.long p1), .second, .val (.int p2)] [] := by first | (simp [entryFrame, mkF, argsToLocals, Value.category]; done) | rfl
def Q1 (Z : State) (p1 : Int64) (p2 : Int32)  (h0 : Heap) (n0 : Nat) (v : Option Value) (h : Heap) (L : List Loc) : Prop := v = some (.long (own_t p1 p2)) ∧ Fr n0 L ∧ h = h0
set_option maxRecDepth 65536 in
set_option maxHeartbeats 40000000 in
theorem rm1 (l : Launch) (Z : State) (a0 : Array Value) (hw : ∀ d ∈ tables_1, d.before a0 Z = true) (p1 : Int64) (p2 : Int32)  (h0 : Heap) (n0 : Nat) (Z0 : n0 ≤ h0.size)  :
    MetFree l (⟨"com/example/passivation/passivation/StoredSession", "timesOutAt", "(JI)J"⟩ : MethodName) (head1 [Jvm.Cond.code (⟨"com/example/passivation/passivation/StoredSession", "timesOutAt", "(JI)J"⟩ : MethodName) prog_58_method_11_code 3 (some .long)] ({ frames := 0, cells := 0, slots := 0, locals := 0 } : Room)) (fun a U => a = #[(.long p1), (.int p2)] ∧ Z.Warmed39 U.vm ∧ U.heap = h0) (fun _ _ _ _ _ => True) (fun _ U o U' => ∃ v L, o = .returned v ∧ Q1 Z p1 p2  h0 n0 v U'.heap L ∧ FrameEnd U o U' L ({ frames := 0, cells := 0, slots := 0, locals := 0 } : Room).cells ({ frames := 0, cells := 0, slots := 0, locals := 0 } : Room).slots) := by
  refine MetFree.of_bodySF (plainFor_of_name pn_0) hisR ?_
  intro p e s m args below meth c s₁ Bd hml0 hP hK
  obtain ⟨rfl, hZ, hh⟩ := hP
  have hx := Bd.exec
  have hby := Bd.bytes
  have hlk : meth.locks = false := Bd.notSynchronized
  have hml : c.maxLocals = 3 := hml0
  have hown : s.vm.findClass "com/example/passivation/passivation/StoredSession" = some m.cls := findClass_of_methodNamed Bd.named
  have hnm := (name_of_methodNamed Bd.named Bd.method).1
  have X0 : Stand p l e ({ frames := 0, cells := 0, slots := 0, locals := 0 } : Room) s m #[(.long p1), (.int p2)] below meth c s₁ [] 0 0 := Stand.of_body Bd
  have e0 : s₁.heap = h0 := by rw [← hh, Bd.state]; rfl
  have N0 := Fr.nil n0
  show Gl p e below s (Q1 Z p1 p2  h0 n0) 0 0 s₁ (entryFrame m #[(.long p1), (.int p2)] 3)
  rw [ef_1 m p1 p2]
  refine Gl.st (g' := (mkF m 1 #[.val (.long p1), .second, .val (.int p2)] [(.int p2)])) (fun t k => XS.iloadN X0.here hx rfl (hb hby d1_0) rfl k) ?_
  by_cases c1 : (0 : Int32) < p2
  · skip
    refine Gl.st (g' := (mkF m 4 #[.val (.long p1), .second, .val (.int p2)] [])) (fun t k => XS.ifNo X0.here hx rfl (hb hby d1_1) rfl (XT.i0_le_f c1) k) ?_
    refine Gl.st (g' := (mkF m 5 #[.val (.long p1), .second, .val (.int p2)] [(.long p1)])) (fun t k => XS.lloadN X0.here hx rfl (hb hby d1_4) rfl k) ?_
    refine Gl.st (g' := (mkF m 6 #[.val (.long p1), .second, .val (.int p2)] [(.int p2), (.long p1)])) (fun t k => XS.iloadN X0.here hx rfl (hb hby d1_5) rfl k) ?_
    refine Gl.st (g' := (mkF m 7 #[.val (.long p1), .second, .val (.int p2)] [(.long (p2.toInt64)), (.long p1)])) (fun t k => XS.i2l X0.here hx rfl (hb hby d1_6) rfl k) ?_
    refine Gl.st (g' := (mkF m 10 #[.val (.long p1), .second, .val (.int p2)] [(.long (1000 : Int64)), (.long (p2.toInt64)), (.long p1)])) (fun t k => X0.ldc2J hx hown (mvT hZ (hw _ (List.mem_of_getElem? (i := 4) rfl))) rfl (hb hby d1_7) k) ?_
    refine Gl.st (g' := (mkF m 11 #[.val (.long p1), .second, .val (.int p2)] [(.long ((p2.toInt64) * (1000 : Int64))), (.long p1)])) (fun t k => XS.lmul X0.here hx rfl (hb hby d1_10) rfl k) ?_
    refine Gl.st (g' := (mkF m 12 #[.val (.long p1), .second, .val (.int p2)] [(.long (p1 + ((p2.toInt64) * (1000 : Int64))))])) (fun t k => XS.ladd X0.here hx rfl (hb hby d1_11) rfl k) ?_
    refine Gl.st (g' := (mkF m 18 #[.val (.long p1), .second, .val (.int p2)] [(.long (p1 + ((p2.toInt64) * (1000 : Int64))))])) (fun t k => XS.goto X0.here hx rfl (pc0 := 12) (pc' := 18) rfl (hb hby d1_12) (by decide) (by decide) k) ?_
    refine Gl.retL X0 hx hlk Bd.returns (hb hby d1_18) e0 (by decide) (by decide) ?_
    refine ⟨?_, N0, rfl⟩
    unfold own_t
    rw [if_pos c1]
  · skip
    refine Gl.st (g' := (mkF m 15 #[.val (.long p1), .second, .val (.int p2)] [])) (fun t k => XS.ifYes X0.here hx rfl (pc0 := 1) (pc' := 15) rfl (hb hby d1_1) rfl (XT.i0_le_t c1) (by decide) (by decide) k) ?_
    refine Gl.st (g' := (mkF m 18 #[.val (.long p1), .second, .val (.int p2)] [(.long (9223372036854775807 : Int64))])) (fun t k => X0.ldc2J hx hown (mvT hZ (hw _ (List.mem_of_getElem? (i := 6) rfl))) rfl (hb hby d1_15) k) ?_
    refine Gl.retL X0 hx hlk Bd.returns (hb hby d1_18) e0 (by decide) (by decide) ?_
    refine ⟨?_, N0, rfl⟩
    unfold own_t
    rw [if_neg c1]
theorem pd_0 : parseMethodDescriptor "(JI)J" = some ⟨[.long, .int], some .long⟩ := by decide +kernel
theorem pn_1 : plainName "com/example/passivation/passivation/StoredSessionTimesOutAtPinLaw" = true := by first | (simp [plainName, overriddenIn]; done) | decide +kernel
theorem ef_0 (m : MethodId) (p1 : Int64) (p2 : Int32) : entryFrame m #[(.long p1), (.int p2)] maxLocals = mkF m 0 #[.val (.long p1), .second, .val (.int p2), .unset, .unset, .unset, .unset] [] := by first | (simp [entryFrame, mkF, argsToLocals, Value.category, maxLocals]; done) | rfl
def Q0 (Z : State) (p1 : Int64) (p2 : Int32)  (h0 : Heap) (n0 : Nat) (v : Option Value) (h : Heap) (L : List Loc) : Prop := v = some (.int 1) ∧ Fr n0 L
set_option maxRecDepth 65536 in
set_option maxHeartbeats 40000000 in
theorem rm0 (l : Launch) (Z : State) (a0 : Array Value) (hw : ∀ d ∈ tables_1, d.before a0 Z = true) (ws : List Jvm.Cond) (p1 : Int64) (p2 : Int32)  (h0 : Heap) (n0 : Nat) (Z0 : n0 ≤ h0.size)  :
    MetFree l x (head1 (Jvm.Cond.code x code maxLocals ret :: ws) room_1) (fun a U => a = #[(.long p1), (.int p2)] ∧ Z.Warmed39 U.vm ∧ U.heap = h0) (fun _ _ _ _ _ => True) (fun _ U o U' => ∃ v L, o = .returned v ∧ Q0 Z p1 p2  h0 n0 v U'.heap L ∧ FrameEnd U o U' L 0 0) := by
  refine MetFree.of_bodySF (plainFor_of_name pn_1) hisR ?_
  intro p e s m args below meth c s₁ Bd hml0 hP hK
  obtain ⟨rfl, hZ, hh⟩ := hP
  have hx := Bd.exec
  have hby := Bd.bytes
  have hlk : meth.locks = false := Bd.notSynchronized
  have hml : c.maxLocals = 7 := hml0
  have hown : s.vm.findClass "com/example/passivation/passivation/StoredSessionTimesOutAtPinLaw" = some m.cls := findClass_of_methodNamed Bd.named
  have hnm := (name_of_methodNamed Bd.named Bd.method).1
  have X0 : Stand p l e room_1 s m #[(.long p1), (.int p2)] below meth c s₁ [] 0 0 := Stand.of_body Bd
  have e0 : s₁.heap = h0 := by rw [← hh, Bd.state]; rfl
  have N0 := Fr.nil n0
  show Gl p e below s (Q0 Z p1 p2  h0 n0) 0 0 s₁ (entryFrame m #[(.long p1), (.int p2)] maxLocals)
  rw [ef_0 m p1 p2]
  refine Gl.st (g' := (mkF m 1 #[.val (.long p1), .second, .val (.int p2), .unset, .unset, .unset, .unset] [(.long p1)])) (fun t k => XS.lloadN X0.here hx rfl (hb hby at_0) rfl k) ?_
  refine Gl.st (g' := (mkF m 2 #[.val (.long p1), .second, .val (.int p2), .unset, .unset, .unset, .unset] [(.int p2), (.long p1)])) (fun t k => XS.iloadN X0.here hx rfl (hb hby at_1) rfl k) ?_
  obtain ⟨_, _, ⟨T2, L2, k2, n2⟩, -, X2, ⟨Lc2, hQ2, l2, y2, z2⟩, st2⟩ := Jvm.LawKit.callS X0 hx (y := (⟨"com/example/passivation/passivation/StoredSession", "timesOutAt", "(JI)J"⟩ : MethodName)) hown (mvT hZ (hw _ (List.mem_of_getElem? (i := 0) rfl))) (mvT hZ (hw _ (List.mem_of_getElem? (i := 1) rfl))) (mvT hZ (hw _ (List.mem_of_getElem? (i := 2) rfl))) (mvT hZ (hw _ (List.mem_of_getElem? (i := 3) rfl))) (by decide) (backOf (W := 0) (rm1 l Z a0 hw p1 p2  h0 n0 Z0 ) hZ (hw _ (List.mem_of_getElem? (i := 3) rfl)) (hw _ (List.mem_of_getElem? (i := 2) rfl)) (by decide) (by decide)) (g := (mkF m 2 #[.val (.long p1), .second, .val (.int p2), .unset, .unset, .unset, .unset] [(.int p2), (.long p1)])) rfl (by rw [hml]; rfl) (argsL := [(.long p1), (.int p2)]) (rest := []) (lenOf pd_0 rfl) rfl (by show 2 * 0 + _ ≤ _; exact Nat.le_of_eq rfl) (hb hby at_2) (fun _ _ => ⟨rfl, e0, (by decide : 0 + 0 ≤ _), (by decide : 0 + 0 ≤ _)⟩)
  dsimp only [Pt.U, Pt.locs, Pt.cells, Pt.slots] at X2 l2 y2 z2 st2 hQ2
  subst l2 y2 z2
  obtain ⟨rfl, Nq2, e2⟩ := hQ2
  have N2 := Fr.app N0 Nq2
  refine Gl.st (g' := (mkF m 5 #[.val (.long p1), .second, .val (.int p2), .unset, .unset, .unset, .unset] [(.long (own_t p1 p2))])) st2 ?_
  generalize hv3 : (own_t p1 p2) = v3
  refine Gl.st (g' := (mkF m 6 #[.val (.long p1), .second, .val (.int p2), .val (.long v3), .second, .unset, .unset] [])) (fun t k => XS.lstoreN X2.here hx rfl (hb hby at_5) rfl (l' := #[.val (.long p1), .second, .val (.int p2), .val (.long v3), .second, .unset, .unset]) rfl k) ?_
  refine Gl.st (g' := (mkF m 7 #[.val (.long p1), .second, .val (.int p2), .val (.long v3), .second, .unset, .unset] [(.int p2)])) (fun t k => XS.iloadN X2.here hx rfl (hb hby at_6) rfl k) ?_
  by_cases c4 : (0 : Int32) < p2
  · skip
    refine Gl.st (g' := (mkF m 24 #[.val (.long p1), .second, .val (.int p2), .val (.long v3), .second, .unset, .unset] [])) (fun t k => XS.ifYes X2.here hx rfl (pc0 := 7) (pc' := 24) rfl (hb hby at_7) rfl (XT.i0_gt_t c4) (by decide) (by decide) k) ?_
    refine Gl.st (g' := (mkF m 25 #[.val (.long p1), .second, .val (.int p2), .val (.long v3), .second, .unset, .unset] [(.long v3)])) (fun t k => XS.lloadN X2.here hx rfl (hb hby at_24) rfl k) ?_
    refine Gl.st (g' := (mkF m 26 #[.val (.long p1), .second, .val (.int p2), .val (.long v3), .second, .unset, .unset] [(.long p1), (.long v3)])) (fun t k => XS.lloadN X2.here hx rfl (hb hby at_25) rfl k) ?_
    refine Gl.st (g' := (mkF m 27 #[.val (.long p1), .second, .val (.int p2), .val (.long v3), .second, .unset, .unset] [(.long (v3 - p1))])) (fun t k => XS.lsub X2.here hx rfl (hb hby at_26) rfl k) ?_
    generalize hv5 : (v3 - p1) = v5
    refine Gl.st (g' := (mkF m 29 #[.val (.long p1), .second, .val (.int p2), .val (.long v3), .second, .val (.long v5), .second] [])) (fun t k => XS.lstore X2.here hx rfl (hb hby at_27) rfl (l' := #[.val (.long p1), .second, .val (.int p2), .val (.long v3), .second, .val (.long v5), .second]) rfl k) ?_
    have hG := own_gap c4 hv3 hv5
    refine Gl.st (g' := (mkF m 31 #[.val (.long p1), .second, .val (.int p2), .val (.long v3), .second, .val (.long v5), .second] [(.long v5)])) (fun t k => XS.lload X2.here hx rfl (hb hby at_29) rfl k) ?_
    refine Gl.st (g' := (mkF m 32 #[.val (.long p1), .second, .val (.int p2), .val (.long v3), .second, .val (.long v5), .second] [(.long (0 : Int64)), (.long v5)])) (fun t k => XT.lconstV X2.here hx rfl (0 : Int64) (hb hby at_31) rfl k) ?_
    refine Gl.st (g' := (mkF m 33 #[.val (.long p1), .second, .val (.int p2), .val (.long v3), .second, .val (.long v5), .second] [(.int (XT.cmpL v5 (0 : Int64)))])) (fun t k => XT.lcmp X2.here hx rfl (hb hby at_32) rfl k) ?_
    refine Gl.st (g' := (mkF m 36 #[.val (.long p1), .second, .val (.int p2), .val (.long v3), .second, .val (.long v5), .second] [])) (fun t k => XS.ifNo X2.here hx rfl (hb hby at_33) rfl (XT.ll_le_f (own_g1 hG)) k) ?_
    refine Gl.st (g' := (mkF m 38 #[.val (.long p1), .second, .val (.int p2), .val (.long v3), .second, .val (.long v5), .second] [(.long v5)])) (fun t k => XS.lload X2.here hx rfl (hb hby at_36) rfl k) ?_
    refine Gl.st (g' := (mkF m 41 #[.val (.long p1), .second, .val (.int p2), .val (.long v3), .second, .val (.long v5), .second] [(.long (1000 : Int64)), (.long v5)])) (fun t k => X2.ldc2J hx hown (mvT hZ (hw _ (List.mem_of_getElem? (i := 5) rfl))) rfl (hb hby at_38) k) ?_
    refine Gl.st (g' := (mkF m 42 #[.val (.long p1), .second, .val (.int p2), .val (.long v3), .second, .val (.long v5), .second] [(.long (v5 - (v5 / (1000 : Int64)) * (1000 : Int64)))])) (fun t k => XS.lrem X2.here hx rfl (hb hby at_41) rfl (by decide) k) ?_
    refine Gl.st (g' := (mkF m 43 #[.val (.long p1), .second, .val (.int p2), .val (.long v3), .second, .val (.long v5), .second] [(.long (0 : Int64)), (.long (v5 - (v5 / (1000 : Int64)) * (1000 : Int64)))])) (fun t k => XT.lconstV X2.here hx rfl (0 : Int64) (hb hby at_42) rfl k) ?_
    refine Gl.st (g' := (mkF m 44 #[.val (.long p1), .second, .val (.int p2), .val (.long v3), .second, .val (.long v5), .second] [(.int (XT.cmpL (v5 - (v5 / (1000 : Int64)) * (1000 : Int64)) (0 : Int64)))])) (fun t k => XT.lcmp X2.here hx rfl (hb hby at_43) rfl k) ?_
    refine Gl.st (g' := (mkF m 47 #[.val (.long p1), .second, .val (.int p2), .val (.long v3), .second, .val (.long v5), .second] [])) (fun t k => XS.ifNo X2.here hx rfl (hb hby at_44) rfl (XT.ll_ne_f (own_g2 hG)) k) ?_
    refine Gl.st (g' := (mkF m 49 #[.val (.long p1), .second, .val (.int p2), .val (.long v3), .second, .val (.long v5), .second] [(.long v5)])) (fun t k => XS.lload X2.here hx rfl (hb hby at_47) rfl k) ?_
    refine Gl.st (g' := (mkF m 52 #[.val (.long p1), .second, .val (.int p2), .val (.long v3), .second, .val (.long v5), .second] [(.long (1000 : Int64)), (.long v5)])) (fun t k => X2.ldc2J hx hown (mvT hZ (hw _ (List.mem_of_getElem? (i := 5) rfl))) rfl (hb hby at_49) k) ?_
    refine Gl.st (g' := (mkF m 53 #[.val (.long p1), .second, .val (.int p2), .val (.long v3), .second, .val (.long v5), .second] [(.long (v5 / (1000 : Int64)))])) (fun t k => XS.ldiv X2.here hx rfl (hb hby at_52) rfl (by decide) k) ?_
    refine Gl.st (g' := (mkF m 54 #[.val (.long p1), .second, .val (.int p2), .val (.long v3), .second, .val (.long v5), .second] [(.int p2), (.long (v5 / (1000 : Int64)))])) (fun t k => XS.iloadN X2.here hx rfl (hb hby at_53) rfl k) ?_
    refine Gl.st (g' := (mkF m 55 #[.val (.long p1), .second, .val (.int p2), .val (.long v3), .second, .val (.long v5), .second] [(.long (p2.toInt64)), (.long (v5 / (1000 : Int64)))])) (fun t k => XS.i2l X2.here hx rfl (hb hby at_54) rfl k) ?_
    refine Gl.st (g' := (mkF m 56 #[.val (.long p1), .second, .val (.int p2), .val (.long v3), .second, .val (.long v5), .second] [(.int (XT.cmpL (v5 / (1000 : Int64)) (p2.toInt64)))])) (fun t k => XT.lcmp X2.here hx rfl (hb hby at_55) rfl k) ?_
    refine Gl.st (g' := (mkF m 59 #[.val (.long p1), .second, .val (.int p2), .val (.long v3), .second, .val (.long v5), .second] [])) (fun t k => XS.ifNo X2.here hx rfl (hb hby at_56) rfl (XT.ll_ne_f (own_g3 hG)) k) ?_
    refine Gl.st (g' := (mkF m 60 #[.val (.long p1), .second, .val (.int p2), .val (.long v3), .second, .val (.long v5), .second] [(.int (1 : Int32))])) (fun t k => XT.iconstV X2.here hx rfl (1 : Int32) (hb hby at_59) rfl k) ?_
    refine Gl.st (g' := (mkF m 64 #[.val (.long p1), .second, .val (.int p2), .val (.long v3), .second, .val (.long v5), .second] [(.int (1 : Int32))])) (fun t k => XS.goto X2.here hx rfl (pc0 := 60) (pc' := 64) rfl (hb hby at_60) (by decide) (by decide) k) ?_
    refine Gl.retZ X2 hx hlk .boolean (by simp) Bd.returns (hb hby at_64) e2 (by decide) (by decide) ?_
    rw [Q0, own_z1]
    exact ⟨rfl, N2⟩
  · skip
    refine Gl.st (g' := (mkF m 10 #[.val (.long p1), .second, .val (.int p2), .val (.long v3), .second, .unset, .unset] [])) (fun t k => XS.ifNo X2.here hx rfl (hb hby at_7) rfl (XT.i0_gt_f c4) k) ?_
    refine Gl.st (g' := (mkF m 11 #[.val (.long p1), .second, .val (.int p2), .val (.long v3), .second, .unset, .unset] [(.long v3)])) (fun t k => XS.lloadN X2.here hx rfl (hb hby at_10) rfl k) ?_
    refine Gl.st (g' := (mkF m 14 #[.val (.long p1), .second, .val (.int p2), .val (.long v3), .second, .unset, .unset] [(.long (9223372036854775807 : Int64)), (.long v3)])) (fun t k => X2.ldc2J hx hown (mvT hZ (hw _ (List.mem_of_getElem? (i := 7) rfl))) rfl (hb hby at_11) k) ?_
    refine Gl.st (g' := (mkF m 15 #[.val (.long p1), .second, .val (.int p2), .val (.long v3), .second, .unset, .unset] [(.int (XT.cmpL v3 (9223372036854775807 : Int64)))])) (fun t k => XT.lcmp X2.here hx rfl (hb hby at_14) rfl k) ?_
    refine Gl.st (g' := (mkF m 18 #[.val (.long p1), .second, .val (.int p2), .val (.long v3), .second, .unset, .unset] [])) (fun t k => XS.ifNo X2.here hx rfl (hb hby at_15) rfl (XT.ll_ne_f (own_mx c4 hv3)) k) ?_
    refine Gl.st (g' := (mkF m 19 #[.val (.long p1), .second, .val (.int p2), .val (.long v3), .second, .unset, .unset] [(.int (1 : Int32))])) (fun t k => XT.iconstV X2.here hx rfl (1 : Int32) (hb hby at_18) rfl k) ?_
    refine Gl.st (g' := (mkF m 23 #[.val (.long p1), .second, .val (.int p2), .val (.long v3), .second, .unset, .unset] [(.int (1 : Int32))])) (fun t k => XS.goto X2.here hx rfl (pc0 := 19) (pc' := 23) rfl (hb hby at_19) (by decide) (by decide) k) ?_
    refine Gl.retZ X2 hx hlk .boolean (by simp) Bd.returns (hb hby at_23) e2 (by decide) (by decide) ?_
    rw [Q0, own_z1]
    exact ⟨rfl, N2⟩
set_option maxRecDepth 65536 in
set_option maxHeartbeats 40000000 in
theorem comes_1 {Post : Tables → Env → Array Value → State → Outcome → State → Prop} (hpost : ∀ tb e args s v u, (limb_1_1.after args s (.returned v) u = true ∧ limb_1_2.after args s (.returned v) u = true ∧ True) → FrameEnd s (.returned v) u (Jvm.fieldLocs frame_1_writes args s ++ Jvm.arrayLocs frame_1_arrays args s ++ Jvm.staticLocs frame_1_statics s) 0 0 → Post tb e args s (.returned v) u) :
    ArmFor flags0 classFile x code maxLocals ret World_1 tables_1 room_1 Calls_1 rest_1 Pre_1 Post := by
  intro l hfl _ _ p e ha hc hk s m args below hf hA hF happ hP
  obtain ⟨hcalls, hrest, hpre⟩ := hP
  obtain ⟨-, -, -, hnamed, -, -, -, hat⟩ := (Spec.applies_iff hf).mp happ
  obtain ⟨hg, hn⟩ := and_e (Cond.before_iff.mp (show (Jvm.Cond.and given_1 narrow_1).before args s = true from hpre))
  obtain ⟨hcount, hk1⟩ := and_e hg
  obtain ⟨hi1, hk2⟩ := and_e hk1
  obtain ⟨w0, w1, rfl⟩ : ∃ w0 w1 : Value, args = #[w0, w1] := by
    have hs : args.size = 2 := by simpa [Cond.value, given_1] using hcount
    obtain ⟨L⟩ := args
    match L, hs with
    | [w0, w1], _ => exact ⟨w0, w1, rfl⟩
  have hw := fun d (hd : d ∈ tables_1) => atoms_spec (ws := Jvm.Cond.code x code maxLocals ret :: tables_1) hat d (List.mem_cons_of_mem _ hd)
  obtain ⟨i0, q0⟩ := isL_v hi1
  obtain rfl : w0 = (.long i0) := Option.some.inj q0
  obtain ⟨i1, q1⟩ := is_v hk2
  obtain rfl : w1 = (.int i1) := Option.some.inj q1
  obtain ⟨n, o, h1, h2, h3, _, L, rfl, ⟨rfl, N⟩, hq⟩ := rm0 l s _ hw tables_1 i0 i1 s.heap s.heap.size (Nat.le_refl _)  p e ha hc hk s m _ below hf ((Spec.applies_iff_loose hf).mp happ).1 ⟨rfl, State.Warmed39.refl s, rfl⟩ trivial
  refine ⟨n, _, h1, h2, h3, hpost _ _ _ _ _ _ ⟨Cond.after_iff.mpr rfl, Cond.after_iff.mpr (eq_i res_at (Term.int_eval (1)) rfl), trivial⟩ ⟨hq.1, hq.2.1, (hq.2.2.sift fun y hy => Or.inr (N y hy)).mono (by decide) (by decide)⟩⟩
theorem main_1_1 : Claimed_1_1 := comes_1 fun _ _ _ _ _ _ h hF => ⟨h.1, hF⟩
theorem main_1_2 : Claimed_1_2 := comes_1 fun _ _ _ _ _ _ h hF => ⟨h.2.1, hF⟩
end Jvm.Pilot.@@N@@
namespace Jvm.Pilot.@@N@@
open Jvm Jvm.ClassFile Sem Op Lib Jvm.Free Jvm.Stand Jvm.Pilot.@@N@@.Jvm.D
/-! MADE BY PROGRAM (witnessworld.py) out of the Statement's table words and the real class files: 9 classes; the members and pool entries that the words name. The judged class is class 1, her method 1. -/
namespace start1
open Jvm.ClassFile
def u (s : String) : CpInfo := .utf8 (stringToUtf16 s)
/-- a pool by its gaps: so many unusable entries, then the entry; so many at the end -/
def gap : Nat → List CpInfo → List CpInfo
  | 0, r => r
  | n + 1, r => .unusable :: gap n r
def poolList (es : List (Nat × CpInfo)) (last : Nat) : List CpInfo := es.foldr (fun e r => gap e.1 (e.2 :: r)) (gap last [])
def pool (es : List (Nat × CpInfo)) (last : Nat) : Array CpInfo := ⟨poolList es last⟩
def fileOf (pool : Array CpInfo) (this : Nat) (attrs : Array Attribute := #[]) (ms : Array MethodInfo := #[]) (fl : Nat := 33) (sup : Nat := 0) (ifs : Array Nat := #[]) (fds : Array FieldInfo := #[]) : ClassFile where
  minorVersion := 0
  majorVersion := 65
  constantPool := pool
  accessFlags := fl
  thisClass := this
  superClass := sup
  interfaces := ifs
  fields := fds
  methods := ms
  attributes := attrs
def plain (name : String) (sup : Option ClassId) : Class where
  name := name
  kind := .ordinary
  loader := none
  accessFlags := 33
  super := sup
  interfaces := #[]
  cf := none
  fields := #[]
  methods := #[]
  instanceTypes := #[]
  staticTypes := #[]
  resolved := #[]
  callSites := []
  init := .initialized
  statics := none
  mirror := none

def pool0 : Array CpInfo := pool [(5, u "<init>"), (0, u "()V"), (1, .class_ 10), (1, u "java/lang/Object")] 113

def k0m0 : Method := { name := "<init>", desc := "()V", sig := { parameters := [], returnType := none }, accessFlags := 1, code := none }
/-- java/lang/Object -/
def k0 : Class := { plain "java/lang/Object" none with
  accessFlags := 33
  interfaces := #[]
  cf := some (fileOf pool0 8 #[] #[{ accessFlags := 1, nameIndex := 5, descriptorIndex := 6, attributes := #[] }] 33 0 #[] #[])
  fields := #[]
  methods := #[k0m0]
  instanceTypes := #[]
  staticTypes := #[]
  resolved := Array.replicate 124 none
  statics := none }

def pool1 : Array CpInfo := pool [(2, .class_ 4), (1, u "java/lang/Object"), (0, u "<init>"), (0, u "()V"), (0, .methodref 8 9), (0, .class_ 10), (0, .nameAndType 11 12), (0, u "com/example/passivation/passivation/StoredSession"), (0, u "timesOutAt"), (0, u "(JI)J"), (2, .long 9223372036854775807), (1, .long 1000), (1, .class_ 20), (0, u "com/example/passivation/passivation/StoredSessionTimesOutAtPinLaw"), (2, u "law"), (0, u "(JI)Z")] 3

def k1m0 : Method := { name := "<init>", desc := "()V", sig := { parameters := [], returnType := none }, accessFlags := 2, code := none }
def k1c1 : Code := { maxStack := 4, maxLocals := 7, code := code, exceptionTable := #[], attributes := #[] }
def k1m1 : Method := { name := "law", desc := "(JI)Z", sig := { parameters := [.long, .int], returnType := some .boolean }, accessFlags := 9, code := some k1c1 }
/-- com/example/passivation/passivation/StoredSessionTimesOutAtPinLaw -/
def k1 : Class := { plain "com/example/passivation/passivation/StoredSessionTimesOutAtPinLaw" (some 0) with
  accessFlags := 49
  interfaces := #[]
  cf := some (fileOf pool1 19 #[] #[{ accessFlags := 2, nameIndex := 5, descriptorIndex := 6, attributes := #[] }, { accessFlags := 9, nameIndex := 23, descriptorIndex := 24, attributes := #[] }] 49 2 #[] #[])
  fields := #[]
  methods := #[k1m0, k1m1]
  instanceTypes := #[]
  staticTypes := #[]
  resolved := Array.replicate 28 none
  statics := none }

def pool2 : Array CpInfo := pool [(2, .class_ 4), (1, u "java/lang/Object"), (3, .class_ 10), (1, u "com/example/passivation/passivation/StoredSession"), (0, u "id"), (0, u "Ljava/lang/String;"), (2, u "creationTime"), (0, u "J"), (2, u "lastAccessedTime"), (2, u "idleSince"), (2, u "maxInactiveInterval"), (0, u "I"), (2, u "isNew"), (0, u "Z"), (13, u "attributes"), (0, u "Ljava/util/Map;"), (21, u "timesOutAt"), (0, u "(JI)J"), (0, .long 1000), (3, .long 9223372036854775807)] 17

def k2c0 : Code := { maxStack := 6, maxLocals := 3, code := prog_58_method_11_code, exceptionTable := #[], attributes := #[] }
def k2m0 : Method := { name := "timesOutAt", desc := "(JI)J", sig := { parameters := [.long, .int], returnType := some .long }, accessFlags := 8, code := some k2c0 }
/-- com/example/passivation/passivation/StoredSession -/
def k2 : Class := { plain "com/example/passivation/passivation/StoredSession" (some 0) with
  accessFlags := 48
  interfaces := #[]
  cf := some (fileOf pool2 8 #[] #[{ accessFlags := 8, nameIndex := 67, descriptorIndex := 68, attributes := #[] }] 48 2 #[] #[{ accessFlags := 18, nameIndex := 11, descriptorIndex := 12, attributes := #[] }, { accessFlags := 18, nameIndex := 15, descriptorIndex := 16, attributes := #[] }, { accessFlags := 18, nameIndex := 19, descriptorIndex := 16, attributes := #[] }, { accessFlags := 18, nameIndex := 22, descriptorIndex := 16, attributes := #[] }, { accessFlags := 18, nameIndex := 25, descriptorIndex := 26, attributes := #[] }, { accessFlags := 18, nameIndex := 29, descriptorIndex := 30, attributes := #[] }, { accessFlags := 18, nameIndex := 44, descriptorIndex := 45, attributes := #[] }])
  fields := #[{ name := "id", type := (.object "java/lang/String"), accessFlags := 18, slot := 0, constantValue := 0 }, { name := "creationTime", type := .long, accessFlags := 18, slot := 1, constantValue := 0 }, { name := "lastAccessedTime", type := .long, accessFlags := 18, slot := 2, constantValue := 0 }, { name := "idleSince", type := .long, accessFlags := 18, slot := 3, constantValue := 0 }, { name := "maxInactiveInterval", type := .int, accessFlags := 18, slot := 4, constantValue := 0 }, { name := "isNew", type := .boolean, accessFlags := 18, slot := 5, constantValue := 0 }, { name := "attributes", type := (.object "java/util/Map"), accessFlags := 18, slot := 6, constantValue := 0 }]
  methods := #[k2m0]
  instanceTypes := #[(.object "java/lang/String"), .long, .long, .long, .int, .boolean, (.object "java/util/Map")]
  staticTypes := #[]
  resolved := Array.replicate 91 none
  statics := none }

def pool3 : Array CpInfo := pool [(1, u "java/lang/Cloneable"), (0, .class_ 1), (0, u "java/lang/Object"), (0, .class_ 3)] 3

/-- java/lang/Cloneable -/
def k3 : Class := { plain "java/lang/Cloneable" (some 0) with
  accessFlags := 1537
  interfaces := #[]
  cf := some (fileOf pool3 2 #[] #[] 1537 4 #[] #[])
  fields := #[]
  methods := #[]
  instanceTypes := #[]
  staticTypes := #[]
  resolved := Array.replicate 8 none
  statics := none }

def pool4 : Array CpInfo := pool [(1, u "java/io/Serializable"), (0, .class_ 1), (0, u "java/lang/Object"), (0, .class_ 3)] 3

/-- java/io/Serializable -/
def k4 : Class := { plain "java/io/Serializable" (some 0) with
  accessFlags := 1537
  interfaces := #[]
  cf := some (fileOf pool4 2 #[] #[] 1537 4 #[] #[])
  fields := #[]
  methods := #[]
  instanceTypes := #[]
  staticTypes := #[]
  resolved := Array.replicate 8 none
  statics := none }

/-- the primitive byte -/
def k5 : Class := { plain "byte" none with kind := .primitive 'B', accessFlags := 0x411 }
/-- [B -/
def k6 : Class := { plain "[B" (some 0) with kind := .array 5 .byte, interfaces := #[3, 4], accessFlags := 1041 }

/-- the primitive int -/
def k7 : Class := { plain "int" none with kind := .primitive 'I', accessFlags := 0x411 }
/-- [I -/
def k8 : Class := { plain "[I" (some 0) with kind := .array 7 .int, interfaces := #[3, 4], accessFlags := 1041 }

def heap : Heap := #[]
def classes : Array Class := #[k0, k1, k2, k3, k4, k5, k6, k7, k8]
def interned : List (Array UInt16 × Addr) := []
def slotsUsed : Nat := 0
def theMethod : MethodId := ⟨1, 1⟩
def args0 : Array Value := #[.long 5, .int 5]
def aboutOver (below : List Frame) : State where
  vm := { classes := classes, interned := interned.toArray }
  heap := heap
  slotsUsed := slotsUsed
  threads := #[{ frames := .invoking theMethod args0 :: below }]
def below0 : List Frame := [.native { method := ⟨0, 0⟩, args := #[] }]
def about1 : State := aboutOver below0
def p0 : Program := .bare "" "" ""
def e0 : Env := launch0.env 0 0 0
theorem w_frames : about1.frames = Frame.invoking theMethod args0 :: below0 := rfl
set_option maxRecDepth 65536 in
theorem w_args : argsFit about1.vm theMethod args0 = true := by decide +kernel
set_option maxRecDepth 65536 in
theorem w_heap : heapFits about1 = true := by decide +kernel
set_option maxRecDepth 65536 in
theorem w_runnable : about1.curStatus? = some .runnable := by decide +kernel
set_option maxRecDepth 65536 in
theorem w_alone : about1.alone = true := by decide +kernel
set_option maxRecDepth 65536 in
theorem w_named : about1.methodNamed? x = some theMethod := by decide +kernel
set_option maxRecDepth 65536 in
theorem w_hears : about1.hears theMethod below0 = true := by decide +kernel
set_option maxRecDepth 65536 in
theorem w_ripe : about1.ripe theMethod args0 below0 = true := by decide +kernel
theorem w_running : about1.status = .running := rfl
set_option maxRecDepth 65536 in
theorem w_room : about1.hasRoom e0.platform room_1 = true :=
  launch0.hasRoom_least _ room_1 (by decide +kernel) (by decide +kernel) (by decide +kernel) (by decide +kernel) (by decide +kernel) (by decide +kernel)
theorem allAtoms_all (ts : List Jvm.Cond) (a : Array Jvm.Value) (st : Jvm.State) : (allAtoms ts).before a st = ts.all (fun c => c.before a st) := by
  induction ts with
  | nil => rfl
  | cons c t ih =>
    show (Jvm.Cond.and c (allAtoms t)).before a st = _
    rw [Jvm.Cond.before_and, ih, List.all_cons]
def words1 : List Jvm.Cond := Jvm.Cond.code x code maxLocals ret :: tables_1
/-- a 'code' word, met by the world's own term for the bytes: nothing is compared byte by byte -/
theorem code_word {y : MethodName} {bytes : ByteArray} {mx : Nat} {rt : Option FieldType} {a : Array Value} {s : State} {m : MethodId} {meth : Method} {c : Code} (h1 : s.methodNamed? y = some m) (h2 : s.vm.method? m = some meth) (h3 : meth.code = some c) (h4 : c.code = bytes)
    (h5 : (c.maxLocals == mx && c.exceptionTable.isEmpty && decide (c.maxStack ≤ mostOperands) && decide (meth.sig.returnType = rt) && !meth.locks && decide (parseMethodDescriptor y.desc = some meth.sig)) = true) : (Jvm.Cond.code y bytes mx rt).before a s = true := by
  simp only [Bool.and_eq_true, beq_iff_eq, Bool.not_eq_true', decide_eq_true_eq] at h5
  obtain ⟨⟨⟨⟨⟨g1, g2⟩, g3⟩, g4⟩, g5⟩, g6⟩ := h5
  simp [Cond.before, Cond.holds, Cond.value, h1, h2, h3, h4, g1, g2, g3, g4, g5, g6]
def isCode : Jvm.Cond → Bool
  | .code _ _ _ _ => true
  | _ => false
theorem all_split {L : List Jvm.Cond} {P : Jvm.Cond → Bool} (h1 : L.all (fun c => isCode c || P c) = true) (h2 : ∀ c ∈ L.filter isCode, P c = true) : L.all P = true := by
  refine List.all_eq_true.mpr fun c hc => ?_
  have h := List.all_eq_true.mp h1 c hc
  rcases Bool.eq_false_or_eq_true (isCode c) with hi | hi
  · exact h2 c (List.mem_filter.mpr ⟨hc, hi⟩)
  · simpa [hi] using h
set_option maxRecDepth 65536 in
theorem w_c0 : (Jvm.Cond.code x code maxLocals ret).before args0 about1 = true := code_word (m := ⟨1, 1⟩) (meth := k1m1) (c := k1c1) (by decide +kernel) rfl rfl rfl (by decide +kernel)
set_option maxRecDepth 65536 in
theorem w_c1 : (Jvm.Cond.code ({ cls := "com/example/passivation/passivation/StoredSession", name := "timesOutAt", desc := "(JI)J" } : Jvm.MethodName) prog_58_method_11_code (3 : Nat) (Option.some Jvm.ClassFile.FieldType.long)).before args0 about1 = true := code_word (m := ⟨2, 0⟩) (meth := k2m0) (c := k2c0) (by decide +kernel) rfl rfl rfl (by decide +kernel)
def codes1 : List Jvm.Cond := [Jvm.Cond.code x code maxLocals ret, Jvm.Cond.code ({ cls := "com/example/passivation/passivation/StoredSession", name := "timesOutAt", desc := "(JI)J" } : Jvm.MethodName) prog_58_method_11_code (3 : Nat) (Option.some Jvm.ClassFile.FieldType.long)]
set_option maxRecDepth 65536 in
theorem codes_eq : words1.filter isCode = codes1 := rfl
theorem w_codes : ∀ c ∈ words1.filter isCode, c.before args0 about1 = true := by
  rw [codes_eq]
  intro c hc
  simp only [codes1, List.mem_cons, List.not_mem_nil, or_false] at hc
  rcases hc with rfl | rfl
  · exact w_c0
  · exact w_c1
set_option maxRecDepth 65536 in
theorem w_t1 : words1.all (fun c => isCode c || c.before args0 about1) = true := by decide +kernel
theorem w_tables : (allAtoms (Jvm.Cond.code x code maxLocals ret :: tables_1)).before args0 about1 = true := by
  rw [allAtoms_all]
  show words1.all (fun c => c.before args0 about1) = true
  refine all_split ?_ w_codes
  rw [w_t1]
set_option maxRecDepth 65536 in
theorem w_case : (Jvm.Cond.and given_1 narrow_1).before args0 about1 = true := by decide +kernel
theorem w_applies : (headSpec (Jvm.Cond.code x code maxLocals ret :: tables_1) room_1).applies x e0.platform about1 = true :=
  (Spec.applies_iff w_frames).mpr ⟨w_running, w_runnable, w_alone, w_named, w_hears, w_ripe, w_room, w_tables⟩
theorem atStart : AtStart classFile x code maxLocals ret World_1 tables_1 room_1 Calls_1 rest_1 Pre_1 launch0 p0 e0 about1 theMethod args0 below0 :=
  ⟨lists_1, trivial, launch0.admits_env _ _ _, launch0.least_env, fairChoices_fair.cas, fairChoices_fair.clock, w_frames, w_args, w_heap, w_applies, trivial, trivial, w_case⟩
end start1
theorem witness_1 : WitnessClaimed_1 := ⟨start1.p0, start1.e0, start1.about1, start1.theMethod, start1.args0, start1.below0, start1.atStart⟩
end Jvm.Pilot.@@N@@
