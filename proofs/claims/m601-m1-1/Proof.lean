import JvmDerived
import JvmDerived.Pilot.@@N@@Statement
import JvmDerived.Pilot.@@N@@Code
set_option linter.unusedVariables false
set_option linter.unusedSimpArgs false
namespace Jvm.Pilot.@@N@@
open Jvm Jvm.ClassFile Sem Op Lib Jvm.Free Jvm.Stand Jvm.LawKit Jvm.RoadKit Bundle Jvm.Pilot.@@N@@.Jvm.D
section OwnKit
variable {p : Program} {l : Launch} {e : Env} {R : Room} {s : State} {m : MethodId} {args : Array Value} {below : List Frame} {meth : Method} {c : Code} {T T' : State} {locs : List Loc} {cells slots : Nat} {h : Heap} {Q : Option Value → Heap → List Loc → Prop} {kc ks : Nat} {g g' : JFrame}
/-- from this state and frame the method comes to its end, and what it leaves is Q -/
def Gl (p : Program) (e : Env) (below : List Frame) (s : State) (Q : Option Value → Heap → List Loc → Prop) (kc ks : Nat) (T : State) (g : JFrame) : Prop :=
  ∃ s₂ o, Steps p.tables e below (T.setTop g) s₂ ∧ s₂.status = .running ∧ Ended s₂ below o ∧ ∃ v L, o = .returned v ∧ Q v s₂.heap L ∧ FrameEnd s o s₂ L kc ks
theorem Gl.st (h : ∀ t, Steps p.tables e below (T'.setTop g') t → Steps p.tables e below (T.setTop g) t) (k : Gl p e below s Q kc ks T' g') : Gl p e below s Q kc ks T g := by
  obtain ⟨s₂, o, h1, r⟩ := k
  exact ⟨s₂, o, h _ h1, r⟩
theorem Gl.ret (X : Stand p l e R s m args below meth c T locs cells slots) (hlk : meth.locks = false) (v : Option Value) (hv : meth.sig.returnType = none → v = none) (eT : T.heap = h) (hc : cells ≤ kc) (hs : slots ≤ ks)
    (hst : ∀ fs, (∀ (f : JFrame) (acts : List Action), f.method = m → f.locked = none → f.entered = [] → (doReturn e (T.setTop f) acts v).1 = T.setFrames fs) → Steps p.tables e below (T.setTop g) (T.setFrames fs))
    (hq : Q v h locs) : Gl p e below s Q kc ks T g := by
  obtain ⟨fs, hr, hrun, hended, hW, hsame⟩ := X.leave (v := v) hv hlk
  refine ⟨_, _, hst fs hr, hrun, hended, v, locs, rfl, ?_, ⟨_, rfl⟩, hW, hsame.mono hc hs⟩
  show Q v T.heap locs
  rw [eT]; exact hq
theorem Gl.retI (X : Stand p l e R s m args below meth c T locs cells slots) (hx : p.tables.exec = Jvm.exec) (hlk : meth.locks = false) {pc : Nat} {Ls : Array Slot} {z : Int32} {rest : List Value} (hret : meth.sig.returnType = some .int) (hd : decode c.code pc = .ok (.ireturn, 1)) (eT : T.heap = h) (hc : cells ≤ kc) (hs : slots ≤ ks)
    (hq : Q (some (.int z)) h locs) : Gl p e below s Q kc ks T (mkF m pc Ls (.int z :: rest)) := by
  refine Gl.ret X hlk (some (.int z)) (fun q => by rw [hret] at q; cases q) eT hc hs (fun fs hl => ?_) hq
  exact retOut X hx hret (t := .int) rfl (Or.inl ⟨rfl, Or.inl rfl, _, rfl⟩) hd hl
theorem Gl.retZ (X : Stand p l e R s m args below meth c T locs cells slots) (hx : p.tables.exec = Jvm.exec) (hlk : meth.locks = false) {pc : Nat} {Ls : Array Slot} {z : Int32} {rest : List Value} (t : FieldType) (ht : t = .boolean ∨ t = .byte ∨ t = .char ∨ t = .short) (hret : meth.sig.returnType = some t) (hd : decode c.code pc = .ok (.ireturn, 1)) (eT : T.heap = h) (hc : cells ≤ kc) (hs : slots ≤ ks)
    (hq : Q (some (.int (nar t z))) h locs) : Gl p e below s Q kc ks T (mkF m pc Ls (.int z :: rest)) := by
  refine Gl.ret X hlk (some (.int (nar t z))) (fun q => by rw [hret] at q; cases q) eT hc hs (fun fs hl => ?_) hq
  exact retN X hx (t := t) hret ht hd hl
theorem Gl.retL (X : Stand p l e R s m args below meth c T locs cells slots) (hx : p.tables.exec = Jvm.exec) (hlk : meth.locks = false) {pc : Nat} {Ls : Array Slot} {z : Int64} (hret : meth.sig.returnType = some .long) (hd : decode c.code pc = .ok (.lreturn, 1)) (eT : T.heap = h) (hc : cells ≤ kc) (hs : slots ≤ ks)
    (hq : Q (some (.long z)) h locs) : Gl p e below s Q kc ks T (mkF m pc Ls [.long z]) := by
  refine Gl.ret X hlk (some (.long z)) (fun q => by rw [hret] at q; cases q) eT hc hs (fun fs hl => ?_) hq
  exact X.lreturnOut hx hret hd hl
theorem Gl.retV (X : Stand p l e R s m args below meth c T locs cells slots) (hx : p.tables.exec = Jvm.exec) (hlk : meth.locks = false) {pc : Nat} {Ls : Array Slot} (hret : meth.sig.returnType = none) (hd : decode c.code pc = .ok (.return_, 1)) (eT : T.heap = h) (hc : cells ≤ kc) (hs : slots ≤ ks)
    (hq : Q none h locs) : Gl p e below s Q kc ks T (mkF m pc Ls []) := by
  refine Gl.ret X hlk none (fun _ => rfl) eT hc hs (fun fs hl => ?_) hq
  exact X.returnOut hx hret hd hl
end OwnKit

theorem own_z0 : nar .boolean (0 : Int32) = 0 := by decide
theorem own_z1 : nar .boolean (1 : Int32) = 1 := by decide
theorem own_nn (x : Int32) : 0 ≤ (x &&& (2147483647 : Int32)).toInt := by
  rw [c_mask x 2147483647 31 (by decide) (by decide)]
  exact Int.emod_nonneg _ (by decide)
theorem own_lt {x y : Int32} (h : x.toInt < y.toInt) : x < y := Int32.lt_iff_toInt_lt.mpr h
theorem own_nlt {x y : Int32} (h : y.toInt ≤ x.toInt) : ¬ x < y := fun q => by
  have := Int32.lt_iff_toInt_lt.mp q; omega
theorem own_eq {x y : Int32} (h : x.toInt = y.toInt) : x = y := Int32.toInt_inj.mp h
theorem own_ltI {x y : Int32} (h : x < y) : x.toInt < y.toInt := Int32.lt_iff_toInt_lt.mp h
theorem own_nltI {x y : Int32} (h : ¬ x < y) : y.toInt ≤ x.toInt := by
  rcases Int.lt_or_le x.toInt y.toInt with q | q
  · exact absurd (own_lt q) h
  · exact q
theorem own_rem {x y : Int32} (hx : 0 ≤ x.toInt) (hy : 0 < y.toInt) : 0 ≤ (x % y).toInt ∧ (x % y).toInt < y.toInt := by
  have h := (c_irem x y y.toInt rfl).1 hx
  rw [h]; exact ⟨Int.emod_nonneg _ (by omega), Int.emod_lt_of_pos _ hy⟩
theorem own_add {x y : Int32} (h1 : -2147483648 ≤ x.toInt + y.toInt) (h2 : x.toInt + y.toInt < 2147483648) : (x + y).toInt = x.toInt + y.toInt := by
  have a := c_iadd x y; have b := (x + y).toInt_lt; have c := (x + y).le_toInt; omega
theorem own_sub {x y : Int32} (h1 : -2147483648 ≤ x.toInt - y.toInt) (h2 : x.toInt - y.toInt < 2147483648) : (x - y).toInt = x.toInt - y.toInt := by
  have a := c_isub x y; have b := (x - y).toInt_lt; have c := (x - y).le_toInt; omega
theorem own_and (x : Int32) (m : Int32) (k : Nat) (hk : k ≤ 31) (hm : m.toBitVec.toNat = 2 ^ k - 1) : 0 ≤ (x &&& m).toInt ∧ (x &&& m).toInt ≤ m.toInt ∧ (x &&& m).toInt = x.toInt % (2 ^ k : Nat) := by
  have h := c_mask x m k hk hm
  have hm0 : 0 ≤ m.toInt := by
    have e : m.toInt = m.toBitVec.toInt := rfl
    have q : 2 ^ k ≤ 2 ^ 31 := Nat.pow_le_pow_right (by decide) hk
    have l := m.toBitVec.isLt
    rw [e, BitVec.toInt_eq_toNat_cond, hm]; split <;> omega
  exact ⟨(c_and x m hm0).1, (c_and x m hm0).2, h⟩
def own_i (c : Int32) : Int32 := if c = (2147483647 : Int32) then c else (c + (1 : Int32))
def own_min (a b : Int64) : Int64 := if b < a then b else a
theorem own_fin {x v : Int32} {m : Int64} (e : own_i x = v) (f : own_min (x.toInt64 + (1 : Int64)) (2147483647 : Int64) = m) : v.toInt64 = m := by
  have t1 : (2147483647 : Int32).toInt = 2147483647 := by decide
  have t2 : (2147483647 : Int64).toInt = 2147483647 := by decide
  have t3 : (1 : Int64).toInt = 1 := by decide
  have t4 : (1 : Int32).toInt = 1 := by decide
  have b1 := x.toInt_lt; have b2 := x.le_toInt
  have q := c_ladd x.toInt64 (1 : Int64)
  rw [c_i2l, t3] at q
  have b3 := (x.toInt64 + (1 : Int64)).toInt_lt; have b4 := (x.toInt64 + (1 : Int64)).le_toInt
  unfold own_i at e
  unfold own_min at f
  apply Int64.toInt_inj.mp
  rw [c_i2l]
  by_cases h : x = (2147483647 : Int32)
  · rw [if_pos h] at e
    have hx : x.toInt = 2147483647 := by rw [h]; exact t1
    rw [if_pos (Int64.lt_iff_toInt_lt.mpr (by omega))] at f
    rw [← f, ← e, t2]; exact hx
  · rw [if_neg h] at e
    have hx : x.toInt ≠ 2147483647 := fun w => h (own_eq (w.trans t1.symm))
    rw [if_neg (fun w => by have := Int64.lt_iff_toInt_lt.mp w; omega)] at f
    rw [← f, ← e, own_add (by omega) (by omega)]; omega
theorem d1_0 : decode prog_16_method_5_code 0 = .ok (.iload_n 0, 1) := by decide +kernel
theorem d1_1 : decode prog_16_method_5_code 1 = .ok (.ldc 38, 2) := by decide +kernel
theorem d1_3 : decode prog_16_method_5_code 3 = .ok (.if_icmp .ne 7, 3) := by decide +kernel
theorem d1_6 : decode prog_16_method_5_code 6 = .ok (.iload_n 0, 1) := by decide +kernel
theorem d1_7 : decode prog_16_method_5_code 7 = .ok (.goto 6, 3) := by decide +kernel
theorem d1_10 : decode prog_16_method_5_code 10 = .ok (.iload_n 0, 1) := by decide +kernel
theorem d1_11 : decode prog_16_method_5_code 11 = .ok (.iconst 1, 1) := by decide +kernel
theorem d1_12 : decode prog_16_method_5_code 12 = .ok (.iadd, 1) := by decide +kernel
theorem d1_13 : decode prog_16_method_5_code 13 = .ok (.ireturn, 1) := by decide +kernel
theorem pn_0 : plainName "com/example/hold_for_reply/holdforreply/ParkingWaitStrategy" = true := by first | (simp [plainName, overriddenIn]; done) | decide +kernel
theorem ef_1 (m : MethodId) (p1 : Int32) : entryFrame m #[(.int p1)] 1 = mkF m 0 #[.val (.int p1)] [] := by first | (simp [entryFrame, mkF, argsToLocals, Value.category]; done) | rfl
def Q1 (Z : State) (p1 : Int32)  (h0 : Heap) (n0 : Nat) (v : Option Value) (h : Heap) (L : List Loc) : Prop := v = some (.int (own_i p1)) ∧ Fr n0 L ∧ h = h0
set_option maxRecDepth 65536 in
set_option maxHeartbeats 40000000 in
theorem rm1 (l : Launch) (Z : State) (a0 : Array Value) (hw : ∀ d ∈ tables_1, d.before a0 Z = true) (p1 : Int32)  (h0 : Heap) (n0 : Nat) (Z0 : n0 ≤ h0.size)  :
    MetFree l (⟨"com/example/hold_for_reply/holdforreply/ParkingWaitStrategy", "increment", "(I)I"⟩ : MethodName) (head1 [Jvm.Cond.code (⟨"com/example/hold_for_reply/holdforreply/ParkingWaitStrategy", "increment", "(I)I"⟩ : MethodName) prog_16_method_5_code 1 (some .int)] ({ frames := 0, cells := 0, slots := 0, locals := 0 } : Room)) (fun a U => a = #[(.int p1)] ∧ Z.Warmed39 U.vm ∧ U.heap = h0) (fun _ _ _ _ _ => True) (fun _ U o U' => ∃ v L, o = .returned v ∧ Q1 Z p1  h0 n0 v U'.heap L ∧ FrameEnd U o U' L ({ frames := 0, cells := 0, slots := 0, locals := 0 } : Room).cells ({ frames := 0, cells := 0, slots := 0, locals := 0 } : Room).slots) := by
  refine MetFree.of_bodySF (plainFor_of_name pn_0) hisR ?_
  intro p e s m args below meth c s₁ Bd hml0 hP hK
  obtain ⟨rfl, hZ, hh⟩ := hP
  have hx := Bd.exec
  have hby := Bd.bytes
  have hlk : meth.locks = false := Bd.notSynchronized
  have hml : c.maxLocals = 1 := hml0
  have hown : s.vm.findClass "com/example/hold_for_reply/holdforreply/ParkingWaitStrategy" = some m.cls := findClass_of_methodNamed Bd.named
  have hnm := (name_of_methodNamed Bd.named Bd.method).1
  have X0 : Stand p l e ({ frames := 0, cells := 0, slots := 0, locals := 0 } : Room) s m #[(.int p1)] below meth c s₁ [] 0 0 := Stand.of_body Bd
  have e0 : s₁.heap = h0 := by rw [← hh, Bd.state]; rfl
  have N0 := Fr.nil n0
  show Gl p e below s (Q1 Z p1  h0 n0) 0 0 s₁ (entryFrame m #[(.int p1)] 1)
  rw [ef_1 m p1]
  refine Gl.st (g' := (mkF m 1 #[.val (.int p1)] [(.int p1)])) (fun t k => XS.iloadN X0.here hx rfl (hb hby d1_0) rfl k) ?_
  refine Gl.st (g' := (mkF m 3 #[.val (.int p1)] [(.int (2147483647 : Int32)), (.int p1)])) (fun t k => X0.ldcI hx hown (mvT hZ (hw _ (List.mem_of_getElem? (i := 4) rfl))) rfl (hb hby d1_1) k) ?_
  by_cases c1 : p1 = (2147483647 : Int32)
  · skip
    refine Gl.st (g' := (mkF m 6 #[.val (.int p1)] [])) (fun t k => XS.icmpNo X0.here hx rfl (hb hby d1_3) rfl (XT.ii_ne_f c1) k) ?_
    refine Gl.st (g' := (mkF m 7 #[.val (.int p1)] [(.int p1)])) (fun t k => XS.iloadN X0.here hx rfl (hb hby d1_6) rfl k) ?_
    refine Gl.st (g' := (mkF m 13 #[.val (.int p1)] [(.int p1)])) (fun t k => XS.goto X0.here hx rfl (pc0 := 7) (pc' := 13) rfl (hb hby d1_7) (by decide) (by decide) k) ?_
    refine Gl.retI X0 hx hlk Bd.returns (hb hby d1_13) e0 (by decide) (by decide) ?_
    refine ⟨?_, N0, rfl⟩
    unfold own_i
    rw [if_pos c1]
  · skip
    refine Gl.st (g' := (mkF m 10 #[.val (.int p1)] [])) (fun t k => XS.icmpYes X0.here hx rfl (pc0 := 3) (pc' := 10) rfl (hb hby d1_3) rfl (XT.ii_ne_t c1) (by decide) (by decide) k) ?_
    refine Gl.st (g' := (mkF m 11 #[.val (.int p1)] [(.int p1)])) (fun t k => XS.iloadN X0.here hx rfl (hb hby d1_10) rfl k) ?_
    refine Gl.st (g' := (mkF m 12 #[.val (.int p1)] [(.int (1 : Int32)), (.int p1)])) (fun t k => XT.iconstV X0.here hx rfl (1 : Int32) (hb hby d1_11) rfl k) ?_
    refine Gl.st (g' := (mkF m 13 #[.val (.int p1)] [(.int (p1 + (1 : Int32)))])) (fun t k => XS.iadd X0.here hx rfl (hb hby d1_12) rfl k) ?_
    refine Gl.retI X0 hx hlk Bd.returns (hb hby d1_13) e0 (by decide) (by decide) ?_
    refine ⟨?_, N0, rfl⟩
    unfold own_i
    rw [if_neg c1]
theorem d2_0 : decode jdk_29_method_70_code 0 = .ok (.lload_n 0, 1) := by decide +kernel
theorem d2_1 : decode jdk_29_method_70_code 1 = .ok (.lload_n 2, 1) := by decide +kernel
theorem d2_2 : decode jdk_29_method_70_code 2 = .ok (.lcmp, 1) := by decide +kernel
theorem d2_3 : decode jdk_29_method_70_code 3 = .ok (.ifCond .gt 7, 3) := by decide +kernel
theorem d2_6 : decode jdk_29_method_70_code 6 = .ok (.lload_n 0, 1) := by decide +kernel
theorem d2_7 : decode jdk_29_method_70_code 7 = .ok (.goto 4, 3) := by decide +kernel
theorem d2_10 : decode jdk_29_method_70_code 10 = .ok (.lload_n 2, 1) := by decide +kernel
theorem d2_11 : decode jdk_29_method_70_code 11 = .ok (.lreturn, 1) := by decide +kernel
theorem ef_2 (m : MethodId) (p1 : Int64) (p2 : Int64) : entryFrame m #[(.long p1), (.long p2)] 4 = mkF m 0 #[.val (.long p1), .second, .val (.long p2), .second] [] := by first | (simp [entryFrame, mkF, argsToLocals, Value.category]; done) | rfl
def Q2 (Z : State) (p1 : Int64) (p2 : Int64)  (h0 : Heap) (n0 : Nat) (v : Option Value) (h : Heap) (L : List Loc) : Prop := v = some (.long (own_min p1 p2)) ∧ Fr n0 L ∧ h = h0
set_option maxRecDepth 65536 in
set_option maxHeartbeats 40000000 in
theorem rm2 (l : Launch) (Z : State) (a0 : Array Value) (hw : ∀ d ∈ tables_1, d.before a0 Z = true) (p1 : Int64) (p2 : Int64)  (h0 : Heap) (n0 : Nat) (Z0 : n0 ≤ h0.size)  :
    MetFree l (⟨"java/lang/Math", "min", "(JJ)J"⟩ : MethodName) (head1 [Jvm.Cond.code (⟨"java/lang/Math", "min", "(JJ)J"⟩ : MethodName) jdk_29_method_70_code 4 (some .long)] ({ frames := 0, cells := 0, slots := 0, locals := 0 } : Room)) (fun a U => a = #[(.long p1), (.long p2)] ∧ Z.Warmed39 U.vm ∧ U.heap = h0) (fun _ _ _ _ _ => True) (fun _ U o U' => ∃ v L, o = .returned v ∧ Q2 Z p1 p2  h0 n0 v U'.heap L ∧ FrameEnd U o U' L ({ frames := 0, cells := 0, slots := 0, locals := 0 } : Room).cells ({ frames := 0, cells := 0, slots := 0, locals := 0 } : Room).slots) := by
  refine MetFree.of_bodySF (show plainFor (⟨"java/lang/Math", "min", "(JJ)J"⟩ : MethodName) = true by decide +kernel) hisR ?_
  intro p e s m args below meth c s₁ Bd hml0 hP hK
  obtain ⟨rfl, hZ, hh⟩ := hP
  have hx := Bd.exec
  have hby := Bd.bytes
  have hlk : meth.locks = false := Bd.notSynchronized
  have hml : c.maxLocals = 4 := hml0
  have hown : s.vm.findClass "java/lang/Math" = some m.cls := findClass_of_methodNamed Bd.named
  have hnm := (name_of_methodNamed Bd.named Bd.method).1
  have X0 : Stand p l e ({ frames := 0, cells := 0, slots := 0, locals := 0 } : Room) s m #[(.long p1), (.long p2)] below meth c s₁ [] 0 0 := Stand.of_body Bd
  have e0 : s₁.heap = h0 := by rw [← hh, Bd.state]; rfl
  have N0 := Fr.nil n0
  show Gl p e below s (Q2 Z p1 p2  h0 n0) 0 0 s₁ (entryFrame m #[(.long p1), (.long p2)] 4)
  rw [ef_2 m p1 p2]
  refine Gl.st (g' := (mkF m 1 #[.val (.long p1), .second, .val (.long p2), .second] [(.long p1)])) (fun t k => XS.lloadN X0.here hx rfl (hb hby d2_0) rfl k) ?_
  refine Gl.st (g' := (mkF m 2 #[.val (.long p1), .second, .val (.long p2), .second] [(.long p2), (.long p1)])) (fun t k => XS.lloadN X0.here hx rfl (hb hby d2_1) rfl k) ?_
  refine Gl.st (g' := (mkF m 3 #[.val (.long p1), .second, .val (.long p2), .second] [(.int (XT.cmpL p1 p2))])) (fun t k => XT.lcmp X0.here hx rfl (hb hby d2_2) rfl k) ?_
  by_cases c2 : p2 < p1
  · skip
    refine Gl.st (g' := (mkF m 10 #[.val (.long p1), .second, .val (.long p2), .second] [])) (fun t k => XS.ifYes X0.here hx rfl (pc0 := 3) (pc' := 10) rfl (hb hby d2_3) rfl (XT.ll_gt_t c2) (by decide) (by decide) k) ?_
    refine Gl.st (g' := (mkF m 11 #[.val (.long p1), .second, .val (.long p2), .second] [(.long p2)])) (fun t k => XS.lloadN X0.here hx rfl (hb hby d2_10) rfl k) ?_
    refine Gl.retL X0 hx hlk Bd.returns (hb hby d2_11) e0 (by decide) (by decide) ?_
    refine ⟨?_, N0, rfl⟩
    unfold own_min
    rw [if_pos c2]
  · skip
    refine Gl.st (g' := (mkF m 6 #[.val (.long p1), .second, .val (.long p2), .second] [])) (fun t k => XS.ifNo X0.here hx rfl (hb hby d2_3) rfl (XT.ll_gt_f c2) k) ?_
    refine Gl.st (g' := (mkF m 7 #[.val (.long p1), .second, .val (.long p2), .second] [(.long p1)])) (fun t k => XS.lloadN X0.here hx rfl (hb hby d2_6) rfl k) ?_
    refine Gl.st (g' := (mkF m 11 #[.val (.long p1), .second, .val (.long p2), .second] [(.long p1)])) (fun t k => XS.goto X0.here hx rfl (pc0 := 7) (pc' := 11) rfl (hb hby d2_7) (by decide) (by decide) k) ?_
    refine Gl.retL X0 hx hlk Bd.returns (hb hby d2_11) e0 (by decide) (by decide) ?_
    refine ⟨?_, N0, rfl⟩
    unfold own_min
    rw [if_neg c2]
theorem pd_0 : parseMethodDescriptor "(I)I" = some ⟨[.int], some .int⟩ := by decide +kernel
theorem pd_1 : parseMethodDescriptor "(JJ)J" = some ⟨[.long, .long], some .long⟩ := by decide +kernel
theorem pn_1 : plainName "com/example/hold_for_reply/holdforreply/ParkingWaitStrategyIncrementPinLaw" = true := by first | (simp [plainName, overriddenIn]; done) | decide +kernel
theorem ef_0 (m : MethodId) (p1 : Int32) (p2 : Int32) : entryFrame m #[(.int p1), (.int p2)] maxLocals = mkF m 0 #[.val (.int p1), .val (.int p2), .unset, .unset, .unset, .unset, .unset] [] := by first | (simp [entryFrame, mkF, argsToLocals, Value.category, maxLocals]; done) | rfl
def Q0 (Z : State) (p1 : Int32) (p2 : Int32)  (h0 : Heap) (n0 : Nat) (v : Option Value) (h : Heap) (L : List Loc) : Prop := v = some (.int 1) ∧ Fr n0 L
set_option maxRecDepth 65536 in
set_option maxHeartbeats 40000000 in
theorem rm0 (l : Launch) (Z : State) (a0 : Array Value) (hw : ∀ d ∈ tables_1, d.before a0 Z = true) (ws : List Jvm.Cond) (p1 : Int32) (p2 : Int32)  (h0 : Heap) (n0 : Nat) (Z0 : n0 ≤ h0.size)  :
    MetFree l x (head1 (Jvm.Cond.code x code maxLocals ret :: ws) room_1) (fun a U => a = #[(.int p1), (.int p2)] ∧ Z.Warmed39 U.vm ∧ U.heap = h0) (fun _ _ _ _ _ => True) (fun _ U o U' => ∃ v L, o = .returned v ∧ Q0 Z p1 p2  h0 n0 v U'.heap L ∧ FrameEnd U o U' L 0 0) := by
  refine MetFree.of_bodySF (plainFor_of_name pn_1) hisR ?_
  intro p e s m args below meth c s₁ Bd hml0 hP hK
  obtain ⟨rfl, hZ, hh⟩ := hP
  have hx := Bd.exec
  have hby := Bd.bytes
  have hlk : meth.locks = false := Bd.notSynchronized
  have hml : c.maxLocals = 7 := hml0
  have hown : s.vm.findClass "com/example/hold_for_reply/holdforreply/ParkingWaitStrategyIncrementPinLaw" = some m.cls := findClass_of_methodNamed Bd.named
  have hnm := (name_of_methodNamed Bd.named Bd.method).1
  have X0 : Stand p l e room_1 s m #[(.int p1), (.int p2)] below meth c s₁ [] 0 0 := Stand.of_body Bd
  have e0 : s₁.heap = h0 := by rw [← hh, Bd.state]; rfl
  have N0 := Fr.nil n0
  show Gl p e below s (Q0 Z p1 p2  h0 n0) 0 0 s₁ (entryFrame m #[(.int p1), (.int p2)] maxLocals)
  rw [ef_0 m p1 p2]
  refine Gl.st (g' := (mkF m 1 #[.val (.int p1), .val (.int p2), .unset, .unset, .unset, .unset, .unset] [(.int p2)])) (fun t k => XS.iloadN X0.here hx rfl (hb hby at_0) rfl k) ?_
  refine Gl.st (g' := (mkF m 2 #[.val (.int p1), .val (.int p2), .unset, .unset, .unset, .unset, .unset] [(.int (3 : Int32)), (.int p2)])) (fun t k => XT.iconstV X0.here hx rfl (3 : Int32) (hb hby at_1) rfl k) ?_
  refine Gl.st (g' := (mkF m 3 #[.val (.int p1), .val (.int p2), .unset, .unset, .unset, .unset, .unset] [(.int (p2 &&& (3 : Int32)))])) (fun t k => XS.iand X0.here hx rfl (hb hby at_2) rfl k) ?_
  generalize hv3 : (p2 &&& (3 : Int32)) = v3
  refine Gl.st (g' := (mkF m 4 #[.val (.int p1), .val (.int p2), .val (.int v3), .unset, .unset, .unset, .unset] [])) (fun t k => XS.istoreN X0.here hx rfl (hb hby at_3) rfl (l' := #[.val (.int p1), .val (.int p2), .val (.int v3), .unset, .unset, .unset, .unset]) rfl k) ?_
  refine Gl.st (g' := (mkF m 5 #[.val (.int p1), .val (.int p2), .val (.int v3), .unset, .unset, .unset, .unset] [(.int v3)])) (fun t k => XS.iloadN X0.here hx rfl (hb hby at_4) rfl k) ?_
  by_cases c4 : v3 = (0 : Int32)
  · skip
    refine Gl.st (g' := (mkF m 8 #[.val (.int p1), .val (.int p2), .val (.int v3), .unset, .unset, .unset, .unset] [])) (fun t k => XS.ifNo X0.here hx rfl (hb hby at_5) rfl (XT.i0_ne_f c4) k) ?_
    refine Gl.st (g' := (mkF m 10 #[.val (.int p1), .val (.int p2), .val (.int v3), .unset, .unset, .unset, .unset] [(.int (2147483647 : Int32))])) (fun t k => X0.ldcI hx hown (mvT hZ (hw _ (List.mem_of_getElem? (i := 11) rfl))) rfl (hb hby at_8) k) ?_
    refine Gl.st (g' := (mkF m 11 #[.val (.int p1), .val (.int p2), .val (.int v3), .val (.int (2147483647 : Int32)), .unset, .unset, .unset] [])) (fun t k => XS.istoreN X0.here hx rfl (hb hby at_10) rfl (l' := #[.val (.int p1), .val (.int p2), .val (.int v3), .val (.int (2147483647 : Int32)), .unset, .unset, .unset]) rfl k) ?_
    refine Gl.st (g' := (mkF m 38 #[.val (.int p1), .val (.int p2), .val (.int v3), .val (.int (2147483647 : Int32)), .unset, .unset, .unset] [])) (fun t k => XS.goto X0.here hx rfl (pc0 := 11) (pc' := 38) rfl (hb hby at_11) (by decide) (by decide) k) ?_
    refine Gl.st (g' := (mkF m 39 #[.val (.int p1), .val (.int p2), .val (.int v3), .val (.int (2147483647 : Int32)), .unset, .unset, .unset] [(.int (2147483647 : Int32))])) (fun t k => XS.iloadN X0.here hx rfl (hb hby at_38) rfl k) ?_
    obtain ⟨_, _, ⟨T5, L5, k5, n5⟩, -, X5, ⟨Lc5, hQ5, l5, y5, z5⟩, st5⟩ := Jvm.LawKit.callS X0 hx (y := (⟨"com/example/hold_for_reply/holdforreply/ParkingWaitStrategy", "increment", "(I)I"⟩ : MethodName)) hown (mvT hZ (hw _ (List.mem_of_getElem? (i := 0) rfl))) (mvT hZ (hw _ (List.mem_of_getElem? (i := 1) rfl))) (mvT hZ (hw _ (List.mem_of_getElem? (i := 2) rfl))) (mvT hZ (hw _ (List.mem_of_getElem? (i := 3) rfl))) (by decide) (backOf (W := 0) (rm1 l Z a0 hw (2147483647 : Int32)  h0 n0 Z0 ) hZ (hw _ (List.mem_of_getElem? (i := 3) rfl)) (hw _ (List.mem_of_getElem? (i := 2) rfl)) (by decide) (by decide)) (g := (mkF m 39 #[.val (.int p1), .val (.int p2), .val (.int v3), .val (.int (2147483647 : Int32)), .unset, .unset, .unset] [(.int (2147483647 : Int32))])) rfl (by rw [hml]; rfl) (argsL := [(.int (2147483647 : Int32))]) (rest := []) (lenOf pd_0 rfl) rfl (by show 2 * 0 + _ ≤ _; exact Nat.le_of_eq rfl) (hb hby at_39) (fun _ _ => ⟨rfl, e0, (by decide : 0 + 0 ≤ _), (by decide : 0 + 0 ≤ _)⟩)
    dsimp only [Pt.U, Pt.locs, Pt.cells, Pt.slots] at X5 l5 y5 z5 st5 hQ5
    subst l5 y5 z5
    obtain ⟨rfl, Nq5, e5⟩ := hQ5
    have N5 := Fr.app N0 Nq5
    refine Gl.st (g' := (mkF m 42 #[.val (.int p1), .val (.int p2), .val (.int v3), .val (.int (2147483647 : Int32)), .unset, .unset, .unset] [(.int (own_i (2147483647 : Int32)))])) st5 ?_
    generalize hv6 : (own_i (2147483647 : Int32)) = v6
    refine Gl.st (g' := (mkF m 44 #[.val (.int p1), .val (.int p2), .val (.int v3), .val (.int (2147483647 : Int32)), .val (.int v6), .unset, .unset] [])) (fun t k => XS.istore X5.here hx rfl (hb hby at_42) rfl (l' := #[.val (.int p1), .val (.int p2), .val (.int v3), .val (.int (2147483647 : Int32)), .val (.int v6), .unset, .unset]) rfl k) ?_
    refine Gl.st (g' := (mkF m 45 #[.val (.int p1), .val (.int p2), .val (.int v3), .val (.int (2147483647 : Int32)), .val (.int v6), .unset, .unset] [(.int (2147483647 : Int32))])) (fun t k => XS.iloadN X5.here hx rfl (hb hby at_44) rfl k) ?_
    refine Gl.st (g' := (mkF m 46 #[.val (.int p1), .val (.int p2), .val (.int v3), .val (.int (2147483647 : Int32)), .val (.int v6), .unset, .unset] [(.long ((2147483647 : Int32).toInt64))])) (fun t k => XS.i2l X5.here hx rfl (hb hby at_45) rfl k) ?_
    refine Gl.st (g' := (mkF m 47 #[.val (.int p1), .val (.int p2), .val (.int v3), .val (.int (2147483647 : Int32)), .val (.int v6), .unset, .unset] [(.long (1 : Int64)), (.long ((2147483647 : Int32).toInt64))])) (fun t k => XT.lconstV X5.here hx rfl (1 : Int64) (hb hby at_46) rfl k) ?_
    refine Gl.st (g' := (mkF m 48 #[.val (.int p1), .val (.int p2), .val (.int v3), .val (.int (2147483647 : Int32)), .val (.int v6), .unset, .unset] [(.long (((2147483647 : Int32).toInt64) + (1 : Int64)))])) (fun t k => XS.ladd X5.here hx rfl (hb hby at_47) rfl k) ?_
    refine Gl.st (g' := (mkF m 51 #[.val (.int p1), .val (.int p2), .val (.int v3), .val (.int (2147483647 : Int32)), .val (.int v6), .unset, .unset] [(.long (2147483647 : Int64)), (.long (((2147483647 : Int32).toInt64) + (1 : Int64)))])) (fun t k => X5.ldc2J hx hown (mvT hZ (hw _ (List.mem_of_getElem? (i := 5) rfl))) rfl (hb hby at_48) k) ?_
    obtain ⟨_, _, ⟨T7, L7, k7, n7⟩, -, X7, ⟨Lc7, hQ7, l7, y7, z7⟩, st7⟩ := Jvm.LawKit.callS X5 hx (y := (⟨"java/lang/Math", "min", "(JJ)J"⟩ : MethodName)) hown (mvT hZ (hw _ (List.mem_of_getElem? (i := 6) rfl))) (mvT hZ (hw _ (List.mem_of_getElem? (i := 7) rfl))) (mvT hZ (hw _ (List.mem_of_getElem? (i := 8) rfl))) (mvT hZ (hw _ (List.mem_of_getElem? (i := 9) rfl))) (by decide) (backOf (W := 0) (rm2 l Z a0 hw (((2147483647 : Int32).toInt64) + (1 : Int64)) (2147483647 : Int64)  h0 n0 Z0 ) hZ (hw _ (List.mem_of_getElem? (i := 9) rfl)) (hw _ (List.mem_of_getElem? (i := 8) rfl)) (by decide) (by decide)) (g := (mkF m 51 #[.val (.int p1), .val (.int p2), .val (.int v3), .val (.int (2147483647 : Int32)), .val (.int v6), .unset, .unset] [(.long (2147483647 : Int64)), (.long (((2147483647 : Int32).toInt64) + (1 : Int64)))])) rfl (by rw [hml]; rfl) (argsL := [(.long (((2147483647 : Int32).toInt64) + (1 : Int64))), (.long (2147483647 : Int64))]) (rest := []) (lenOf pd_1 rfl) rfl (by show 2 * 0 + _ ≤ _; exact Nat.le_of_eq rfl) (hb hby at_51) (fun _ _ => ⟨rfl, e5, (by decide : 0 + 0 + 0 ≤ _), (by decide : 0 + 0 + 0 ≤ _)⟩)
    dsimp only [Pt.U, Pt.locs, Pt.cells, Pt.slots] at X7 l7 y7 z7 st7 hQ7
    subst l7 y7 z7
    obtain ⟨rfl, Nq7, e7⟩ := hQ7
    have N7 := Fr.app N5 Nq7
    refine Gl.st (g' := (mkF m 54 #[.val (.int p1), .val (.int p2), .val (.int v3), .val (.int (2147483647 : Int32)), .val (.int v6), .unset, .unset] [(.long (own_min (((2147483647 : Int32).toInt64) + (1 : Int64)) (2147483647 : Int64)))])) st7 ?_
    generalize hv8 : (own_min (((2147483647 : Int32).toInt64) + (1 : Int64)) (2147483647 : Int64)) = v8
    refine Gl.st (g' := (mkF m 56 #[.val (.int p1), .val (.int p2), .val (.int v3), .val (.int (2147483647 : Int32)), .val (.int v6), .val (.long v8), .second] [])) (fun t k => XS.lstore X7.here hx rfl (hb hby at_54) rfl (l' := #[.val (.int p1), .val (.int p2), .val (.int v3), .val (.int (2147483647 : Int32)), .val (.int v6), .val (.long v8), .second]) rfl k) ?_
    refine Gl.st (g' := (mkF m 58 #[.val (.int p1), .val (.int p2), .val (.int v3), .val (.int (2147483647 : Int32)), .val (.int v6), .val (.long v8), .second] [(.int v6)])) (fun t k => XS.iload X7.here hx rfl (hb hby at_56) rfl k) ?_
    refine Gl.st (g' := (mkF m 59 #[.val (.int p1), .val (.int p2), .val (.int v3), .val (.int (2147483647 : Int32)), .val (.int v6), .val (.long v8), .second] [(.long (v6.toInt64))])) (fun t k => XS.i2l X7.here hx rfl (hb hby at_58) rfl k) ?_
    refine Gl.st (g' := (mkF m 61 #[.val (.int p1), .val (.int p2), .val (.int v3), .val (.int (2147483647 : Int32)), .val (.int v6), .val (.long v8), .second] [(.long v8), (.long (v6.toInt64))])) (fun t k => XS.lload X7.here hx rfl (hb hby at_59) rfl k) ?_
    refine Gl.st (g' := (mkF m 62 #[.val (.int p1), .val (.int p2), .val (.int v3), .val (.int (2147483647 : Int32)), .val (.int v6), .val (.long v8), .second] [(.int (XT.cmpL (v6.toInt64) v8))])) (fun t k => XT.lcmp X7.here hx rfl (hb hby at_61) rfl k) ?_
    refine Gl.st (g' := (mkF m 65 #[.val (.int p1), .val (.int p2), .val (.int v3), .val (.int (2147483647 : Int32)), .val (.int v6), .val (.long v8), .second] [])) (fun t k => XS.ifNo X7.here hx rfl (hb hby at_62) rfl (XT.ll_ne_f (own_fin hv6 hv8)) k) ?_
    refine Gl.st (g' := (mkF m 66 #[.val (.int p1), .val (.int p2), .val (.int v3), .val (.int (2147483647 : Int32)), .val (.int v6), .val (.long v8), .second] [(.int (1 : Int32))])) (fun t k => XT.iconstV X7.here hx rfl (1 : Int32) (hb hby at_65) rfl k) ?_
    refine Gl.st (g' := (mkF m 70 #[.val (.int p1), .val (.int p2), .val (.int v3), .val (.int (2147483647 : Int32)), .val (.int v6), .val (.long v8), .second] [(.int (1 : Int32))])) (fun t k => XS.goto X7.here hx rfl (pc0 := 66) (pc' := 70) rfl (hb hby at_66) (by decide) (by decide) k) ?_
    refine Gl.retZ X7 hx hlk .boolean (by simp) Bd.returns (hb hby at_70) e7 (by decide) (by decide) ?_
    rw [Q0, own_z1]
    exact ⟨rfl, N7⟩
  · skip
    refine Gl.st (g' := (mkF m 14 #[.val (.int p1), .val (.int p2), .val (.int v3), .unset, .unset, .unset, .unset] [])) (fun t k => XS.ifYes X0.here hx rfl (pc0 := 5) (pc' := 14) rfl (hb hby at_5) rfl (XT.i0_ne_t c4) (by decide) (by decide) k) ?_
    refine Gl.st (g' := (mkF m 15 #[.val (.int p1), .val (.int p2), .val (.int v3), .unset, .unset, .unset, .unset] [(.int v3)])) (fun t k => XS.iloadN X0.here hx rfl (hb hby at_14) rfl k) ?_
    refine Gl.st (g' := (mkF m 16 #[.val (.int p1), .val (.int p2), .val (.int v3), .unset, .unset, .unset, .unset] [(.int (1 : Int32)), (.int v3)])) (fun t k => XT.iconstV X0.here hx rfl (1 : Int32) (hb hby at_15) rfl k) ?_
    by_cases c9 : v3 = (1 : Int32)
    · skip
      refine Gl.st (g' := (mkF m 19 #[.val (.int p1), .val (.int p2), .val (.int v3), .unset, .unset, .unset, .unset] [])) (fun t k => XS.icmpNo X0.here hx rfl (hb hby at_16) rfl (XT.ii_ne_f c9) k) ?_
      refine Gl.st (g' := (mkF m 21 #[.val (.int p1), .val (.int p2), .val (.int v3), .unset, .unset, .unset, .unset] [(.int (2147483646 : Int32))])) (fun t k => X0.ldcI hx hown (mvT hZ (hw _ (List.mem_of_getElem? (i := 10) rfl))) rfl (hb hby at_19) k) ?_
      refine Gl.st (g' := (mkF m 22 #[.val (.int p1), .val (.int p2), .val (.int v3), .val (.int (2147483646 : Int32)), .unset, .unset, .unset] [])) (fun t k => XS.istoreN X0.here hx rfl (hb hby at_21) rfl (l' := #[.val (.int p1), .val (.int p2), .val (.int v3), .val (.int (2147483646 : Int32)), .unset, .unset, .unset]) rfl k) ?_
      refine Gl.st (g' := (mkF m 38 #[.val (.int p1), .val (.int p2), .val (.int v3), .val (.int (2147483646 : Int32)), .unset, .unset, .unset] [])) (fun t k => XS.goto X0.here hx rfl (pc0 := 22) (pc' := 38) rfl (hb hby at_22) (by decide) (by decide) k) ?_
      refine Gl.st (g' := (mkF m 39 #[.val (.int p1), .val (.int p2), .val (.int v3), .val (.int (2147483646 : Int32)), .unset, .unset, .unset] [(.int (2147483646 : Int32))])) (fun t k => XS.iloadN X0.here hx rfl (hb hby at_38) rfl k) ?_
      obtain ⟨_, _, ⟨T10, L10, k10, n10⟩, -, X10, ⟨Lc10, hQ10, l10, y10, z10⟩, st10⟩ := Jvm.LawKit.callS X0 hx (y := (⟨"com/example/hold_for_reply/holdforreply/ParkingWaitStrategy", "increment", "(I)I"⟩ : MethodName)) hown (mvT hZ (hw _ (List.mem_of_getElem? (i := 0) rfl))) (mvT hZ (hw _ (List.mem_of_getElem? (i := 1) rfl))) (mvT hZ (hw _ (List.mem_of_getElem? (i := 2) rfl))) (mvT hZ (hw _ (List.mem_of_getElem? (i := 3) rfl))) (by decide) (backOf (W := 0) (rm1 l Z a0 hw (2147483646 : Int32)  h0 n0 Z0 ) hZ (hw _ (List.mem_of_getElem? (i := 3) rfl)) (hw _ (List.mem_of_getElem? (i := 2) rfl)) (by decide) (by decide)) (g := (mkF m 39 #[.val (.int p1), .val (.int p2), .val (.int v3), .val (.int (2147483646 : Int32)), .unset, .unset, .unset] [(.int (2147483646 : Int32))])) rfl (by rw [hml]; rfl) (argsL := [(.int (2147483646 : Int32))]) (rest := []) (lenOf pd_0 rfl) rfl (by show 2 * 0 + _ ≤ _; exact Nat.le_of_eq rfl) (hb hby at_39) (fun _ _ => ⟨rfl, e0, (by decide : 0 + 0 ≤ _), (by decide : 0 + 0 ≤ _)⟩)
      dsimp only [Pt.U, Pt.locs, Pt.cells, Pt.slots] at X10 l10 y10 z10 st10 hQ10
      subst l10 y10 z10
      obtain ⟨rfl, Nq10, e10⟩ := hQ10
      have N10 := Fr.app N0 Nq10
      refine Gl.st (g' := (mkF m 42 #[.val (.int p1), .val (.int p2), .val (.int v3), .val (.int (2147483646 : Int32)), .unset, .unset, .unset] [(.int (own_i (2147483646 : Int32)))])) st10 ?_
      generalize hv11 : (own_i (2147483646 : Int32)) = v11
      refine Gl.st (g' := (mkF m 44 #[.val (.int p1), .val (.int p2), .val (.int v3), .val (.int (2147483646 : Int32)), .val (.int v11), .unset, .unset] [])) (fun t k => XS.istore X10.here hx rfl (hb hby at_42) rfl (l' := #[.val (.int p1), .val (.int p2), .val (.int v3), .val (.int (2147483646 : Int32)), .val (.int v11), .unset, .unset]) rfl k) ?_
      refine Gl.st (g' := (mkF m 45 #[.val (.int p1), .val (.int p2), .val (.int v3), .val (.int (2147483646 : Int32)), .val (.int v11), .unset, .unset] [(.int (2147483646 : Int32))])) (fun t k => XS.iloadN X10.here hx rfl (hb hby at_44) rfl k) ?_
      refine Gl.st (g' := (mkF m 46 #[.val (.int p1), .val (.int p2), .val (.int v3), .val (.int (2147483646 : Int32)), .val (.int v11), .unset, .unset] [(.long ((2147483646 : Int32).toInt64))])) (fun t k => XS.i2l X10.here hx rfl (hb hby at_45) rfl k) ?_
      refine Gl.st (g' := (mkF m 47 #[.val (.int p1), .val (.int p2), .val (.int v3), .val (.int (2147483646 : Int32)), .val (.int v11), .unset, .unset] [(.long (1 : Int64)), (.long ((2147483646 : Int32).toInt64))])) (fun t k => XT.lconstV X10.here hx rfl (1 : Int64) (hb hby at_46) rfl k) ?_
      refine Gl.st (g' := (mkF m 48 #[.val (.int p1), .val (.int p2), .val (.int v3), .val (.int (2147483646 : Int32)), .val (.int v11), .unset, .unset] [(.long (((2147483646 : Int32).toInt64) + (1 : Int64)))])) (fun t k => XS.ladd X10.here hx rfl (hb hby at_47) rfl k) ?_
      refine Gl.st (g' := (mkF m 51 #[.val (.int p1), .val (.int p2), .val (.int v3), .val (.int (2147483646 : Int32)), .val (.int v11), .unset, .unset] [(.long (2147483647 : Int64)), (.long (((2147483646 : Int32).toInt64) + (1 : Int64)))])) (fun t k => X10.ldc2J hx hown (mvT hZ (hw _ (List.mem_of_getElem? (i := 5) rfl))) rfl (hb hby at_48) k) ?_
      obtain ⟨_, _, ⟨T12, L12, k12, n12⟩, -, X12, ⟨Lc12, hQ12, l12, y12, z12⟩, st12⟩ := Jvm.LawKit.callS X10 hx (y := (⟨"java/lang/Math", "min", "(JJ)J"⟩ : MethodName)) hown (mvT hZ (hw _ (List.mem_of_getElem? (i := 6) rfl))) (mvT hZ (hw _ (List.mem_of_getElem? (i := 7) rfl))) (mvT hZ (hw _ (List.mem_of_getElem? (i := 8) rfl))) (mvT hZ (hw _ (List.mem_of_getElem? (i := 9) rfl))) (by decide) (backOf (W := 0) (rm2 l Z a0 hw (((2147483646 : Int32).toInt64) + (1 : Int64)) (2147483647 : Int64)  h0 n0 Z0 ) hZ (hw _ (List.mem_of_getElem? (i := 9) rfl)) (hw _ (List.mem_of_getElem? (i := 8) rfl)) (by decide) (by decide)) (g := (mkF m 51 #[.val (.int p1), .val (.int p2), .val (.int v3), .val (.int (2147483646 : Int32)), .val (.int v11), .unset, .unset] [(.long (2147483647 : Int64)), (.long (((2147483646 : Int32).toInt64) + (1 : Int64)))])) rfl (by rw [hml]; rfl) (argsL := [(.long (((2147483646 : Int32).toInt64) + (1 : Int64))), (.long (2147483647 : Int64))]) (rest := []) (lenOf pd_1 rfl) rfl (by show 2 * 0 + _ ≤ _; exact Nat.le_of_eq rfl) (hb hby at_51) (fun _ _ => ⟨rfl, e10, (by decide : 0 + 0 + 0 ≤ _), (by decide : 0 + 0 + 0 ≤ _)⟩)
      dsimp only [Pt.U, Pt.locs, Pt.cells, Pt.slots] at X12 l12 y12 z12 st12 hQ12
      subst l12 y12 z12
      obtain ⟨rfl, Nq12, e12⟩ := hQ12
      have N12 := Fr.app N10 Nq12
      refine Gl.st (g' := (mkF m 54 #[.val (.int p1), .val (.int p2), .val (.int v3), .val (.int (2147483646 : Int32)), .val (.int v11), .unset, .unset] [(.long (own_min (((2147483646 : Int32).toInt64) + (1 : Int64)) (2147483647 : Int64)))])) st12 ?_
      generalize hv13 : (own_min (((2147483646 : Int32).toInt64) + (1 : Int64)) (2147483647 : Int64)) = v13
      refine Gl.st (g' := (mkF m 56 #[.val (.int p1), .val (.int p2), .val (.int v3), .val (.int (2147483646 : Int32)), .val (.int v11), .val (.long v13), .second] [])) (fun t k => XS.lstore X12.here hx rfl (hb hby at_54) rfl (l' := #[.val (.int p1), .val (.int p2), .val (.int v3), .val (.int (2147483646 : Int32)), .val (.int v11), .val (.long v13), .second]) rfl k) ?_
      refine Gl.st (g' := (mkF m 58 #[.val (.int p1), .val (.int p2), .val (.int v3), .val (.int (2147483646 : Int32)), .val (.int v11), .val (.long v13), .second] [(.int v11)])) (fun t k => XS.iload X12.here hx rfl (hb hby at_56) rfl k) ?_
      refine Gl.st (g' := (mkF m 59 #[.val (.int p1), .val (.int p2), .val (.int v3), .val (.int (2147483646 : Int32)), .val (.int v11), .val (.long v13), .second] [(.long (v11.toInt64))])) (fun t k => XS.i2l X12.here hx rfl (hb hby at_58) rfl k) ?_
      refine Gl.st (g' := (mkF m 61 #[.val (.int p1), .val (.int p2), .val (.int v3), .val (.int (2147483646 : Int32)), .val (.int v11), .val (.long v13), .second] [(.long v13), (.long (v11.toInt64))])) (fun t k => XS.lload X12.here hx rfl (hb hby at_59) rfl k) ?_
      refine Gl.st (g' := (mkF m 62 #[.val (.int p1), .val (.int p2), .val (.int v3), .val (.int (2147483646 : Int32)), .val (.int v11), .val (.long v13), .second] [(.int (XT.cmpL (v11.toInt64) v13))])) (fun t k => XT.lcmp X12.here hx rfl (hb hby at_61) rfl k) ?_
      refine Gl.st (g' := (mkF m 65 #[.val (.int p1), .val (.int p2), .val (.int v3), .val (.int (2147483646 : Int32)), .val (.int v11), .val (.long v13), .second] [])) (fun t k => XS.ifNo X12.here hx rfl (hb hby at_62) rfl (XT.ll_ne_f (own_fin hv11 hv13)) k) ?_
      refine Gl.st (g' := (mkF m 66 #[.val (.int p1), .val (.int p2), .val (.int v3), .val (.int (2147483646 : Int32)), .val (.int v11), .val (.long v13), .second] [(.int (1 : Int32))])) (fun t k => XT.iconstV X12.here hx rfl (1 : Int32) (hb hby at_65) rfl k) ?_
      refine Gl.st (g' := (mkF m 70 #[.val (.int p1), .val (.int p2), .val (.int v3), .val (.int (2147483646 : Int32)), .val (.int v11), .val (.long v13), .second] [(.int (1 : Int32))])) (fun t k => XS.goto X12.here hx rfl (pc0 := 66) (pc' := 70) rfl (hb hby at_66) (by decide) (by decide) k) ?_
      refine Gl.retZ X12 hx hlk .boolean (by simp) Bd.returns (hb hby at_70) e12 (by decide) (by decide) ?_
      rw [Q0, own_z1]
      exact ⟨rfl, N12⟩
    · skip
      refine Gl.st (g' := (mkF m 25 #[.val (.int p1), .val (.int p2), .val (.int v3), .unset, .unset, .unset, .unset] [])) (fun t k => XS.icmpYes X0.here hx rfl (pc0 := 16) (pc' := 25) rfl (hb hby at_16) rfl (XT.ii_ne_t c9) (by decide) (by decide) k) ?_
      refine Gl.st (g' := (mkF m 26 #[.val (.int p1), .val (.int p2), .val (.int v3), .unset, .unset, .unset, .unset] [(.int v3)])) (fun t k => XS.iloadN X0.here hx rfl (hb hby at_25) rfl k) ?_
      refine Gl.st (g' := (mkF m 27 #[.val (.int p1), .val (.int p2), .val (.int v3), .unset, .unset, .unset, .unset] [(.int (2 : Int32)), (.int v3)])) (fun t k => XT.iconstV X0.here hx rfl (2 : Int32) (hb hby at_26) rfl k) ?_
      by_cases c14 : v3 = (2 : Int32)
      · skip
        refine Gl.st (g' := (mkF m 30 #[.val (.int p1), .val (.int p2), .val (.int v3), .unset, .unset, .unset, .unset] [])) (fun t k => XS.icmpNo X0.here hx rfl (hb hby at_27) rfl (XT.ii_ne_f c14) k) ?_
        refine Gl.st (g' := (mkF m 32 #[.val (.int p1), .val (.int p2), .val (.int v3), .unset, .unset, .unset, .unset] [(.int (-2147483648 : Int32))])) (fun t k => X0.ldcI hx hown (mvT hZ (hw _ (List.mem_of_getElem? (i := 12) rfl))) rfl (hb hby at_30) k) ?_
        refine Gl.st (g' := (mkF m 33 #[.val (.int p1), .val (.int p2), .val (.int v3), .val (.int (-2147483648 : Int32)), .unset, .unset, .unset] [])) (fun t k => XS.istoreN X0.here hx rfl (hb hby at_32) rfl (l' := #[.val (.int p1), .val (.int p2), .val (.int v3), .val (.int (-2147483648 : Int32)), .unset, .unset, .unset]) rfl k) ?_
        refine Gl.st (g' := (mkF m 38 #[.val (.int p1), .val (.int p2), .val (.int v3), .val (.int (-2147483648 : Int32)), .unset, .unset, .unset] [])) (fun t k => XS.goto X0.here hx rfl (pc0 := 33) (pc' := 38) rfl (hb hby at_33) (by decide) (by decide) k) ?_
        refine Gl.st (g' := (mkF m 39 #[.val (.int p1), .val (.int p2), .val (.int v3), .val (.int (-2147483648 : Int32)), .unset, .unset, .unset] [(.int (-2147483648 : Int32))])) (fun t k => XS.iloadN X0.here hx rfl (hb hby at_38) rfl k) ?_
        obtain ⟨_, _, ⟨T15, L15, k15, n15⟩, -, X15, ⟨Lc15, hQ15, l15, y15, z15⟩, st15⟩ := Jvm.LawKit.callS X0 hx (y := (⟨"com/example/hold_for_reply/holdforreply/ParkingWaitStrategy", "increment", "(I)I"⟩ : MethodName)) hown (mvT hZ (hw _ (List.mem_of_getElem? (i := 0) rfl))) (mvT hZ (hw _ (List.mem_of_getElem? (i := 1) rfl))) (mvT hZ (hw _ (List.mem_of_getElem? (i := 2) rfl))) (mvT hZ (hw _ (List.mem_of_getElem? (i := 3) rfl))) (by decide) (backOf (W := 0) (rm1 l Z a0 hw (-2147483648 : Int32)  h0 n0 Z0 ) hZ (hw _ (List.mem_of_getElem? (i := 3) rfl)) (hw _ (List.mem_of_getElem? (i := 2) rfl)) (by decide) (by decide)) (g := (mkF m 39 #[.val (.int p1), .val (.int p2), .val (.int v3), .val (.int (-2147483648 : Int32)), .unset, .unset, .unset] [(.int (-2147483648 : Int32))])) rfl (by rw [hml]; rfl) (argsL := [(.int (-2147483648 : Int32))]) (rest := []) (lenOf pd_0 rfl) rfl (by show 2 * 0 + _ ≤ _; exact Nat.le_of_eq rfl) (hb hby at_39) (fun _ _ => ⟨rfl, e0, (by decide : 0 + 0 ≤ _), (by decide : 0 + 0 ≤ _)⟩)
        dsimp only [Pt.U, Pt.locs, Pt.cells, Pt.slots] at X15 l15 y15 z15 st15 hQ15
        subst l15 y15 z15
        obtain ⟨rfl, Nq15, e15⟩ := hQ15
        have N15 := Fr.app N0 Nq15
        refine Gl.st (g' := (mkF m 42 #[.val (.int p1), .val (.int p2), .val (.int v3), .val (.int (-2147483648 : Int32)), .unset, .unset, .unset] [(.int (own_i (-2147483648 : Int32)))])) st15 ?_
        generalize hv16 : (own_i (-2147483648 : Int32)) = v16
        refine Gl.st (g' := (mkF m 44 #[.val (.int p1), .val (.int p2), .val (.int v3), .val (.int (-2147483648 : Int32)), .val (.int v16), .unset, .unset] [])) (fun t k => XS.istore X15.here hx rfl (hb hby at_42) rfl (l' := #[.val (.int p1), .val (.int p2), .val (.int v3), .val (.int (-2147483648 : Int32)), .val (.int v16), .unset, .unset]) rfl k) ?_
        refine Gl.st (g' := (mkF m 45 #[.val (.int p1), .val (.int p2), .val (.int v3), .val (.int (-2147483648 : Int32)), .val (.int v16), .unset, .unset] [(.int (-2147483648 : Int32))])) (fun t k => XS.iloadN X15.here hx rfl (hb hby at_44) rfl k) ?_
        refine Gl.st (g' := (mkF m 46 #[.val (.int p1), .val (.int p2), .val (.int v3), .val (.int (-2147483648 : Int32)), .val (.int v16), .unset, .unset] [(.long ((-2147483648 : Int32).toInt64))])) (fun t k => XS.i2l X15.here hx rfl (hb hby at_45) rfl k) ?_
        refine Gl.st (g' := (mkF m 47 #[.val (.int p1), .val (.int p2), .val (.int v3), .val (.int (-2147483648 : Int32)), .val (.int v16), .unset, .unset] [(.long (1 : Int64)), (.long ((-2147483648 : Int32).toInt64))])) (fun t k => XT.lconstV X15.here hx rfl (1 : Int64) (hb hby at_46) rfl k) ?_
        refine Gl.st (g' := (mkF m 48 #[.val (.int p1), .val (.int p2), .val (.int v3), .val (.int (-2147483648 : Int32)), .val (.int v16), .unset, .unset] [(.long (((-2147483648 : Int32).toInt64) + (1 : Int64)))])) (fun t k => XS.ladd X15.here hx rfl (hb hby at_47) rfl k) ?_
        refine Gl.st (g' := (mkF m 51 #[.val (.int p1), .val (.int p2), .val (.int v3), .val (.int (-2147483648 : Int32)), .val (.int v16), .unset, .unset] [(.long (2147483647 : Int64)), (.long (((-2147483648 : Int32).toInt64) + (1 : Int64)))])) (fun t k => X15.ldc2J hx hown (mvT hZ (hw _ (List.mem_of_getElem? (i := 5) rfl))) rfl (hb hby at_48) k) ?_
        obtain ⟨_, _, ⟨T17, L17, k17, n17⟩, -, X17, ⟨Lc17, hQ17, l17, y17, z17⟩, st17⟩ := Jvm.LawKit.callS X15 hx (y := (⟨"java/lang/Math", "min", "(JJ)J"⟩ : MethodName)) hown (mvT hZ (hw _ (List.mem_of_getElem? (i := 6) rfl))) (mvT hZ (hw _ (List.mem_of_getElem? (i := 7) rfl))) (mvT hZ (hw _ (List.mem_of_getElem? (i := 8) rfl))) (mvT hZ (hw _ (List.mem_of_getElem? (i := 9) rfl))) (by decide) (backOf (W := 0) (rm2 l Z a0 hw (((-2147483648 : Int32).toInt64) + (1 : Int64)) (2147483647 : Int64)  h0 n0 Z0 ) hZ (hw _ (List.mem_of_getElem? (i := 9) rfl)) (hw _ (List.mem_of_getElem? (i := 8) rfl)) (by decide) (by decide)) (g := (mkF m 51 #[.val (.int p1), .val (.int p2), .val (.int v3), .val (.int (-2147483648 : Int32)), .val (.int v16), .unset, .unset] [(.long (2147483647 : Int64)), (.long (((-2147483648 : Int32).toInt64) + (1 : Int64)))])) rfl (by rw [hml]; rfl) (argsL := [(.long (((-2147483648 : Int32).toInt64) + (1 : Int64))), (.long (2147483647 : Int64))]) (rest := []) (lenOf pd_1 rfl) rfl (by show 2 * 0 + _ ≤ _; exact Nat.le_of_eq rfl) (hb hby at_51) (fun _ _ => ⟨rfl, e15, (by decide : 0 + 0 + 0 ≤ _), (by decide : 0 + 0 + 0 ≤ _)⟩)
        dsimp only [Pt.U, Pt.locs, Pt.cells, Pt.slots] at X17 l17 y17 z17 st17 hQ17
        subst l17 y17 z17
        obtain ⟨rfl, Nq17, e17⟩ := hQ17
        have N17 := Fr.app N15 Nq17
        refine Gl.st (g' := (mkF m 54 #[.val (.int p1), .val (.int p2), .val (.int v3), .val (.int (-2147483648 : Int32)), .val (.int v16), .unset, .unset] [(.long (own_min (((-2147483648 : Int32).toInt64) + (1 : Int64)) (2147483647 : Int64)))])) st17 ?_
        generalize hv18 : (own_min (((-2147483648 : Int32).toInt64) + (1 : Int64)) (2147483647 : Int64)) = v18
        refine Gl.st (g' := (mkF m 56 #[.val (.int p1), .val (.int p2), .val (.int v3), .val (.int (-2147483648 : Int32)), .val (.int v16), .val (.long v18), .second] [])) (fun t k => XS.lstore X17.here hx rfl (hb hby at_54) rfl (l' := #[.val (.int p1), .val (.int p2), .val (.int v3), .val (.int (-2147483648 : Int32)), .val (.int v16), .val (.long v18), .second]) rfl k) ?_
        refine Gl.st (g' := (mkF m 58 #[.val (.int p1), .val (.int p2), .val (.int v3), .val (.int (-2147483648 : Int32)), .val (.int v16), .val (.long v18), .second] [(.int v16)])) (fun t k => XS.iload X17.here hx rfl (hb hby at_56) rfl k) ?_
        refine Gl.st (g' := (mkF m 59 #[.val (.int p1), .val (.int p2), .val (.int v3), .val (.int (-2147483648 : Int32)), .val (.int v16), .val (.long v18), .second] [(.long (v16.toInt64))])) (fun t k => XS.i2l X17.here hx rfl (hb hby at_58) rfl k) ?_
        refine Gl.st (g' := (mkF m 61 #[.val (.int p1), .val (.int p2), .val (.int v3), .val (.int (-2147483648 : Int32)), .val (.int v16), .val (.long v18), .second] [(.long v18), (.long (v16.toInt64))])) (fun t k => XS.lload X17.here hx rfl (hb hby at_59) rfl k) ?_
        refine Gl.st (g' := (mkF m 62 #[.val (.int p1), .val (.int p2), .val (.int v3), .val (.int (-2147483648 : Int32)), .val (.int v16), .val (.long v18), .second] [(.int (XT.cmpL (v16.toInt64) v18))])) (fun t k => XT.lcmp X17.here hx rfl (hb hby at_61) rfl k) ?_
        refine Gl.st (g' := (mkF m 65 #[.val (.int p1), .val (.int p2), .val (.int v3), .val (.int (-2147483648 : Int32)), .val (.int v16), .val (.long v18), .second] [])) (fun t k => XS.ifNo X17.here hx rfl (hb hby at_62) rfl (XT.ll_ne_f (own_fin hv16 hv18)) k) ?_
        refine Gl.st (g' := (mkF m 66 #[.val (.int p1), .val (.int p2), .val (.int v3), .val (.int (-2147483648 : Int32)), .val (.int v16), .val (.long v18), .second] [(.int (1 : Int32))])) (fun t k => XT.iconstV X17.here hx rfl (1 : Int32) (hb hby at_65) rfl k) ?_
        refine Gl.st (g' := (mkF m 70 #[.val (.int p1), .val (.int p2), .val (.int v3), .val (.int (-2147483648 : Int32)), .val (.int v16), .val (.long v18), .second] [(.int (1 : Int32))])) (fun t k => XS.goto X17.here hx rfl (pc0 := 66) (pc' := 70) rfl (hb hby at_66) (by decide) (by decide) k) ?_
        refine Gl.retZ X17 hx hlk .boolean (by simp) Bd.returns (hb hby at_70) e17 (by decide) (by decide) ?_
        rw [Q0, own_z1]
        exact ⟨rfl, N17⟩
      · skip
        refine Gl.st (g' := (mkF m 36 #[.val (.int p1), .val (.int p2), .val (.int v3), .unset, .unset, .unset, .unset] [])) (fun t k => XS.icmpYes X0.here hx rfl (pc0 := 27) (pc' := 36) rfl (hb hby at_27) rfl (XT.ii_ne_t c14) (by decide) (by decide) k) ?_
        refine Gl.st (g' := (mkF m 37 #[.val (.int p1), .val (.int p2), .val (.int v3), .unset, .unset, .unset, .unset] [(.int p1)])) (fun t k => XS.iloadN X0.here hx rfl (hb hby at_36) rfl k) ?_
        refine Gl.st (g' := (mkF m 38 #[.val (.int p1), .val (.int p2), .val (.int v3), .val (.int p1), .unset, .unset, .unset] [])) (fun t k => XS.istoreN X0.here hx rfl (hb hby at_37) rfl (l' := #[.val (.int p1), .val (.int p2), .val (.int v3), .val (.int p1), .unset, .unset, .unset]) rfl k) ?_
        refine Gl.st (g' := (mkF m 39 #[.val (.int p1), .val (.int p2), .val (.int v3), .val (.int p1), .unset, .unset, .unset] [(.int p1)])) (fun t k => XS.iloadN X0.here hx rfl (hb hby at_38) rfl k) ?_
        obtain ⟨_, _, ⟨T19, L19, k19, n19⟩, -, X19, ⟨Lc19, hQ19, l19, y19, z19⟩, st19⟩ := Jvm.LawKit.callS X0 hx (y := (⟨"com/example/hold_for_reply/holdforreply/ParkingWaitStrategy", "increment", "(I)I"⟩ : MethodName)) hown (mvT hZ (hw _ (List.mem_of_getElem? (i := 0) rfl))) (mvT hZ (hw _ (List.mem_of_getElem? (i := 1) rfl))) (mvT hZ (hw _ (List.mem_of_getElem? (i := 2) rfl))) (mvT hZ (hw _ (List.mem_of_getElem? (i := 3) rfl))) (by decide) (backOf (W := 0) (rm1 l Z a0 hw p1  h0 n0 Z0 ) hZ (hw _ (List.mem_of_getElem? (i := 3) rfl)) (hw _ (List.mem_of_getElem? (i := 2) rfl)) (by decide) (by decide)) (g := (mkF m 39 #[.val (.int p1), .val (.int p2), .val (.int v3), .val (.int p1), .unset, .unset, .unset] [(.int p1)])) rfl (by rw [hml]; rfl) (argsL := [(.int p1)]) (rest := []) (lenOf pd_0 rfl) rfl (by show 2 * 0 + _ ≤ _; exact Nat.le_of_eq rfl) (hb hby at_39) (fun _ _ => ⟨rfl, e0, (by decide : 0 + 0 ≤ _), (by decide : 0 + 0 ≤ _)⟩)
        dsimp only [Pt.U, Pt.locs, Pt.cells, Pt.slots] at X19 l19 y19 z19 st19 hQ19
        subst l19 y19 z19
        obtain ⟨rfl, Nq19, e19⟩ := hQ19
        have N19 := Fr.app N0 Nq19
        refine Gl.st (g' := (mkF m 42 #[.val (.int p1), .val (.int p2), .val (.int v3), .val (.int p1), .unset, .unset, .unset] [(.int (own_i p1))])) st19 ?_
        generalize hv20 : (own_i p1) = v20
        refine Gl.st (g' := (mkF m 44 #[.val (.int p1), .val (.int p2), .val (.int v3), .val (.int p1), .val (.int v20), .unset, .unset] [])) (fun t k => XS.istore X19.here hx rfl (hb hby at_42) rfl (l' := #[.val (.int p1), .val (.int p2), .val (.int v3), .val (.int p1), .val (.int v20), .unset, .unset]) rfl k) ?_
        refine Gl.st (g' := (mkF m 45 #[.val (.int p1), .val (.int p2), .val (.int v3), .val (.int p1), .val (.int v20), .unset, .unset] [(.int p1)])) (fun t k => XS.iloadN X19.here hx rfl (hb hby at_44) rfl k) ?_
        refine Gl.st (g' := (mkF m 46 #[.val (.int p1), .val (.int p2), .val (.int v3), .val (.int p1), .val (.int v20), .unset, .unset] [(.long (p1.toInt64))])) (fun t k => XS.i2l X19.here hx rfl (hb hby at_45) rfl k) ?_
        refine Gl.st (g' := (mkF m 47 #[.val (.int p1), .val (.int p2), .val (.int v3), .val (.int p1), .val (.int v20), .unset, .unset] [(.long (1 : Int64)), (.long (p1.toInt64))])) (fun t k => XT.lconstV X19.here hx rfl (1 : Int64) (hb hby at_46) rfl k) ?_
        refine Gl.st (g' := (mkF m 48 #[.val (.int p1), .val (.int p2), .val (.int v3), .val (.int p1), .val (.int v20), .unset, .unset] [(.long ((p1.toInt64) + (1 : Int64)))])) (fun t k => XS.ladd X19.here hx rfl (hb hby at_47) rfl k) ?_
        refine Gl.st (g' := (mkF m 51 #[.val (.int p1), .val (.int p2), .val (.int v3), .val (.int p1), .val (.int v20), .unset, .unset] [(.long (2147483647 : Int64)), (.long ((p1.toInt64) + (1 : Int64)))])) (fun t k => X19.ldc2J hx hown (mvT hZ (hw _ (List.mem_of_getElem? (i := 5) rfl))) rfl (hb hby at_48) k) ?_
        obtain ⟨_, _, ⟨T21, L21, k21, n21⟩, -, X21, ⟨Lc21, hQ21, l21, y21, z21⟩, st21⟩ := Jvm.LawKit.callS X19 hx (y := (⟨"java/lang/Math", "min", "(JJ)J"⟩ : MethodName)) hown (mvT hZ (hw _ (List.mem_of_getElem? (i := 6) rfl))) (mvT hZ (hw _ (List.mem_of_getElem? (i := 7) rfl))) (mvT hZ (hw _ (List.mem_of_getElem? (i := 8) rfl))) (mvT hZ (hw _ (List.mem_of_getElem? (i := 9) rfl))) (by decide) (backOf (W := 0) (rm2 l Z a0 hw ((p1.toInt64) + (1 : Int64)) (2147483647 : Int64)  h0 n0 Z0 ) hZ (hw _ (List.mem_of_getElem? (i := 9) rfl)) (hw _ (List.mem_of_getElem? (i := 8) rfl)) (by decide) (by decide)) (g := (mkF m 51 #[.val (.int p1), .val (.int p2), .val (.int v3), .val (.int p1), .val (.int v20), .unset, .unset] [(.long (2147483647 : Int64)), (.long ((p1.toInt64) + (1 : Int64)))])) rfl (by rw [hml]; rfl) (argsL := [(.long ((p1.toInt64) + (1 : Int64))), (.long (2147483647 : Int64))]) (rest := []) (lenOf pd_1 rfl) rfl (by show 2 * 0 + _ ≤ _; exact Nat.le_of_eq rfl) (hb hby at_51) (fun _ _ => ⟨rfl, e19, (by decide : 0 + 0 + 0 ≤ _), (by decide : 0 + 0 + 0 ≤ _)⟩)
        dsimp only [Pt.U, Pt.locs, Pt.cells, Pt.slots] at X21 l21 y21 z21 st21 hQ21
        subst l21 y21 z21
        obtain ⟨rfl, Nq21, e21⟩ := hQ21
        have N21 := Fr.app N19 Nq21
        refine Gl.st (g' := (mkF m 54 #[.val (.int p1), .val (.int p2), .val (.int v3), .val (.int p1), .val (.int v20), .unset, .unset] [(.long (own_min ((p1.toInt64) + (1 : Int64)) (2147483647 : Int64)))])) st21 ?_
        generalize hv22 : (own_min ((p1.toInt64) + (1 : Int64)) (2147483647 : Int64)) = v22
        refine Gl.st (g' := (mkF m 56 #[.val (.int p1), .val (.int p2), .val (.int v3), .val (.int p1), .val (.int v20), .val (.long v22), .second] [])) (fun t k => XS.lstore X21.here hx rfl (hb hby at_54) rfl (l' := #[.val (.int p1), .val (.int p2), .val (.int v3), .val (.int p1), .val (.int v20), .val (.long v22), .second]) rfl k) ?_
        refine Gl.st (g' := (mkF m 58 #[.val (.int p1), .val (.int p2), .val (.int v3), .val (.int p1), .val (.int v20), .val (.long v22), .second] [(.int v20)])) (fun t k => XS.iload X21.here hx rfl (hb hby at_56) rfl k) ?_
        refine Gl.st (g' := (mkF m 59 #[.val (.int p1), .val (.int p2), .val (.int v3), .val (.int p1), .val (.int v20), .val (.long v22), .second] [(.long (v20.toInt64))])) (fun t k => XS.i2l X21.here hx rfl (hb hby at_58) rfl k) ?_
        refine Gl.st (g' := (mkF m 61 #[.val (.int p1), .val (.int p2), .val (.int v3), .val (.int p1), .val (.int v20), .val (.long v22), .second] [(.long v22), (.long (v20.toInt64))])) (fun t k => XS.lload X21.here hx rfl (hb hby at_59) rfl k) ?_
        refine Gl.st (g' := (mkF m 62 #[.val (.int p1), .val (.int p2), .val (.int v3), .val (.int p1), .val (.int v20), .val (.long v22), .second] [(.int (XT.cmpL (v20.toInt64) v22))])) (fun t k => XT.lcmp X21.here hx rfl (hb hby at_61) rfl k) ?_
        refine Gl.st (g' := (mkF m 65 #[.val (.int p1), .val (.int p2), .val (.int v3), .val (.int p1), .val (.int v20), .val (.long v22), .second] [])) (fun t k => XS.ifNo X21.here hx rfl (hb hby at_62) rfl (XT.ll_ne_f (own_fin hv20 hv22)) k) ?_
        refine Gl.st (g' := (mkF m 66 #[.val (.int p1), .val (.int p2), .val (.int v3), .val (.int p1), .val (.int v20), .val (.long v22), .second] [(.int (1 : Int32))])) (fun t k => XT.iconstV X21.here hx rfl (1 : Int32) (hb hby at_65) rfl k) ?_
        refine Gl.st (g' := (mkF m 70 #[.val (.int p1), .val (.int p2), .val (.int v3), .val (.int p1), .val (.int v20), .val (.long v22), .second] [(.int (1 : Int32))])) (fun t k => XS.goto X21.here hx rfl (pc0 := 66) (pc' := 70) rfl (hb hby at_66) (by decide) (by decide) k) ?_
        refine Gl.retZ X21 hx hlk .boolean (by simp) Bd.returns (hb hby at_70) e21 (by decide) (by decide) ?_
        rw [Q0, own_z1]
        exact ⟨rfl, N21⟩
set_option maxRecDepth 65536 in
set_option maxHeartbeats 40000000 in
theorem comes_1 {Post : Tables → Env → Array Value → State → Outcome → State → Prop} (hpost : ∀ tb e args s v u, (limb_1_1.after args s (.returned v) u = true ∧ limb_1_2.after args s (.returned v) u = true ∧ True) → FrameEnd s (.returned v) u (Jvm.fieldLocs frame_1_writes args s ++ Jvm.arrayLocs frame_1_arrays args s ++ Jvm.staticLocs frame_1_statics s) 0 0 → Post tb e args s (.returned v) u) :
    ArmFor flags0 classFile x code maxLocals ret World_1 tables_1 room_1 Calls_1 rest_1 Pre_1 Post := by
  intro l hfl _ _ p e ha hc hk s m args below hf hA hF happ hP
  obtain ⟨hcalls, hrest, hpre⟩ := hP
  obtain ⟨-, -, -, hnamed, -, -, -, hat⟩ := (Spec.applies_iff hf).mp happ
  obtain ⟨hg, hn⟩ := and_e (Cond.before_iff.mp (show (Jvm.Cond.and given_1 narrow_1).before args s = true from hpre))
  obtain ⟨hcount, hk1⟩ := and_e hg
  obtain ⟨hi1, hk2⟩ := and_e hk1
  obtain ⟨w0, w1, rfl⟩ : ∃ w0 w1 : Value, args = #[w0, w1] := by
    have hs : args.size = 2 := by simpa [Cond.value, given_1] using hcount
    obtain ⟨L⟩ := args
    match L, hs with
    | [w0, w1], _ => exact ⟨w0, w1, rfl⟩
  have hw := fun d (hd : d ∈ tables_1) => atoms_spec (ws := Jvm.Cond.code x code maxLocals ret :: tables_1) hat d (List.mem_cons_of_mem _ hd)
  obtain ⟨i0, q0⟩ := is_v hi1
  obtain rfl : w0 = (.int i0) := Option.some.inj q0
  obtain ⟨i1, q1⟩ := is_v hk2
  obtain rfl : w1 = (.int i1) := Option.some.inj q1
  obtain ⟨n, o, h1, h2, h3, _, L, rfl, ⟨rfl, N⟩, hq⟩ := rm0 l s _ hw tables_1 i0 i1 s.heap s.heap.size (Nat.le_refl _)  p e ha hc hk s m _ below hf ((Spec.applies_iff_loose hf).mp happ).1 ⟨rfl, State.Warmed39.refl s, rfl⟩ trivial
  refine ⟨n, _, h1, h2, h3, hpost _ _ _ _ _ _ ⟨Cond.after_iff.mpr rfl, Cond.after_iff.mpr (eq_i res_at (Term.int_eval (1)) rfl), trivial⟩ ⟨hq.1, hq.2.1, (hq.2.2.sift fun y hy => Or.inr (N y hy)).mono (by decide) (by decide)⟩⟩
theorem main_1_1 : Claimed_1_1 := comes_1 fun _ _ _ _ _ _ h hF => ⟨h.1, hF⟩
theorem main_1_2 : Claimed_1_2 := comes_1 fun _ _ _ _ _ _ h hF => ⟨h.2.1, hF⟩
end Jvm.Pilot.@@N@@
namespace Jvm.Pilot.@@N@@
open Jvm Jvm.ClassFile Sem Op Lib Jvm.Free Jvm.Stand Jvm.Pilot.@@N@@.Jvm.D
/-! MADE BY PROGRAM (witnessworld.py) out of the Statement's table words and the real class files: 11 classes; the members and pool entries that the words name. The judged class is class 1, her method 1. -/
namespace start1
open Jvm.ClassFile
def u (s : String) : CpInfo := .utf8 (stringToUtf16 s)
/-- a pool by its gaps: so many unusable entries, then the entry; so many at the end -/
def gap : Nat → List CpInfo → List CpInfo
  | 0, r => r
  | n + 1, r => .unusable :: gap n r
def poolList (es : List (Nat × CpInfo)) (last : Nat) : List CpInfo := es.foldr (fun e r => gap e.1 (e.2 :: r)) (gap last [])
def pool (es : List (Nat × CpInfo)) (last : Nat) : Array CpInfo := ⟨poolList es last⟩
def fileOf (pool : Array CpInfo) (this : Nat) (attrs : Array Attribute := #[]) (ms : Array MethodInfo := #[]) (fl : Nat := 33) (sup : Nat := 0) (ifs : Array Nat := #[]) (fds : Array FieldInfo := #[]) : ClassFile where
  minorVersion := 0
  majorVersion := 65
  constantPool := pool
  accessFlags := fl
  thisClass := this
  superClass := sup
  interfaces := ifs
  fields := fds
  methods := ms
  attributes := attrs
def plain (name : String) (sup : Option ClassId) : Class where
  name := name
  kind := .ordinary
  loader := none
  accessFlags := 33
  super := sup
  interfaces := #[]
  cf := none
  fields := #[]
  methods := #[]
  instanceTypes := #[]
  staticTypes := #[]
  resolved := #[]
  callSites := []
  init := .initialized
  statics := none
  mirror := none

def pool0 : Array CpInfo := pool [(5, u "<init>"), (0, u "()V"), (1, .class_ 10), (1, u "java/lang/Object")] 113

def k0m0 : Method := { name := "<init>", desc := "()V", sig := { parameters := [], returnType := none }, accessFlags := 1, code := none }
/-- java/lang/Object -/
def k0 : Class := { plain "java/lang/Object" none with
  accessFlags := 33
  interfaces := #[]
  cf := some (fileOf pool0 8 #[] #[{ accessFlags := 1, nameIndex := 5, descriptorIndex := 6, attributes := #[] }] 33 0 #[] #[])
  fields := #[]
  methods := #[k0m0]
  instanceTypes := #[]
  staticTypes := #[]
  resolved := Array.replicate 124 none
  statics := none }

def pool1 : Array CpInfo := pool [(2, .class_ 4), (1, u "java/lang/Object"), (0, u "<init>"), (0, u "()V"), (2, .integer 2147483647), (0, .integer 2147483646), (0, .integer 2147483648), (0, .methodref 13 14), (0, .class_ 15), (0, .nameAndType 16 17), (0, u "com/example/hold_for_reply/holdforreply/ParkingWaitStrategy"), (0, u "increment"), (0, u "(I)I"), (0, .long 2147483647), (1, .methodref 21 22), (0, .class_ 23), (0, .nameAndType 24 25), (0, u "java/lang/Math"), (0, u "min"), (0, u "(JJ)J"), (0, .class_ 27), (0, u "com/example/hold_for_reply/holdforreply/ParkingWaitStrategyIncrementPinLaw"), (2, u "law"), (0, u "(II)Z")] 3

def k1m0 : Method := { name := "<init>", desc := "()V", sig := { parameters := [], returnType := none }, accessFlags := 1, code := none }
def k1c1 : Code := { maxStack := 4, maxLocals := 7, code := code, exceptionTable := #[], attributes := #[] }
def k1m1 : Method := { name := "law", desc := "(II)Z", sig := { parameters := [.int, .int], returnType := some .boolean }, accessFlags := 9, code := some k1c1 }
/-- com/example/hold_for_reply/holdforreply/ParkingWaitStrategyIncrementPinLaw -/
def k1 : Class := { plain "com/example/hold_for_reply/holdforreply/ParkingWaitStrategyIncrementPinLaw" (some 0) with
  accessFlags := 49
  interfaces := #[]
  cf := some (fileOf pool1 26 #[] #[{ accessFlags := 1, nameIndex := 5, descriptorIndex := 6, attributes := #[] }, { accessFlags := 9, nameIndex := 30, descriptorIndex := 31, attributes := #[] }] 49 2 #[] #[])
  fields := #[]
  methods := #[k1m0, k1m1]
  instanceTypes := #[]
  staticTypes := #[]
  resolved := Array.replicate 35 none
  statics := none }

def pool2 : Array CpInfo := pool [(2, .class_ 4), (1, u "com/example/hold_for_reply/holdforreply/WaitStrategy"), (13, .class_ 19), (0, u "java/lang/Object")] 14

/-- com/example/hold_for_reply/holdforreply/WaitStrategy -/
def k2 : Class := { plain "com/example/hold_for_reply/holdforreply/WaitStrategy" (some 0) with
  accessFlags := 1537
  interfaces := #[]
  cf := some (fileOf pool2 2 #[] #[] 1537 18 #[] #[])
  fields := #[]
  methods := #[]
  instanceTypes := #[]
  staticTypes := #[]
  resolved := Array.replicate 34 none
  statics := none }

def pool3 : Array CpInfo := pool [(2, .class_ 4), (1, u "java/lang/Object"), (0, u "<init>"), (0, u "()V"), (5, .class_ 14), (1, u "com/example/hold_for_reply/holdforreply/ParkingWaitStrategy"), (23, .integer 2147483647), (43, .class_ 83), (0, u "com/example/hold_for_reply/holdforreply/WaitStrategy"), (2, u "(I)I"), (4, u "increment")] 20

def k3m0 : Method := { name := "<init>", desc := "()V", sig := { parameters := [], returnType := none }, accessFlags := 0, code := none }
def k3c1 : Code := { maxStack := 2, maxLocals := 1, code := prog_16_method_5_code, exceptionTable := #[], attributes := #[] }
def k3m1 : Method := { name := "increment", desc := "(I)I", sig := { parameters := [.int], returnType := some .int }, accessFlags := 8, code := some k3c1 }
/-- com/example/hold_for_reply/holdforreply/ParkingWaitStrategy -/
def k3 : Class := { plain "com/example/hold_for_reply/holdforreply/ParkingWaitStrategy" (some 0) with
  accessFlags := 1056
  interfaces := #[2]
  cf := some (fileOf pool3 12 #[] #[{ accessFlags := 0, nameIndex := 5, descriptorIndex := 6, attributes := #[] }, { accessFlags := 8, nameIndex := 91, descriptorIndex := 86, attributes := #[] }] 1056 2 #[82] #[])
  fields := #[]
  methods := #[k3m0, k3m1]
  instanceTypes := #[]
  staticTypes := #[]
  resolved := Array.replicate 112 none
  statics := none }

def pool4 : Array CpInfo := pool [(1, .class_ 2), (0, u "java/lang/Math"), (1, .class_ 6), (1, u "java/lang/Object"), (0, u "<init>"), (0, u "()V"), (89, .class_ 100), (1, u "java/lang/Math$RandomNumberGeneratorHolder"), (20, u "(JJ)J"), (50, u "negativeZeroFloatBits"), (0, u "J"), (2, u "negativeZeroDoubleBits"), (24, u "min"), (43, u "$assertionsDisabled"), (0, u "Z"), (91, u "twoToTheDoubleScaleDown"), (0, u "D"), (4, u "twoToTheDoubleScaleUp"), (9, u "E"), (3, u "PI"), (2, u "TAU"), (2, u "DEGREES_TO_RADIANS"), (0, u "RADIANS_TO_DEGREES")] 94

def k4m0 : Method := { name := "<init>", desc := "()V", sig := { parameters := [], returnType := none }, accessFlags := 2, code := none }
def k4c1 : Code := { maxStack := 4, maxLocals := 4, code := jdk_29_method_70_code, exceptionTable := #[], attributes := #[] }
def k4m1 : Method := { name := "min", desc := "(JJ)J", sig := { parameters := [.long, .long], returnType := some .long }, accessFlags := 9, code := some k4c1 }
/-- java/lang/Math -/
def k4 : Class := { plain "java/lang/Math" (some 0) with
  accessFlags := 49
  interfaces := #[]
  cf := some (fileOf pool4 1 #[.nestMembers #[98]] #[{ accessFlags := 2, nameIndex := 7, descriptorIndex := 8, attributes := #[] }, { accessFlags := 9, nameIndex := 201, descriptorIndex := 121, attributes := #[] }] 49 4 #[] #[{ accessFlags := 25, nameIndex := 354, descriptorIndex := 339, attributes := #[] }, { accessFlags := 25, nameIndex := 358, descriptorIndex := 339, attributes := #[] }, { accessFlags := 25, nameIndex := 361, descriptorIndex := 339, attributes := #[] }, { accessFlags := 26, nameIndex := 364, descriptorIndex := 339, attributes := #[] }, { accessFlags := 26, nameIndex := 365, descriptorIndex := 339, attributes := #[] }, { accessFlags := 26, nameIndex := 172, descriptorIndex := 173, attributes := #[] }, { accessFlags := 26, nameIndex := 176, descriptorIndex := 173, attributes := #[] }, { accessFlags := 8, nameIndex := 344, descriptorIndex := 339, attributes := #[] }, { accessFlags := 8, nameIndex := 338, descriptorIndex := 339, attributes := #[] }, { accessFlags := 4120, nameIndex := 245, descriptorIndex := 246, attributes := #[] }])
  fields := #[{ name := "E", type := .double, accessFlags := 25, slot := 0, constantValue := 0 }, { name := "PI", type := .double, accessFlags := 25, slot := 1, constantValue := 0 }, { name := "TAU", type := .double, accessFlags := 25, slot := 2, constantValue := 0 }, { name := "DEGREES_TO_RADIANS", type := .double, accessFlags := 26, slot := 3, constantValue := 0 }, { name := "RADIANS_TO_DEGREES", type := .double, accessFlags := 26, slot := 4, constantValue := 0 }, { name := "negativeZeroFloatBits", type := .long, accessFlags := 26, slot := 5, constantValue := 0 }, { name := "negativeZeroDoubleBits", type := .long, accessFlags := 26, slot := 6, constantValue := 0 }, { name := "twoToTheDoubleScaleUp", type := .double, accessFlags := 8, slot := 7, constantValue := 0 }, { name := "twoToTheDoubleScaleDown", type := .double, accessFlags := 8, slot := 8, constantValue := 0 }, { name := "$assertionsDisabled", type := .boolean, accessFlags := 4120, slot := 9, constantValue := 0 }]
  methods := #[k4m0, k4m1]
  instanceTypes := #[]
  staticTypes := #[.double, .double, .double, .double, .double, .long, .long, .double, .double, .boolean]
  resolved := Array.replicate 460 none
  statics := none }

def pool5 : Array CpInfo := pool [(1, u "java/lang/Cloneable"), (0, .class_ 1), (0, u "java/lang/Object"), (0, .class_ 3)] 3

/-- java/lang/Cloneable -/
def k5 : Class := { plain "java/lang/Cloneable" (some 0) with
  accessFlags := 1537
  interfaces := #[]
  cf := some (fileOf pool5 2 #[] #[] 1537 4 #[] #[])
  fields := #[]
  methods := #[]
  instanceTypes := #[]
  staticTypes := #[]
  resolved := Array.replicate 8 none
  statics := none }

def pool6 : Array CpInfo := pool [(1, u "java/io/Serializable"), (0, .class_ 1), (0, u "java/lang/Object"), (0, .class_ 3)] 3

/-- java/io/Serializable -/
def k6 : Class := { plain "java/io/Serializable" (some 0) with
  accessFlags := 1537
  interfaces := #[]
  cf := some (fileOf pool6 2 #[] #[] 1537 4 #[] #[])
  fields := #[]
  methods := #[]
  instanceTypes := #[]
  staticTypes := #[]
  resolved := Array.replicate 8 none
  statics := none }

/-- the primitive byte -/
def k7 : Class := { plain "byte" none with kind := .primitive 'B', accessFlags := 0x411 }
/-- [B -/
def k8 : Class := { plain "[B" (some 0) with kind := .array 7 .byte, interfaces := #[5, 6], accessFlags := 1041 }

/-- the primitive int -/
def k9 : Class := { plain "int" none with kind := .primitive 'I', accessFlags := 0x411 }
/-- [I -/
def k10 : Class := { plain "[I" (some 0) with kind := .array 9 .int, interfaces := #[5, 6], accessFlags := 1041 }

def heap : Heap := #[]
def classes : Array Class := #[k0, k1, k2, k3, k4, k5, k6, k7, k8, k9, k10]
def interned : List (Array UInt16 × Addr) := []
def slotsUsed : Nat := 0
def theMethod : MethodId := ⟨1, 1⟩
def args0 : Array Value := #[.int 5, .int 5]
def aboutOver (below : List Frame) : State where
  vm := { classes := classes, interned := interned.toArray }
  heap := heap
  slotsUsed := slotsUsed
  threads := #[{ frames := .invoking theMethod args0 :: below }]
def below0 : List Frame := [.native { method := ⟨0, 0⟩, args := #[] }]
def about1 : State := aboutOver below0
def p0 : Program := .bare "" "" ""
def e0 : Env := launch0.env 0 0 0
theorem w_frames : about1.frames = Frame.invoking theMethod args0 :: below0 := rfl
set_option maxRecDepth 65536 in
theorem w_args : argsFit about1.vm theMethod args0 = true := by decide +kernel
set_option maxRecDepth 65536 in
theorem w_heap : heapFits about1 = true := by decide +kernel
set_option maxRecDepth 65536 in
theorem w_runnable : about1.curStatus? = some .runnable := by decide +kernel
set_option maxRecDepth 65536 in
theorem w_alone : about1.alone = true := by decide +kernel
set_option maxRecDepth 65536 in
theorem w_named : about1.methodNamed? x = some theMethod := by decide +kernel
set_option maxRecDepth 65536 in
theorem w_hears : about1.hears theMethod below0 = true := by decide +kernel
set_option maxRecDepth 65536 in
theorem w_ripe : about1.ripe theMethod args0 below0 = true := by decide +kernel
theorem w_running : about1.status = .running := rfl
set_option maxRecDepth 65536 in
theorem w_room : about1.hasRoom e0.platform room_1 = true :=
  launch0.hasRoom_least _ room_1 (by decide +kernel) (by decide +kernel) (by decide +kernel) (by decide +kernel) (by decide +kernel) (by decide +kernel)
theorem allAtoms_all (ts : List Jvm.Cond) (a : Array Jvm.Value) (st : Jvm.State) : (allAtoms ts).before a st = ts.all (fun c => c.before a st) := by
  induction ts with
  | nil => rfl
  | cons c t ih =>
    show (Jvm.Cond.and c (allAtoms t)).before a st = _
    rw [Jvm.Cond.before_and, ih, List.all_cons]
def words1 : List Jvm.Cond := Jvm.Cond.code x code maxLocals ret :: tables_1
/-- a 'code' word, met by the world's own term for the bytes: nothing is compared byte by byte -/
theorem code_word {y : MethodName} {bytes : ByteArray} {mx : Nat} {rt : Option FieldType} {a : Array Value} {s : State} {m : MethodId} {meth : Method} {c : Code} (h1 : s.methodNamed? y = some m) (h2 : s.vm.method? m = some meth) (h3 : meth.code = some c) (h4 : c.code = bytes)
    (h5 : (c.maxLocals == mx && c.exceptionTable.isEmpty && decide (c.maxStack ≤ mostOperands) && decide (meth.sig.returnType = rt) && !meth.locks && decide (parseMethodDescriptor y.desc = some meth.sig)) = true) : (Jvm.Cond.code y bytes mx rt).before a s = true := by
  simp only [Bool.and_eq_true, beq_iff_eq, Bool.not_eq_true', decide_eq_true_eq] at h5
  obtain ⟨⟨⟨⟨⟨g1, g2⟩, g3⟩, g4⟩, g5⟩, g6⟩ := h5
  simp [Cond.before, Cond.holds, Cond.value, h1, h2, h3, h4, g1, g2, g3, g4, g5, g6]
def isCode : Jvm.Cond → Bool
  | .code _ _ _ _ => true
  | _ => false
theorem all_split {L : List Jvm.Cond} {P : Jvm.Cond → Bool} (h1 : L.all (fun c => isCode c || P c) = true) (h2 : ∀ c ∈ L.filter isCode, P c = true) : L.all P = true := by
  refine List.all_eq_true.mpr fun c hc => ?_
  have h := List.all_eq_true.mp h1 c hc
  rcases Bool.eq_false_or_eq_true (isCode c) with hi | hi
  · exact h2 c (List.mem_filter.mpr ⟨hc, hi⟩)
  · simpa [hi] using h
set_option maxRecDepth 65536 in
theorem w_c0 : (Jvm.Cond.code x code maxLocals ret).before args0 about1 = true := code_word (m := ⟨1, 1⟩) (meth := k1m1) (c := k1c1) (by decide +kernel) rfl rfl rfl (by decide +kernel)
set_option maxRecDepth 65536 in
theorem w_c1 : (Jvm.Cond.code ({ cls := "com/example/hold_for_reply/holdforreply/ParkingWaitStrategy", name := "increment", desc := "(I)I" } : Jvm.MethodName) prog_16_method_5_code (1 : Nat) (Option.some Jvm.ClassFile.FieldType.int)).before args0 about1 = true := code_word (m := ⟨3, 1⟩) (meth := k3m1) (c := k3c1) (by decide +kernel) rfl rfl rfl (by decide +kernel)
set_option maxRecDepth 65536 in
theorem w_c2 : (Jvm.Cond.code ({ cls := "java/lang/Math", name := "min", desc := "(JJ)J" } : Jvm.MethodName) jdk_29_method_70_code (4 : Nat) (Option.some Jvm.ClassFile.FieldType.long)).before args0 about1 = true := code_word (m := ⟨4, 1⟩) (meth := k4m1) (c := k4c1) (by decide +kernel) rfl rfl rfl (by decide +kernel)
def codes1 : List Jvm.Cond := [Jvm.Cond.code x code maxLocals ret, Jvm.Cond.code ({ cls := "com/example/hold_for_reply/holdforreply/ParkingWaitStrategy", name := "increment", desc := "(I)I" } : Jvm.MethodName) prog_16_method_5_code (1 : Nat) (Option.some Jvm.ClassFile.FieldType.int), Jvm.Cond.code ({ cls := "java/lang/Math", name := "min", desc := "(JJ)J" } : Jvm.MethodName) jdk_29_method_70_code (4 : Nat) (Option.some Jvm.ClassFile.FieldType.long)]
set_option maxRecDepth 65536 in
theorem codes_eq : words1.filter isCode = codes1 := rfl
theorem w_codes : ∀ c ∈ words1.filter isCode, c.before args0 about1 = true := by
  rw [codes_eq]
  intro c hc
  simp only [codes1, List.mem_cons, List.not_mem_nil, or_false] at hc
  rcases hc with rfl | rfl | rfl
  · exact w_c0
  · exact w_c1
  · exact w_c2
set_option maxRecDepth 65536 in
theorem w_t1 : words1.all (fun c => isCode c || c.before args0 about1) = true := by decide +kernel
theorem w_tables : (allAtoms (Jvm.Cond.code x code maxLocals ret :: tables_1)).before args0 about1 = true := by
  rw [allAtoms_all]
  show words1.all (fun c => c.before args0 about1) = true
  refine all_split ?_ w_codes
  rw [w_t1]
set_option maxRecDepth 65536 in
theorem w_case : (Jvm.Cond.and given_1 narrow_1).before args0 about1 = true := by decide +kernel
theorem w_applies : (headSpec (Jvm.Cond.code x code maxLocals ret :: tables_1) room_1).applies x e0.platform about1 = true :=
  (Spec.applies_iff w_frames).mpr ⟨w_running, w_runnable, w_alone, w_named, w_hears, w_ripe, w_room, w_tables⟩
theorem atStart : AtStart classFile x code maxLocals ret World_1 tables_1 room_1 Calls_1 rest_1 Pre_1 launch0 p0 e0 about1 theMethod args0 below0 :=
  ⟨lists_1, trivial, launch0.admits_env _ _ _, launch0.least_env, fairChoices_fair.cas, fairChoices_fair.clock, w_frames, w_args, w_heap, w_applies, trivial, trivial, w_case⟩
end start1
theorem witness_1 : WitnessClaimed_1 := ⟨start1.p0, start1.e0, start1.about1, start1.theMethod, start1.args0, start1.below0, start1.atStart⟩
end Jvm.Pilot.@@N@@
