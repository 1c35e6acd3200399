import JvmDerived
import JvmDerived.Pilot.@@N@@Statement
import JvmDerived.Pilot.@@N@@Code
set_option linter.unusedVariables false
set_option linter.unusedSimpArgs false
namespace Jvm.Pilot.@@N@@
open Jvm Jvm.ClassFile Sem Op Lib Jvm.Free Jvm.Stand Jvm.LawKit Jvm.RoadKit Bundle Jvm.Pilot.@@N@@.Jvm.D
section OwnKit
variable {p : Program} {l : Launch} {e : Env} {R : Room} {s : State} {m : MethodId} {args : Array Value} {below : List Frame} {meth : Method} {c : Code} {T T' : State} {locs : List Loc} {cells slots : Nat} {h : Heap} {Q : Option Value → Heap → List Loc → Prop} {kc ks : Nat} {g g' : JFrame}
/-- from this state and frame the method comes to its end, and what it leaves is Q -/
def Gl (p : Program) (e : Env) (below : List Frame) (s : State) (Q : Option Value → Heap → List Loc → Prop) (kc ks : Nat) (T : State) (g : JFrame) : Prop :=
  ∃ s₂ o, Steps p.tables e below (T.setTop g) s₂ ∧ s₂.status = .running ∧ Ended s₂ below o ∧ ∃ v L, o = .returned v ∧ Q v s₂.heap L ∧ FrameEnd s o s₂ L kc ks
theorem Gl.st (h : ∀ t, Steps p.tables e below (T'.setTop g') t → Steps p.tables e below (T.setTop g) t) (k : Gl p e below s Q kc ks T' g') : Gl p e below s Q kc ks T g := by
  obtain ⟨s₂, o, h1, r⟩ := k
  exact ⟨s₂, o, h _ h1, r⟩
theorem Gl.ret (X : Stand p l e R s m args below meth c T locs cells slots) (hlk : meth.locks = false) (v : Option Value) (hv : meth.sig.returnType = none → v = none) (eT : T.heap = h) (hc : cells ≤ kc) (hs : slots ≤ ks)
    (hst : ∀ fs, (∀ (f : JFrame) (acts : List Action), f.method = m → f.locked = none → f.entered = [] → (doReturn e (T.setTop f) acts v).1 = T.setFrames fs) → Steps p.tables e below (T.setTop g) (T.setFrames fs))
    (hq : Q v h locs) : Gl p e below s Q kc ks T g := by
  obtain ⟨fs, hr, hrun, hended, hW, hsame⟩ := X.leave (v := v) hv hlk
  refine ⟨_, _, hst fs hr, hrun, hended, v, locs, rfl, ?_, ⟨_, rfl⟩, hW, hsame.mono hc hs⟩
  show Q v T.heap locs
  rw [eT]; exact hq
theorem Gl.retI (X : Stand p l e R s m args below meth c T locs cells slots) (hx : p.tables.exec = Jvm.exec) (hlk : meth.locks = false) {pc : Nat} {Ls : Array Slot} {z : Int32} {rest : List Value} (hret : meth.sig.returnType = some .int) (hd : decode c.code pc = .ok (.ireturn, 1)) (eT : T.heap = h) (hc : cells ≤ kc) (hs : slots ≤ ks)
    (hq : Q (some (.int z)) h locs) : Gl p e below s Q kc ks T (mkF m pc Ls (.int z :: rest)) := by
  refine Gl.ret X hlk (some (.int z)) (fun q => by rw [hret] at q; cases q) eT hc hs (fun fs hl => ?_) hq
  exact retOut X hx hret (t := .int) rfl (Or.inl ⟨rfl, Or.inl rfl, _, rfl⟩) hd hl
theorem Gl.retZ (X : Stand p l e R s m args below meth c T locs cells slots) (hx : p.tables.exec = Jvm.exec) (hlk : meth.locks = false) {pc : Nat} {Ls : Array Slot} {z : Int32} {rest : List Value} (t : FieldType) (ht : t = .boolean ∨ t = .byte ∨ t = .char ∨ t = .short) (hret : meth.sig.returnType = some t) (hd : decode c.code pc = .ok (.ireturn, 1)) (eT : T.heap = h) (hc : cells ≤ kc) (hs : slots ≤ ks)
    (hq : Q (some (.int (nar t z))) h locs) : Gl p e below s Q kc ks T (mkF m pc Ls (.int z :: rest)) := by
  refine Gl.ret X hlk (some (.int (nar t z))) (fun q => by rw [hret] at q; cases q) eT hc hs (fun fs hl => ?_) hq
  exact retN X hx (t := t) hret ht hd hl
theorem Gl.retL (X : Stand p l e R s m args below meth c T locs cells slots) (hx : p.tables.exec = Jvm.exec) (hlk : meth.locks = false) {pc : Nat} {Ls : Array Slot} {z : Int64} (hret : meth.sig.returnType = some .long) (hd : decode c.code pc = .ok (.lreturn, 1)) (eT : T.heap = h) (hc : cells ≤ kc) (hs : slots ≤ ks)
    (hq : Q (some (.long z)) h locs) : Gl p e below s Q kc ks T (mkF m pc Ls [.long z]) := by
  refine Gl.ret X hlk (some (.long z)) (fun q => by rw [hret] at q; cases q) eT hc hs (fun fs hl => ?_) hq
  exact X.lreturnOut hx hret hd hl
theorem Gl.retV (X : Stand p l e R s m args below meth c T locs cells slots) (hx : p.tables.exec = Jvm.exec) (hlk : meth.locks = false) {pc : Nat} {Ls : Array Slot} (hret : meth.sig.returnType = none) (hd : decode c.code pc = .ok (.return_, 1)) (eT : T.heap = h) (hc : cells ≤ kc) (hs : slots ≤ ks)
    (hq : Q none h locs) : Gl p e below s Q kc ks T (mkF m pc Ls []) := by
  refine Gl.ret X hlk none (fun _ => rfl) eT hc hs (fun fs hl => ?_) hq
  exact X.returnOut hx hret hd hl
end OwnKit

theorem own_z0 : nar .boolean (0 : Int32) = 0 := by decide
theorem own_z1 : nar .boolean (1 : Int32) = 1 := by decide
theorem own_nn (x : Int32) : 0 ≤ (x &&& (2147483647 : Int32)).toInt := by
  rw [c_mask x 2147483647 31 (by decide) (by decide)]
  exact Int.emod_nonneg _ (by decide)
theorem own_lt {x y : Int32} (h : x.toInt < y.toInt) : x < y := Int32.lt_iff_toInt_lt.mpr h
theorem own_nlt {x y : Int32} (h : y.toInt ≤ x.toInt) : ¬ x < y := fun q => by
  have := Int32.lt_iff_toInt_lt.mp q; omega
theorem own_eq {x y : Int32} (h : x.toInt = y.toInt) : x = y := Int32.toInt_inj.mp h
theorem own_ltI {x y : Int32} (h : x < y) : x.toInt < y.toInt := Int32.lt_iff_toInt_lt.mp h
theorem own_nltI {x y : Int32} (h : ¬ x < y) : y.toInt ≤ x.toInt := by
  rcases Int.lt_or_le x.toInt y.toInt with q | q
  · exact absurd (own_lt q) h
  · exact q
theorem own_rem {x y : Int32} (hx : 0 ≤ x.toInt) (hy : 0 < y.toInt) : 0 ≤ (x % y).toInt ∧ (x % y).toInt < y.toInt := by
  have h := (c_irem x y y.toInt rfl).1 hx
  rw [h]; exact ⟨Int.emod_nonneg _ (by omega), Int.emod_lt_of_pos _ hy⟩
theorem own_add {x y : Int32} (h1 : -2147483648 ≤ x.toInt + y.toInt) (h2 : x.toInt + y.toInt < 2147483648) : (x + y).toInt = x.toInt + y.toInt := by
  have a := c_iadd x y; have b := (x + y).toInt_lt; have c := (x + y).le_toInt; omega
theorem own_sub {x y : Int32} (h1 : -2147483648 ≤ x.toInt - y.toInt) (h2 : x.toInt - y.toInt < 2147483648) : (x - y).toInt = x.toInt - y.toInt := by
  have a := c_isub x y; have b := (x - y).toInt_lt; have c := (x - y).le_toInt; omega
theorem own_and (x : Int32) (m : Int32) (k : Nat) (hk : k ≤ 31) (hm : m.toBitVec.toNat = 2 ^ k - 1) : 0 ≤ (x &&& m).toInt ∧ (x &&& m).toInt ≤ m.toInt ∧ (x &&& m).toInt = x.toInt % (2 ^ k : Nat) := by
  have h := c_mask x m k hk hm
  have hm0 : 0 ≤ m.toInt := by
    have e : m.toInt = m.toBitVec.toInt := rfl
    have q : 2 ^ k ≤ 2 ^ 31 := Nat.pow_le_pow_right (by decide) hk
    have l := m.toBitVec.isLt
    rw [e, BitVec.toInt_eq_toNat_cond, hm]; split <;> omega
  exact ⟨(c_and x m hm0).1, (c_and x m hm0).2, h⟩
theorem own_c1 : ((1114111 : Int32) + (1 : Int32)).toInt = 1114112 := by decide
theorem own_f {a v : Int32} (e : ((a &&& (2147483647 : Int32)) % ((1114111 : Int32) + (1 : Int32))) = v) : 0 ≤ v.toInt ∧ v.toInt < 1114112 := by
  have h := own_rem (own_nn a) (y := ((1114111 : Int32) + (1 : Int32))) (by decide)
  rw [own_c1, e] at h; exact h
theorem own_d {v : Int32} (h : 0 ≤ v.toInt ∧ v.toInt < 1114112) : (((1114111 : Int32) + (1 : Int32)) - v).toInt = 1114112 - v.toInt := by
  have := own_c1
  rw [own_sub (by omega) (by omega)]; omega
theorem own_ne {v : Int32} (h : 0 ≤ v.toInt ∧ v.toInt < 1114112) : (((1114111 : Int32) + (1 : Int32)) - v) ≠ 0 := fun q => by
  have a := own_d h
  rw [q] at a
  have z : (0 : Int32).toInt = 0 := by decide
  omega
theorem own_l {b f v : Int32} (h : 0 ≤ f.toInt ∧ f.toInt < 1114112) (e : (f + ((b &&& (2147483647 : Int32)) % (((1114111 : Int32) + (1 : Int32)) - f))) = v) : f.toInt ≤ v.toInt ∧ v.toInt ≤ 1114111 := by
  have a := own_d h
  obtain ⟨h1, h2⟩ := own_rem (own_nn b) (y := (((1114111 : Int32) + (1 : Int32)) - f)) (by omega)
  rw [← e, own_add (by omega) (by omega)]; omega
theorem own_f0 {v : Int32} (h : 0 ≤ v.toInt ∧ v.toInt < 1114112) : ¬ v < (0 : Int32) := own_nlt (by exact h.1)
theorem own_l0 {f v : Int32} (h : f.toInt ≤ v.toInt ∧ v.toInt ≤ 1114111) : ¬ (1114111 : Int32) < v := own_nlt (by exact h.2)
theorem own_l1 {f v : Int32} (h : f.toInt ≤ v.toInt ∧ v.toInt ≤ 1114111) : ¬ v < f := own_nlt (by exact h.1)
theorem d1_0 : decode prog_2_method_4_code 0 = .ok (.iload_n 0, 1) := by decide +kernel
theorem d1_1 : decode prog_2_method_4_code 1 = .ok (.ifCond .lt 9, 3) := by decide +kernel
theorem d1_4 : decode prog_2_method_4_code 4 = .ok (.iload_n 1, 1) := by decide +kernel
theorem d1_5 : decode prog_2_method_4_code 5 = .ok (.ldc 25, 2) := by decide +kernel
theorem d1_7 : decode prog_2_method_4_code 7 = .ok (.if_icmp .le 13, 3) := by decide +kernel
theorem d1_10 : decode prog_2_method_4_code 10 = .ok (.new 26, 3) := by decide +kernel
theorem d1_13 : decode prog_2_method_4_code 13 = .ok (.dup, 1) := by decide +kernel
theorem d1_14 : decode prog_2_method_4_code 14 = .ok (.ldc 28, 2) := by decide +kernel
theorem d1_16 : decode prog_2_method_4_code 16 = .ok (.invokespecial 30, 3) := by decide +kernel
theorem d1_19 : decode prog_2_method_4_code 19 = .ok (.athrow, 1) := by decide +kernel
theorem d1_20 : decode prog_2_method_4_code 20 = .ok (.iload_n 0, 1) := by decide +kernel
theorem d1_21 : decode prog_2_method_4_code 21 = .ok (.iload_n 1, 1) := by decide +kernel
theorem d1_22 : decode prog_2_method_4_code 22 = .ok (.if_icmp .le 13, 3) := by decide +kernel
theorem d1_25 : decode prog_2_method_4_code 25 = .ok (.new 26, 3) := by decide +kernel
theorem d1_28 : decode prog_2_method_4_code 28 = .ok (.dup, 1) := by decide +kernel
theorem d1_29 : decode prog_2_method_4_code 29 = .ok (.ldc 33, 2) := by decide +kernel
theorem d1_31 : decode prog_2_method_4_code 31 = .ok (.invokespecial 30, 3) := by decide +kernel
theorem d1_34 : decode prog_2_method_4_code 34 = .ok (.athrow, 1) := by decide +kernel
theorem d1_35 : decode prog_2_method_4_code 35 = .ok (.return_, 1) := by decide +kernel
theorem pn_0 : plainName "com/example/labelsmith/labelsmith/core/CodePointSet" = true := by first | (simp [plainName, overriddenIn]; done) | decide +kernel
theorem ef_1 (m : MethodId) (p1 : Int32) (p2 : Int32) : entryFrame m #[(.int p1), (.int p2)] 2 = mkF m 0 #[.val (.int p1), .val (.int p2)] [] := by first | (simp [entryFrame, mkF, argsToLocals, Value.category]; done) | rfl
def Q1 (Z : State) (p1 : Int32) (p2 : Int32)  (h0 : Heap) (n0 : Nat) (v : Option Value) (h : Heap) (L : List Loc) : Prop := v = none ∧ Fr n0 L ∧ h = h0
set_option maxRecDepth 65536 in
set_option maxHeartbeats 40000000 in
theorem rm1 (l : Launch) (Z : State) (a0 : Array Value) (hw : ∀ d ∈ tables_1, d.before a0 Z = true) (p1 : Int32) (p2 : Int32)  (h0 : Heap) (n0 : Nat) (Z0 : n0 ≤ h0.size) (hA : ¬ p1 < (0 : Int32)) (hB : ¬ (1114111 : Int32) < p2) (hC : ¬ p2 < p1) :
    MetFree l (⟨"com/example/labelsmith/labelsmith/core/CodePointSet", "checkRange", "(II)V"⟩ : MethodName) (head1 [Jvm.Cond.code (⟨"com/example/labelsmith/labelsmith/core/CodePointSet", "checkRange", "(II)V"⟩ : MethodName) prog_2_method_4_code 2 none] ({ frames := 0, cells := 0, slots := 0, locals := 0 } : Room)) (fun a U => a = #[(.int p1), (.int p2)] ∧ Z.Warmed39 U.vm ∧ U.heap = h0) (fun _ _ _ _ _ => True) (fun _ U o U' => ∃ v L, o = .returned v ∧ Q1 Z p1 p2  h0 n0 v U'.heap L ∧ FrameEnd U o U' L ({ frames := 0, cells := 0, slots := 0, locals := 0 } : Room).cells ({ frames := 0, cells := 0, slots := 0, locals := 0 } : Room).slots) := by
  refine MetFree.of_bodySF (plainFor_of_name pn_0) hisR ?_
  intro p e s m args below meth c s₁ Bd hml0 hP hK
  obtain ⟨rfl, hZ, hh⟩ := hP
  have hx := Bd.exec
  have hby := Bd.bytes
  have hlk : meth.locks = false := Bd.notSynchronized
  have hml : c.maxLocals = 2 := hml0
  have hown : s.vm.findClass "com/example/labelsmith/labelsmith/core/CodePointSet" = some m.cls := findClass_of_methodNamed Bd.named
  have hnm := (name_of_methodNamed Bd.named Bd.method).1
  have X0 : Stand p l e ({ frames := 0, cells := 0, slots := 0, locals := 0 } : Room) s m #[(.int p1), (.int p2)] below meth c s₁ [] 0 0 := Stand.of_body Bd
  have e0 : s₁.heap = h0 := by rw [← hh, Bd.state]; rfl
  have N0 := Fr.nil n0
  show Gl p e below s (Q1 Z p1 p2  h0 n0) 0 0 s₁ (entryFrame m #[(.int p1), (.int p2)] 2)
  rw [ef_1 m p1 p2]
  refine Gl.st (g' := (mkF m 1 #[.val (.int p1), .val (.int p2)] [(.int p1)])) (fun t k => XS.iloadN X0.here hx rfl (hb hby d1_0) rfl k) ?_
  refine Gl.st (g' := (mkF m 4 #[.val (.int p1), .val (.int p2)] [])) (fun t k => XS.ifNo X0.here hx rfl (hb hby d1_1) rfl (XT.i0_lt_f hA) k) ?_
  refine Gl.st (g' := (mkF m 5 #[.val (.int p1), .val (.int p2)] [(.int p2)])) (fun t k => XS.iloadN X0.here hx rfl (hb hby d1_4) rfl k) ?_
  refine Gl.st (g' := (mkF m 7 #[.val (.int p1), .val (.int p2)] [(.int (1114111 : Int32)), (.int p2)])) (fun t k => X0.ldcI hx hown (mvT hZ (hw _ (List.mem_of_getElem? (i := 6) rfl))) rfl (hb hby d1_5) k) ?_
  refine Gl.st (g' := (mkF m 20 #[.val (.int p1), .val (.int p2)] [])) (fun t k => XS.icmpYes X0.here hx rfl (pc0 := 7) (pc' := 20) rfl (hb hby d1_7) rfl (XT.ii_le_t hB) (by decide) (by decide) k) ?_
  refine Gl.st (g' := (mkF m 21 #[.val (.int p1), .val (.int p2)] [(.int p1)])) (fun t k => XS.iloadN X0.here hx rfl (hb hby d1_20) rfl k) ?_
  refine Gl.st (g' := (mkF m 22 #[.val (.int p1), .val (.int p2)] [(.int p2), (.int p1)])) (fun t k => XS.iloadN X0.here hx rfl (hb hby d1_21) rfl k) ?_
  refine Gl.st (g' := (mkF m 35 #[.val (.int p1), .val (.int p2)] [])) (fun t k => XS.icmpYes X0.here hx rfl (pc0 := 22) (pc' := 35) rfl (hb hby d1_22) rfl (XT.ii_le_t hC) (by decide) (by decide) k) ?_
  refine Gl.retV X0 hx hlk Bd.returns (hb hby d1_35) e0 (by decide) (by decide) ?_
  exact ⟨rfl, N0, rfl⟩
theorem pd_0 : parseMethodDescriptor "(II)V" = some ⟨[.int, .int], none⟩ := by decide +kernel
theorem pn_1 : plainName "com/example/labelsmith/labelsmith/core/CodePointSetCheckRangePinLaw" = true := by first | (simp [plainName, overriddenIn]; done) | decide +kernel
theorem ef_0 (m : MethodId) (p1 : Int32) (p2 : Int32) : entryFrame m #[(.int p1), (.int p2)] maxLocals = mkF m 0 #[.val (.int p1), .val (.int p2), .unset, .unset, .unset] [] := by first | (simp [entryFrame, mkF, argsToLocals, Value.category, maxLocals]; done) | rfl
def Q0 (Z : State) (p1 : Int32) (p2 : Int32)  (h0 : Heap) (n0 : Nat) (v : Option Value) (h : Heap) (L : List Loc) : Prop := v = some (.int 1) ∧ Fr n0 L
set_option maxRecDepth 65536 in
set_option maxHeartbeats 40000000 in
theorem rm0 (l : Launch) (Z : State) (a0 : Array Value) (hw : ∀ d ∈ tables_1, d.before a0 Z = true) (ws : List Jvm.Cond) (p1 : Int32) (p2 : Int32)  (h0 : Heap) (n0 : Nat) (Z0 : n0 ≤ h0.size)  :
    MetFree l x (head1 (Jvm.Cond.code x code maxLocals ret :: ws) room_1) (fun a U => a = #[(.int p1), (.int p2)] ∧ Z.Warmed39 U.vm ∧ U.heap = h0) (fun _ _ _ _ _ => True) (fun _ U o U' => ∃ v L, o = .returned v ∧ Q0 Z p1 p2  h0 n0 v U'.heap L ∧ FrameEnd U o U' L 0 0) := by
  refine MetFree.of_bodySF (plainFor_of_name pn_1) hisR ?_
  intro p e s m args below meth c s₁ Bd hml0 hP hK
  obtain ⟨rfl, hZ, hh⟩ := hP
  have hx := Bd.exec
  have hby := Bd.bytes
  have hlk : meth.locks = false := Bd.notSynchronized
  have hml : c.maxLocals = 5 := hml0
  have hown : s.vm.findClass "com/example/labelsmith/labelsmith/core/CodePointSetCheckRangePinLaw" = some m.cls := findClass_of_methodNamed Bd.named
  have hnm := (name_of_methodNamed Bd.named Bd.method).1
  have X0 : Stand p l e room_1 s m #[(.int p1), (.int p2)] below meth c s₁ [] 0 0 := Stand.of_body Bd
  have e0 : s₁.heap = h0 := by rw [← hh, Bd.state]; rfl
  have N0 := Fr.nil n0
  show Gl p e below s (Q0 Z p1 p2  h0 n0) 0 0 s₁ (entryFrame m #[(.int p1), (.int p2)] maxLocals)
  rw [ef_0 m p1 p2]
  refine Gl.st (g' := (mkF m 2 #[.val (.int p1), .val (.int p2), .unset, .unset, .unset] [(.int (1114111 : Int32))])) (fun t k => X0.ldcI hx hown (mvT hZ (hw _ (List.mem_of_getElem? (i := 0) rfl))) rfl (hb hby at_0) k) ?_
  refine Gl.st (g' := (mkF m 3 #[.val (.int p1), .val (.int p2), .val (.int (1114111 : Int32)), .unset, .unset] [])) (fun t k => XS.istoreN X0.here hx rfl (hb hby at_2) rfl (l' := #[.val (.int p1), .val (.int p2), .val (.int (1114111 : Int32)), .unset, .unset]) rfl k) ?_
  refine Gl.st (g' := (mkF m 4 #[.val (.int p1), .val (.int p2), .val (.int (1114111 : Int32)), .unset, .unset] [(.int p1)])) (fun t k => XS.iloadN X0.here hx rfl (hb hby at_3) rfl k) ?_
  refine Gl.st (g' := (mkF m 6 #[.val (.int p1), .val (.int p2), .val (.int (1114111 : Int32)), .unset, .unset] [(.int (2147483647 : Int32)), (.int p1)])) (fun t k => X0.ldcI hx hown (mvT hZ (hw _ (List.mem_of_getElem? (i := 1) rfl))) rfl (hb hby at_4) k) ?_
  refine Gl.st (g' := (mkF m 7 #[.val (.int p1), .val (.int p2), .val (.int (1114111 : Int32)), .unset, .unset] [(.int (p1 &&& (2147483647 : Int32)))])) (fun t k => XS.iand X0.here hx rfl (hb hby at_6) rfl k) ?_
  refine Gl.st (g' := (mkF m 8 #[.val (.int p1), .val (.int p2), .val (.int (1114111 : Int32)), .unset, .unset] [(.int (1114111 : Int32)), (.int (p1 &&& (2147483647 : Int32)))])) (fun t k => XS.iloadN X0.here hx rfl (hb hby at_7) rfl k) ?_
  refine Gl.st (g' := (mkF m 9 #[.val (.int p1), .val (.int p2), .val (.int (1114111 : Int32)), .unset, .unset] [(.int (1 : Int32)), (.int (1114111 : Int32)), (.int (p1 &&& (2147483647 : Int32)))])) (fun t k => XT.iconstV X0.here hx rfl (1 : Int32) (hb hby at_8) rfl k) ?_
  refine Gl.st (g' := (mkF m 10 #[.val (.int p1), .val (.int p2), .val (.int (1114111 : Int32)), .unset, .unset] [(.int ((1114111 : Int32) + (1 : Int32))), (.int (p1 &&& (2147483647 : Int32)))])) (fun t k => XS.iadd X0.here hx rfl (hb hby at_9) rfl k) ?_
  refine Gl.st (g' := (mkF m 11 #[.val (.int p1), .val (.int p2), .val (.int (1114111 : Int32)), .unset, .unset] [(.int ((p1 &&& (2147483647 : Int32)) % ((1114111 : Int32) + (1 : Int32))))])) (fun t k => iremM X0 hx rfl (hb hby at_10) rfl (by decide) k) ?_
  generalize hv1 : ((p1 &&& (2147483647 : Int32)) % ((1114111 : Int32) + (1 : Int32))) = v1
  refine Gl.st (g' := (mkF m 12 #[.val (.int p1), .val (.int p2), .val (.int (1114111 : Int32)), .val (.int v1), .unset] [])) (fun t k => XS.istoreN X0.here hx rfl (hb hby at_11) rfl (l' := #[.val (.int p1), .val (.int p2), .val (.int (1114111 : Int32)), .val (.int v1), .unset]) rfl k) ?_
  have hF := own_f hv1
  refine Gl.st (g' := (mkF m 13 #[.val (.int p1), .val (.int p2), .val (.int (1114111 : Int32)), .val (.int v1), .unset] [(.int v1)])) (fun t k => XS.iloadN X0.here hx rfl (hb hby at_12) rfl k) ?_
  refine Gl.st (g' := (mkF m 14 #[.val (.int p1), .val (.int p2), .val (.int (1114111 : Int32)), .val (.int v1), .unset] [(.int p2), (.int v1)])) (fun t k => XS.iloadN X0.here hx rfl (hb hby at_13) rfl k) ?_
  refine Gl.st (g' := (mkF m 16 #[.val (.int p1), .val (.int p2), .val (.int (1114111 : Int32)), .val (.int v1), .unset] [(.int (2147483647 : Int32)), (.int p2), (.int v1)])) (fun t k => X0.ldcI hx hown (mvT hZ (hw _ (List.mem_of_getElem? (i := 1) rfl))) rfl (hb hby at_14) k) ?_
  refine Gl.st (g' := (mkF m 17 #[.val (.int p1), .val (.int p2), .val (.int (1114111 : Int32)), .val (.int v1), .unset] [(.int (p2 &&& (2147483647 : Int32))), (.int v1)])) (fun t k => XS.iand X0.here hx rfl (hb hby at_16) rfl k) ?_
  refine Gl.st (g' := (mkF m 18 #[.val (.int p1), .val (.int p2), .val (.int (1114111 : Int32)), .val (.int v1), .unset] [(.int (1114111 : Int32)), (.int (p2 &&& (2147483647 : Int32))), (.int v1)])) (fun t k => XS.iloadN X0.here hx rfl (hb hby at_17) rfl k) ?_
  refine Gl.st (g' := (mkF m 19 #[.val (.int p1), .val (.int p2), .val (.int (1114111 : Int32)), .val (.int v1), .unset] [(.int (1 : Int32)), (.int (1114111 : Int32)), (.int (p2 &&& (2147483647 : Int32))), (.int v1)])) (fun t k => XT.iconstV X0.here hx rfl (1 : Int32) (hb hby at_18) rfl k) ?_
  refine Gl.st (g' := (mkF m 20 #[.val (.int p1), .val (.int p2), .val (.int (1114111 : Int32)), .val (.int v1), .unset] [(.int ((1114111 : Int32) + (1 : Int32))), (.int (p2 &&& (2147483647 : Int32))), (.int v1)])) (fun t k => XS.iadd X0.here hx rfl (hb hby at_19) rfl k) ?_
  refine Gl.st (g' := (mkF m 21 #[.val (.int p1), .val (.int p2), .val (.int (1114111 : Int32)), .val (.int v1), .unset] [(.int v1), (.int ((1114111 : Int32) + (1 : Int32))), (.int (p2 &&& (2147483647 : Int32))), (.int v1)])) (fun t k => XS.iloadN X0.here hx rfl (hb hby at_20) rfl k) ?_
  refine Gl.st (g' := (mkF m 22 #[.val (.int p1), .val (.int p2), .val (.int (1114111 : Int32)), .val (.int v1), .unset] [(.int (((1114111 : Int32) + (1 : Int32)) - v1)), (.int (p2 &&& (2147483647 : Int32))), (.int v1)])) (fun t k => XS.isub X0.here hx rfl (hb hby at_21) rfl k) ?_
  refine Gl.st (g' := (mkF m 23 #[.val (.int p1), .val (.int p2), .val (.int (1114111 : Int32)), .val (.int v1), .unset] [(.int ((p2 &&& (2147483647 : Int32)) % (((1114111 : Int32) + (1 : Int32)) - v1))), (.int v1)])) (fun t k => iremM X0 hx rfl (hb hby at_22) rfl (own_ne hF) k) ?_
  refine Gl.st (g' := (mkF m 24 #[.val (.int p1), .val (.int p2), .val (.int (1114111 : Int32)), .val (.int v1), .unset] [(.int (v1 + ((p2 &&& (2147483647 : Int32)) % (((1114111 : Int32) + (1 : Int32)) - v1))))])) (fun t k => XS.iadd X0.here hx rfl (hb hby at_23) rfl k) ?_
  generalize hv2 : (v1 + ((p2 &&& (2147483647 : Int32)) % (((1114111 : Int32) + (1 : Int32)) - v1))) = v2
  refine Gl.st (g' := (mkF m 26 #[.val (.int p1), .val (.int p2), .val (.int (1114111 : Int32)), .val (.int v1), .val (.int v2)] [])) (fun t k => XS.istore X0.here hx rfl (hb hby at_24) rfl (l' := #[.val (.int p1), .val (.int p2), .val (.int (1114111 : Int32)), .val (.int v1), .val (.int v2)]) rfl k) ?_
  have hL := own_l hF hv2
  refine Gl.st (g' := (mkF m 27 #[.val (.int p1), .val (.int p2), .val (.int (1114111 : Int32)), .val (.int v1), .val (.int v2)] [(.int v1)])) (fun t k => XS.iloadN X0.here hx rfl (hb hby at_26) rfl k) ?_
  refine Gl.st (g' := (mkF m 29 #[.val (.int p1), .val (.int p2), .val (.int (1114111 : Int32)), .val (.int v1), .val (.int v2)] [(.int v2), (.int v1)])) (fun t k => XS.iload X0.here hx rfl (hb hby at_27) rfl k) ?_
  obtain ⟨_, _, ⟨T3, L3, k3, n3⟩, -, X3, ⟨Lc3, hQ3, l3, y3, z3⟩, st3⟩ := Jvm.LawKit.callS X0 hx (y := (⟨"com/example/labelsmith/labelsmith/core/CodePointSet", "checkRange", "(II)V"⟩ : MethodName)) hown (mvT hZ (hw _ (List.mem_of_getElem? (i := 2) rfl))) (mvT hZ (hw _ (List.mem_of_getElem? (i := 3) rfl))) (mvT hZ (hw _ (List.mem_of_getElem? (i := 4) rfl))) (mvT hZ (hw _ (List.mem_of_getElem? (i := 5) rfl))) (by decide) (backOf (W := 0) (rm1 l Z a0 hw v1 v2  h0 n0 Z0 (own_f0 hF) (own_l0 hL) (own_l1 hL)) hZ (hw _ (List.mem_of_getElem? (i := 5) rfl)) (hw _ (List.mem_of_getElem? (i := 4) rfl)) (by decide) (by decide)) (g := (mkF m 29 #[.val (.int p1), .val (.int p2), .val (.int (1114111 : Int32)), .val (.int v1), .val (.int v2)] [(.int v2), (.int v1)])) rfl (by rw [hml]; rfl) (argsL := [(.int v1), (.int v2)]) (rest := []) (lenOf pd_0 rfl) rfl (by show 2 * 0 + _ ≤ _; exact Nat.le_of_eq rfl) (hb hby at_29) (fun _ _ => ⟨rfl, e0, (by decide : 0 + 0 ≤ _), (by decide : 0 + 0 ≤ _)⟩)
  dsimp only [Pt.U, Pt.locs, Pt.cells, Pt.slots] at X3 l3 y3 z3 st3 hQ3
  subst l3 y3 z3
  obtain ⟨rfl, Nq3, e3⟩ := hQ3
  have N3 := Fr.app N0 Nq3
  refine Gl.st (g' := (mkF m 32 #[.val (.int p1), .val (.int p2), .val (.int (1114111 : Int32)), .val (.int v1), .val (.int v2)] [])) st3 ?_
  refine Gl.st (g' := (mkF m 33 #[.val (.int p1), .val (.int p2), .val (.int (1114111 : Int32)), .val (.int v1), .val (.int v2)] [(.int v1)])) (fun t k => XS.iloadN X3.here hx rfl (hb hby at_32) rfl k) ?_
  refine Gl.st (g' := (mkF m 36 #[.val (.int p1), .val (.int p2), .val (.int (1114111 : Int32)), .val (.int v1), .val (.int v2)] [])) (fun t k => XS.ifNo X3.here hx rfl (hb hby at_33) rfl (XT.i0_lt_f (own_f0 hF)) k) ?_
  refine Gl.st (g' := (mkF m 37 #[.val (.int p1), .val (.int p2), .val (.int (1114111 : Int32)), .val (.int v1), .val (.int v2)] [(.int v1)])) (fun t k => XS.iloadN X3.here hx rfl (hb hby at_36) rfl k) ?_
  refine Gl.st (g' := (mkF m 39 #[.val (.int p1), .val (.int p2), .val (.int (1114111 : Int32)), .val (.int v1), .val (.int v2)] [(.int v2), (.int v1)])) (fun t k => XS.iload X3.here hx rfl (hb hby at_37) rfl k) ?_
  refine Gl.st (g' := (mkF m 42 #[.val (.int p1), .val (.int p2), .val (.int (1114111 : Int32)), .val (.int v1), .val (.int v2)] [])) (fun t k => XS.icmpNo X3.here hx rfl (hb hby at_39) rfl (XT.ii_gt_f (own_l1 hL)) k) ?_
  refine Gl.st (g' := (mkF m 44 #[.val (.int p1), .val (.int p2), .val (.int (1114111 : Int32)), .val (.int v1), .val (.int v2)] [(.int v2)])) (fun t k => XS.iload X3.here hx rfl (hb hby at_42) rfl k) ?_
  refine Gl.st (g' := (mkF m 45 #[.val (.int p1), .val (.int p2), .val (.int (1114111 : Int32)), .val (.int v1), .val (.int v2)] [(.int (1114111 : Int32)), (.int v2)])) (fun t k => XS.iloadN X3.here hx rfl (hb hby at_44) rfl k) ?_
  refine Gl.st (g' := (mkF m 48 #[.val (.int p1), .val (.int p2), .val (.int (1114111 : Int32)), .val (.int v1), .val (.int v2)] [])) (fun t k => XS.icmpNo X3.here hx rfl (hb hby at_45) rfl (XT.ii_gt_f (own_l0 hL)) k) ?_
  refine Gl.st (g' := (mkF m 49 #[.val (.int p1), .val (.int p2), .val (.int (1114111 : Int32)), .val (.int v1), .val (.int v2)] [(.int (1 : Int32))])) (fun t k => XT.iconstV X3.here hx rfl (1 : Int32) (hb hby at_48) rfl k) ?_
  refine Gl.st (g' := (mkF m 53 #[.val (.int p1), .val (.int p2), .val (.int (1114111 : Int32)), .val (.int v1), .val (.int v2)] [(.int (1 : Int32))])) (fun t k => XS.goto X3.here hx rfl (pc0 := 49) (pc' := 53) rfl (hb hby at_49) (by decide) (by decide) k) ?_
  refine Gl.retZ X3 hx hlk .boolean (by simp) Bd.returns (hb hby at_53) e3 (by decide) (by decide) ?_
  rw [Q0, own_z1]
  exact ⟨rfl, N3⟩
set_option maxRecDepth 65536 in
set_option maxHeartbeats 40000000 in
theorem comes_1 {Post : Tables → Env → Array Value → State → Outcome → State → Prop} (hpost : ∀ tb e args s v u, (limb_1_1.after args s (.returned v) u = true ∧ limb_1_2.after args s (.returned v) u = true ∧ True) → FrameEnd s (.returned v) u (Jvm.fieldLocs frame_1_writes args s ++ Jvm.arrayLocs frame_1_arrays args s ++ Jvm.staticLocs frame_1_statics s) 0 0 → Post tb e args s (.returned v) u) :
    ArmFor flags0 classFile x code maxLocals ret World_1 tables_1 room_1 Calls_1 rest_1 Pre_1 Post := by
  intro l hfl _ _ p e ha hc hk s m args below hf hA hF happ hP
  obtain ⟨hcalls, hrest, hpre⟩ := hP
  obtain ⟨-, -, -, hnamed, -, -, -, hat⟩ := (Spec.applies_iff hf).mp happ
  obtain ⟨hg, hn⟩ := and_e (Cond.before_iff.mp (show (Jvm.Cond.and given_1 narrow_1).before args s = true from hpre))
  obtain ⟨hcount, hk1⟩ := and_e hg
  obtain ⟨hi1, hk2⟩ := and_e hk1
  obtain ⟨w0, w1, rfl⟩ : ∃ w0 w1 : Value, args = #[w0, w1] := by
    have hs : args.size = 2 := by simpa [Cond.value, given_1] using hcount
    obtain ⟨L⟩ := args
    match L, hs with
    | [w0, w1], _ => exact ⟨w0, w1, rfl⟩
  have hw := fun d (hd : d ∈ tables_1) => atoms_spec (ws := Jvm.Cond.code x code maxLocals ret :: tables_1) hat d (List.mem_cons_of_mem _ hd)
  obtain ⟨i0, q0⟩ := is_v hi1
  obtain rfl : w0 = (.int i0) := Option.some.inj q0
  obtain ⟨i1, q1⟩ := is_v hk2
  obtain rfl : w1 = (.int i1) := Option.some.inj q1
  obtain ⟨n, o, h1, h2, h3, _, L, rfl, ⟨rfl, N⟩, hq⟩ := rm0 l s _ hw tables_1 i0 i1 s.heap s.heap.size (Nat.le_refl _)  p e ha hc hk s m _ below hf ((Spec.applies_iff_loose hf).mp happ).1 ⟨rfl, State.Warmed39.refl s, rfl⟩ trivial
  refine ⟨n, _, h1, h2, h3, hpost _ _ _ _ _ _ ⟨Cond.after_iff.mpr rfl, Cond.after_iff.mpr (eq_i res_at (Term.int_eval (1)) rfl), trivial⟩ ⟨hq.1, hq.2.1, (hq.2.2.sift fun y hy => Or.inr (N y hy)).mono (by decide) (by decide)⟩⟩
theorem main_1_1 : Claimed_1_1 := comes_1 fun _ _ _ _ _ _ h hF => ⟨h.1, hF⟩
theorem main_1_2 : Claimed_1_2 := comes_1 fun _ _ _ _ _ _ h hF => ⟨h.2.1, hF⟩
end Jvm.Pilot.@@N@@
namespace Jvm.Pilot.@@N@@
open Jvm Jvm.ClassFile Sem Op Lib Jvm.Free Jvm.Stand Jvm.Pilot.@@N@@.Jvm.D
/-! MADE BY PROGRAM (witnessworld.py) out of the Statement's table words and the real class files: 9 classes; the members and pool entries that the words name. The judged class is class 1, her method 1. -/
namespace start1
open Jvm.ClassFile
def u (s : String) : CpInfo := .utf8 (stringToUtf16 s)
/-- a pool by its gaps: so many unusable entries, then the entry; so many at the end -/
def gap : Nat → List CpInfo → List CpInfo
  | 0, r => r
  | n + 1, r => .unusable :: gap n r
def poolList (es : List (Nat × CpInfo)) (last : Nat) : List CpInfo := es.foldr (fun e r => gap e.1 (e.2 :: r)) (gap last [])
def pool (es : List (Nat × CpInfo)) (last : Nat) : Array CpInfo := ⟨poolList es last⟩
def fileOf (pool : Array CpInfo) (this : Nat) (attrs : Array Attribute := #[]) (ms : Array MethodInfo := #[]) (fl : Nat := 33) (sup : Nat := 0) (ifs : Array Nat := #[]) (fds : Array FieldInfo := #[]) : ClassFile where
  minorVersion := 0
  majorVersion := 65
  constantPool := pool
  accessFlags := fl
  thisClass := this
  superClass := sup
  interfaces := ifs
  fields := fds
  methods := ms
  attributes := attrs
def plain (name : String) (sup : Option ClassId) : Class where
  name := name
  kind := .ordinary
  loader := none
  accessFlags := 33
  super := sup
  interfaces := #[]
  cf := none
  fields := #[]
  methods := #[]
  instanceTypes := #[]
  staticTypes := #[]
  resolved := #[]
  callSites := []
  init := .initialized
  statics := none
  mirror := none

def pool0 : Array CpInfo := pool [(5, u "<init>"), (0, u "()V"), (1, .class_ 10), (1, u "java/lang/Object")] 113

def k0m0 : Method := { name := "<init>", desc := "()V", sig := { parameters := [], returnType := none }, accessFlags := 1, code := none }
/-- java/lang/Object -/
def k0 : Class := { plain "java/lang/Object" none with
  accessFlags := 33
  interfaces := #[]
  cf := some (fileOf pool0 8 #[] #[{ accessFlags := 1, nameIndex := 5, descriptorIndex := 6, attributes := #[] }] 33 0 #[] #[])
  fields := #[]
  methods := #[k0m0]
  instanceTypes := #[]
  staticTypes := #[]
  resolved := Array.replicate 124 none
  statics := none }

def pool1 : Array CpInfo := pool [(2, .class_ 4), (1, u "java/lang/Object"), (0, u "<init>"), (0, u "()V"), (0, .class_ 8), (0, u "com/example/labelsmith/labelsmith/core/CodePointSet"), (0, .integer 1114111), (0, .integer 2147483647), (0, .methodref 7 12), (0, .nameAndType 13 14), (0, u "checkRange"), (0, u "(II)V"), (0, .class_ 16), (0, u "com/example/labelsmith/labelsmith/core/CodePointSetCheckRangePinLaw"), (2, u "law"), (0, u "(II)Z")] 3

def k1m0 : Method := { name := "<init>", desc := "()V", sig := { parameters := [], returnType := none }, accessFlags := 1, code := none }
def k1c1 : Code := { maxStack := 4, maxLocals := 5, code := code, exceptionTable := #[], attributes := #[] }
def k1m1 : Method := { name := "law", desc := "(II)Z", sig := { parameters := [.int, .int], returnType := some .boolean }, accessFlags := 9, code := some k1c1 }
/-- com/example/labelsmith/labelsmith/core/CodePointSetCheckRangePinLaw -/
def k1 : Class := { plain "com/example/labelsmith/labelsmith/core/CodePointSetCheckRangePinLaw" (some 0) with
  accessFlags := 49
  interfaces := #[]
  cf := some (fileOf pool1 15 #[] #[{ accessFlags := 1, nameIndex := 5, descriptorIndex := 6, attributes := #[] }, { accessFlags := 9, nameIndex := 19, descriptorIndex := 20, attributes := #[] }] 49 2 #[] #[])
  fields := #[]
  methods := #[k1m0, k1m1]
  instanceTypes := #[]
  staticTypes := #[]
  resolved := Array.replicate 24 none
  statics := none }

def pool2 : Array CpInfo := pool [(4, .class_ 6), (1, u "java/lang/Object"), (3, .class_ 12), (1, u "com/example/labelsmith/labelsmith/core/CodePointSet"), (0, u "members"), (0, u "Ljava/util/BitSet;"), (10, .integer 1114111), (9, u "MAX_CODE_POINT"), (0, u "I"), (7, u "checkRange"), (0, u "(II)V"), (3, .class_ 50), (0, u "com/example/labelsmith/labelsmith/core/CodePointSet$Builder")] 2

def k2c0 : Code := { maxStack := 3, maxLocals := 2, code := prog_2_method_4_code, exceptionTable := #[], attributes := #[] }
def k2m0 : Method := { name := "checkRange", desc := "(II)V", sig := { parameters := [.int, .int], returnType := none }, accessFlags := 9, code := some k2c0 }
/-- com/example/labelsmith/labelsmith/core/CodePointSet -/
def k2 : Class := { plain "com/example/labelsmith/labelsmith/core/CodePointSet" (some 0) with
  accessFlags := 49
  interfaces := #[]
  cf := some (fileOf pool2 10 #[.nestMembers #[49]] #[{ accessFlags := 9, nameIndex := 44, descriptorIndex := 45, attributes := #[] }] 49 4 #[] #[{ accessFlags := 25, nameIndex := 35, descriptorIndex := 36, attributes := #[] }, { accessFlags := 18, nameIndex := 13, descriptorIndex := 14, attributes := #[] }])
  fields := #[{ name := "MAX_CODE_POINT", type := .int, accessFlags := 25, slot := 0, constantValue := 0 }, { name := "members", type := (.object "java/util/BitSet"), accessFlags := 18, slot := 0, constantValue := 0 }]
  methods := #[k2m0]
  instanceTypes := #[(.object "java/util/BitSet")]
  staticTypes := #[.int]
  resolved := Array.replicate 53 none
  statics := none }

def pool3 : Array CpInfo := pool [(1, u "java/lang/Cloneable"), (0, .class_ 1), (0, u "java/lang/Object"), (0, .class_ 3)] 3

/-- java/lang/Cloneable -/
def k3 : Class := { plain "java/lang/Cloneable" (some 0) with
  accessFlags := 1537
  interfaces := #[]
  cf := some (fileOf pool3 2 #[] #[] 1537 4 #[] #[])
  fields := #[]
  methods := #[]
  instanceTypes := #[]
  staticTypes := #[]
  resolved := Array.replicate 8 none
  statics := none }

def pool4 : Array CpInfo := pool [(1, u "java/io/Serializable"), (0, .class_ 1), (0, u "java/lang/Object"), (0, .class_ 3)] 3

/-- java/io/Serializable -/
def k4 : Class := { plain "java/io/Serializable" (some 0) with
  accessFlags := 1537
  interfaces := #[]
  cf := some (fileOf pool4 2 #[] #[] 1537 4 #[] #[])
  fields := #[]
  methods := #[]
  instanceTypes := #[]
  staticTypes := #[]
  resolved := Array.replicate 8 none
  statics := none }

/-- the primitive byte -/
def k5 : Class := { plain "byte" none with kind := .primitive 'B', accessFlags := 0x411 }
/-- [B -/
def k6 : Class := { plain "[B" (some 0) with kind := .array 5 .byte, interfaces := #[3, 4], accessFlags := 1041 }

/-- the primitive int -/
def k7 : Class := { plain "int" none with kind := .primitive 'I', accessFlags := 0x411 }
/-- [I -/
def k8 : Class := { plain "[I" (some 0) with kind := .array 7 .int, interfaces := #[3, 4], accessFlags := 1041 }

def heap : Heap := #[]
def classes : Array Class := #[k0, k1, k2, k3, k4, k5, k6, k7, k8]
def interned : List (Array UInt16 × Addr) := []
def slotsUsed : Nat := 0
def theMethod : MethodId := ⟨1, 1⟩
def args0 : Array Value := #[.int 5, .int 5]
def aboutOver (below : List Frame) : State where
  vm := { classes := classes, interned := interned.toArray }
  heap := heap
  slotsUsed := slotsUsed
  threads := #[{ frames := .invoking theMethod args0 :: below }]
def below0 : List Frame := [.native { method := ⟨0, 0⟩, args := #[] }]
def about1 : State := aboutOver below0
def p0 : Program := .bare "" "" ""
def e0 : Env := launch0.env 0 0 0
theorem w_frames : about1.frames = Frame.invoking theMethod args0 :: below0 := rfl
set_option maxRecDepth 65536 in
theorem w_args : argsFit about1.vm theMethod args0 = true := by decide +kernel
set_option maxRecDepth 65536 in
theorem w_heap : heapFits about1 = true := by decide +kernel
set_option maxRecDepth 65536 in
theorem w_runnable : about1.curStatus? = some .runnable := by decide +kernel
set_option maxRecDepth 65536 in
theorem w_alone : about1.alone = true := by decide +kernel
set_option maxRecDepth 65536 in
theorem w_named : about1.methodNamed? x = some theMethod := by decide +kernel
set_option maxRecDepth 65536 in
theorem w_hears : about1.hears theMethod below0 = true := by decide +kernel
set_option maxRecDepth 65536 in
theorem w_ripe : about1.ripe theMethod args0 below0 = true := by decide +kernel
theorem w_running : about1.status = .running := rfl
set_option maxRecDepth 65536 in
theorem w_room : about1.hasRoom e0.platform room_1 = true :=
  launch0.hasRoom_least _ room_1 (by decide +kernel) (by decide +kernel) (by decide +kernel) (by decide +kernel) (by decide +kernel) (by decide +kernel)
theorem allAtoms_all (ts : List Jvm.Cond) (a : Array Jvm.Value) (st : Jvm.State) : (allAtoms ts).before a st = ts.all (fun c => c.before a st) := by
  induction ts with
  | nil => rfl
  | cons c t ih =>
    show (Jvm.Cond.and c (allAtoms t)).before a st = _
    rw [Jvm.Cond.before_and, ih, List.all_cons]
def words1 : List Jvm.Cond := Jvm.Cond.code x code maxLocals ret :: tables_1
/-- a 'code' word, met by the world's own term for the bytes: nothing is compared byte by byte -/
theorem code_word {y : MethodName} {bytes : ByteArray} {mx : Nat} {rt : Option FieldType} {a : Array Value} {s : State} {m : MethodId} {meth : Method} {c : Code} (h1 : s.methodNamed? y = some m) (h2 : s.vm.method? m = some meth) (h3 : meth.code = some c) (h4 : c.code = bytes)
    (h5 : (c.maxLocals == mx && c.exceptionTable.isEmpty && decide (c.maxStack ≤ mostOperands) && decide (meth.sig.returnType = rt) && !meth.locks && decide (parseMethodDescriptor y.desc = some meth.sig)) = true) : (Jvm.Cond.code y bytes mx rt).before a s = true := by
  simp only [Bool.and_eq_true, beq_iff_eq, Bool.not_eq_true', decide_eq_true_eq] at h5
  obtain ⟨⟨⟨⟨⟨g1, g2⟩, g3⟩, g4⟩, g5⟩, g6⟩ := h5
  simp [Cond.before, Cond.holds, Cond.value, h1, h2, h3, h4, g1, g2, g3, g4, g5, g6]
def isCode : Jvm.Cond → Bool
  | .code _ _ _ _ => true
  | _ => false
theorem all_split {L : List Jvm.Cond} {P : Jvm.Cond → Bool} (h1 : L.all (fun c => isCode c || P c) = true) (h2 : ∀ c ∈ L.filter isCode, P c = true) : L.all P = true := by
  refine List.all_eq_true.mpr fun c hc => ?_
  have h := List.all_eq_true.mp h1 c hc
  rcases Bool.eq_false_or_eq_true (isCode c) with hi | hi
  · exact h2 c (List.mem_filter.mpr ⟨hc, hi⟩)
  · simpa [hi] using h
set_option maxRecDepth 65536 in
theorem w_c0 : (Jvm.Cond.code x code maxLocals ret).before args0 about1 = true := code_word (m := ⟨1, 1⟩) (meth := k1m1) (c := k1c1) (by decide +kernel) rfl rfl rfl (by decide +kernel)
set_option maxRecDepth 65536 in
theorem w_c1 : (Jvm.Cond.code ({ cls := "com/example/labelsmith/labelsmith/core/CodePointSet", name := "checkRange", desc := "(II)V" } : Jvm.MethodName) prog_2_method_4_code (2 : Nat) (Option.none : Option Jvm.ClassFile.FieldType)).before args0 about1 = true := code_word (m := ⟨2, 0⟩) (meth := k2m0) (c := k2c0) (by decide +kernel) rfl rfl rfl (by decide +kernel)
def codes1 : List Jvm.Cond := [Jvm.Cond.code x code maxLocals ret, Jvm.Cond.code ({ cls := "com/example/labelsmith/labelsmith/core/CodePointSet", name := "checkRange", desc := "(II)V" } : Jvm.MethodName) prog_2_method_4_code (2 : Nat) (Option.none : Option Jvm.ClassFile.FieldType)]
set_option maxRecDepth 65536 in
theorem codes_eq : words1.filter isCode = codes1 := rfl
theorem w_codes : ∀ c ∈ words1.filter isCode, c.before args0 about1 = true := by
  rw [codes_eq]
  intro c hc
  simp only [codes1, List.mem_cons, List.not_mem_nil, or_false] at hc
  rcases hc with rfl | rfl
  · exact w_c0
  · exact w_c1
set_option maxRecDepth 65536 in
theorem w_t1 : words1.all (fun c => isCode c || c.before args0 about1) = true := by decide +kernel
theorem w_tables : (allAtoms (Jvm.Cond.code x code maxLocals ret :: tables_1)).before args0 about1 = true := by
  rw [allAtoms_all]
  show words1.all (fun c => c.before args0 about1) = true
  refine all_split ?_ w_codes
  rw [w_t1]
set_option maxRecDepth 65536 in
theorem w_case : (Jvm.Cond.and given_1 narrow_1).before args0 about1 = true := by decide +kernel
theorem w_applies : (headSpec (Jvm.Cond.code x code maxLocals ret :: tables_1) room_1).applies x e0.platform about1 = true :=
  (Spec.applies_iff w_frames).mpr ⟨w_running, w_runnable, w_alone, w_named, w_hears, w_ripe, w_room, w_tables⟩
theorem atStart : AtStart classFile x code maxLocals ret World_1 tables_1 room_1 Calls_1 rest_1 Pre_1 launch0 p0 e0 about1 theMethod args0 below0 :=
  ⟨lists_1, trivial, launch0.admits_env _ _ _, launch0.least_env, fairChoices_fair.cas, fairChoices_fair.clock, w_frames, w_args, w_heap, w_applies, trivial, trivial, w_case⟩
end start1
theorem witness_1 : WitnessClaimed_1 := ⟨start1.p0, start1.e0, start1.about1, start1.theMethod, start1.args0, start1.below0, start1.atStart⟩
end Jvm.Pilot.@@N@@
