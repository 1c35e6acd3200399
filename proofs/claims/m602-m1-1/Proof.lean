import JvmDerived
import JvmDerived.Pilot.@@N@@Statement
import JvmDerived.Pilot.@@N@@Code
set_option linter.unusedVariables false
set_option linter.unusedSimpArgs false
namespace Jvm.Pilot.@@N@@
open Jvm Jvm.ClassFile Sem Op Lib Jvm.Free Jvm.Stand Jvm.LawKit Jvm.RoadKit Bundle Jvm.Pilot.@@N@@.Jvm.D
section OwnKit
variable {p : Program} {l : Launch} {e : Env} {R : Room} {s : State} {m : MethodId} {args : Array Value} {below : List Frame} {meth : Method} {c : Code} {T T' : State} {locs : List Loc} {cells slots : Nat} {h : Heap} {Q : Option Value → Heap → List Loc → Prop} {kc ks : Nat} {g g' : JFrame}
/-- from this state and frame the method comes to its end, and what it leaves is Q -/
def Gl (p : Program) (e : Env) (below : List Frame) (s : State) (Q : Option Value → Heap → List Loc → Prop) (kc ks : Nat) (T : State) (g : JFrame) : Prop :=
  ∃ s₂ o, Steps p.tables e below (T.setTop g) s₂ ∧ s₂.status = .running ∧ Ended s₂ below o ∧ ∃ v L, o = .returned v ∧ Q v s₂.heap L ∧ FrameEnd s o s₂ L kc ks
theorem Gl.st (h : ∀ t, Steps p.tables e below (T'.setTop g') t → Steps p.tables e below (T.setTop g) t) (k : Gl p e below s Q kc ks T' g') : Gl p e below s Q kc ks T g := by
  obtain ⟨s₂, o, h1, r⟩ := k
  exact ⟨s₂, o, h _ h1, r⟩
theorem Gl.ret (X : Stand p l e R s m args below meth c T locs cells slots) (hlk : meth.locks = false) (v : Option Value) (hv : meth.sig.returnType = none → v = none) (eT : T.heap = h) (hc : cells ≤ kc) (hs : slots ≤ ks)
    (hst : ∀ fs, (∀ (f : JFrame) (acts : List Action), f.method = m → f.locked = none → f.entered = [] → (doReturn e (T.setTop f) acts v).1 = T.setFrames fs) → Steps p.tables e below (T.setTop g) (T.setFrames fs))
    (hq : Q v h locs) : Gl p e below s Q kc ks T g := by
  obtain ⟨fs, hr, hrun, hended, hW, hsame⟩ := X.leave (v := v) hv hlk
  refine ⟨_, _, hst fs hr, hrun, hended, v, locs, rfl, ?_, ⟨_, rfl⟩, hW, hsame.mono hc hs⟩
  show Q v T.heap locs
  rw [eT]; exact hq
theorem Gl.retI (X : Stand p l e R s m args below meth c T locs cells slots) (hx : p.tables.exec = Jvm.exec) (hlk : meth.locks = false) {pc : Nat} {Ls : Array Slot} {z : Int32} {rest : List Value} (hret : meth.sig.returnType = some .int) (hd : decode c.code pc = .ok (.ireturn, 1)) (eT : T.heap = h) (hc : cells ≤ kc) (hs : slots ≤ ks)
    (hq : Q (some (.int z)) h locs) : Gl p e below s Q kc ks T (mkF m pc Ls (.int z :: rest)) := by
  refine Gl.ret X hlk (some (.int z)) (fun q => by rw [hret] at q; cases q) eT hc hs (fun fs hl => ?_) hq
  exact retOut X hx hret (t := .int) rfl (Or.inl ⟨rfl, Or.inl rfl, _, rfl⟩) hd hl
theorem Gl.retZ (X : Stand p l e R s m args below meth c T locs cells slots) (hx : p.tables.exec = Jvm.exec) (hlk : meth.locks = false) {pc : Nat} {Ls : Array Slot} {z : Int32} {rest : List Value} (t : FieldType) (ht : t = .boolean ∨ t = .byte ∨ t = .char ∨ t = .short) (hret : meth.sig.returnType = some t) (hd : decode c.code pc = .ok (.ireturn, 1)) (eT : T.heap = h) (hc : cells ≤ kc) (hs : slots ≤ ks)
    (hq : Q (some (.int (nar t z))) h locs) : Gl p e below s Q kc ks T (mkF m pc Ls (.int z :: rest)) := by
  refine Gl.ret X hlk (some (.int (nar t z))) (fun q => by rw [hret] at q; cases q) eT hc hs (fun fs hl => ?_) hq
  exact retN X hx (t := t) hret ht hd hl
theorem Gl.retL (X : Stand p l e R s m args below meth c T locs cells slots) (hx : p.tables.exec = Jvm.exec) (hlk : meth.locks = false) {pc : Nat} {Ls : Array Slot} {z : Int64} (hret : meth.sig.returnType = some .long) (hd : decode c.code pc = .ok (.lreturn, 1)) (eT : T.heap = h) (hc : cells ≤ kc) (hs : slots ≤ ks)
    (hq : Q (some (.long z)) h locs) : Gl p e below s Q kc ks T (mkF m pc Ls [.long z]) := by
  refine Gl.ret X hlk (some (.long z)) (fun q => by rw [hret] at q; cases q) eT hc hs (fun fs hl => ?_) hq
  exact X.lreturnOut hx hret hd hl
theorem Gl.retV (X : Stand p l e R s m args below meth c T locs cells slots) (hx : p.tables.exec = Jvm.exec) (hlk : meth.locks = false) {pc : Nat} {Ls : Array Slot} (hret : meth.sig.returnType = none) (hd : decode c.code pc = .ok (.return_, 1)) (eT : T.heap = h) (hc : cells ≤ kc) (hs : slots ≤ ks)
    (hq : Q none h locs) : Gl p e below s Q kc ks T (mkF m pc Ls []) := by
  refine Gl.ret X hlk none (fun _ => rfl) eT hc hs (fun fs hl => ?_) hq
  exact X.returnOut hx hret hd hl
end OwnKit

theorem own_z0 : nar .boolean (0 : Int32) = 0 := by decide
theorem own_z1 : nar .boolean (1 : Int32) = 1 := by decide
theorem own_nn (x : Int32) : 0 ≤ (x &&& (2147483647 : Int32)).toInt := by
  rw [c_mask x 2147483647 31 (by decide) (by decide)]
  exact Int.emod_nonneg _ (by decide)
theorem own_lt {x y : Int32} (h : x.toInt < y.toInt) : x < y := Int32.lt_iff_toInt_lt.mpr h
theorem own_nlt {x y : Int32} (h : y.toInt ≤ x.toInt) : ¬ x < y := fun q => by
  have := Int32.lt_iff_toInt_lt.mp q; omega
theorem own_eq {x y : Int32} (h : x.toInt = y.toInt) : x = y := Int32.toInt_inj.mp h
theorem own_ltI {x y : Int32} (h : x < y) : x.toInt < y.toInt := Int32.lt_iff_toInt_lt.mp h
theorem own_nltI {x y : Int32} (h : ¬ x < y) : y.toInt ≤ x.toInt := by
  rcases Int.lt_or_le x.toInt y.toInt with q | q
  · exact absurd (own_lt q) h
  · exact q
theorem own_rem {x y : Int32} (hx : 0 ≤ x.toInt) (hy : 0 < y.toInt) : 0 ≤ (x % y).toInt ∧ (x % y).toInt < y.toInt := by
  have h := (c_irem x y y.toInt rfl).1 hx
  rw [h]; exact ⟨Int.emod_nonneg _ (by omega), Int.emod_lt_of_pos _ hy⟩
theorem own_add {x y : Int32} (h1 : -2147483648 ≤ x.toInt + y.toInt) (h2 : x.toInt + y.toInt < 2147483648) : (x + y).toInt = x.toInt + y.toInt := by
  have a := c_iadd x y; have b := (x + y).toInt_lt; have c := (x + y).le_toInt; omega
theorem own_sub {x y : Int32} (h1 : -2147483648 ≤ x.toInt - y.toInt) (h2 : x.toInt - y.toInt < 2147483648) : (x - y).toInt = x.toInt - y.toInt := by
  have a := c_isub x y; have b := (x - y).toInt_lt; have c := (x - y).le_toInt; omega
theorem own_and (x : Int32) (m : Int32) (k : Nat) (hk : k ≤ 31) (hm : m.toBitVec.toNat = 2 ^ k - 1) : 0 ≤ (x &&& m).toInt ∧ (x &&& m).toInt ≤ m.toInt ∧ (x &&& m).toInt = x.toInt % (2 ^ k : Nat) := by
  have h := c_mask x m k hk hm
  have hm0 : 0 ≤ m.toInt := by
    have e : m.toInt = m.toBitVec.toInt := rfl
    have q : 2 ^ k ≤ 2 ^ 31 := Nat.pow_le_pow_right (by decide) hk
    have l := m.toBitVec.isLt
    rw [e, BitVec.toInt_eq_toNat_cond, hm]; split <;> omega
  exact ⟨(c_and x m hm0).1, (c_and x m hm0).2, h⟩
def own_u (c : Int32) : Int32 := if (c - (56320 : Int32)) < (128 : Int32) then (-1 : Int32) else if (255 : Int32) < (c - (56320 : Int32)) then (-1 : Int32) else (c - (56320 : Int32))
theorem own_s (c : Int32) : ((c - (56320 : Int32)).toInt - (c.toInt - 56320)) % 4294967296 = 0 := by
  have h := c_isub c 56320
  have t : (56320 : Int32).toInt = 56320 := by decide
  rw [t] at h; exact h
theorem own_out {c : Int32} (h : c.toInt < 56448 ∨ 56575 < c.toInt) : own_u c = (-1 : Int32) := by
  have q := own_s c
  have b1 := (c - (56320 : Int32)).toInt_lt; have b2 := (c - (56320 : Int32)).le_toInt
  have b3 := c.toInt_lt; have b4 := c.le_toInt
  have t1 : (128 : Int32).toInt = 128 := by decide
  have t2 : (255 : Int32).toInt = 255 := by decide
  unfold own_u
  by_cases h1 : (c - (56320 : Int32)) < (128 : Int32)
  · rw [if_pos h1]
  · have g1 := own_nltI h1
    rw [if_neg h1, if_pos (own_lt (by omega))]
theorem own_in {c : Int32} (h1 : 56448 ≤ c.toInt) (h2 : c.toInt ≤ 56575) : own_u c = c - (56320 : Int32) := by
  have q := own_s c
  have b1 := (c - (56320 : Int32)).toInt_lt; have b2 := (c - (56320 : Int32)).le_toInt
  have t1 : (128 : Int32).toInt = 128 := by decide
  have t2 : (255 : Int32).toInt = 255 := by decide
  unfold own_u
  rw [if_neg (own_nlt (by omega)), if_neg (own_nlt (by omega))]
theorem own_f1 {c : Int32} (h : c < (56448 : Int32)) : own_u c = (-1 : Int32) := own_out (Or.inl (own_ltI h))
theorem own_f2 {c : Int32} (h : (56575 : Int32) < c) : own_u c = (-1 : Int32) := own_out (Or.inr (own_ltI h))
theorem own_f3 {c v : Int32} (h1 : ¬ c < (56448 : Int32)) (h2 : ¬ (56575 : Int32) < c) (e : c - (56320 : Int32) = v) : own_u c = v := e ▸ own_in (own_nltI h1) (own_nltI h2)
theorem own_b {b v : Int32} (e : ((128 : Int32) ||| (b &&& (127 : Int32))) = v) : 128 ≤ v.toInt ∧ v.toInt ≤ 255 := by
  obtain ⟨h1, h2, -⟩ := own_and b 127 7 (by decide) (by decide)
  have t : (127 : Int32).toInt = 127 := by decide
  have u : (128 : Int32).toInt = 128 := by decide
  have h := c_or 128 (b &&& (127 : Int32)) 7 (by decide) 128 (by decide) (by decide) h1 (by omega)
  rw [e, u] at h
  have b1 := v.toInt_lt; have b2 := v.le_toInt
  omega
theorem own_f4 {b v : Int32} (e : ((128 : Int32) ||| (b &&& (127 : Int32))) = v) : own_u ((56320 : Int32) + v) = v := by
  have h := own_b e
  have u : (56320 : Int32).toInt = 56320 := by decide
  have q : ((56320 : Int32) + v).toInt = 56320 + v.toInt := by rw [own_add (by omega) (by omega)]; omega
  rw [own_in (by omega) (by omega)]
  exact own_eq (by rw [own_sub (by omega) (by omega)]; omega)
theorem own_f5 {b v : Int32} (e : ((56447 : Int32) - (b &&& (255 : Int32))) = v) : own_u v = (-1 : Int32) := by
  obtain ⟨h1, h2, -⟩ := own_and b 255 8 (by decide) (by decide)
  have t : (255 : Int32).toInt = 255 := by decide
  have u : (56447 : Int32).toInt = 56447 := by decide
  refine own_out (Or.inl ?_)
  rw [← e, own_sub (by omega) (by omega)]; omega
theorem own_f6 {b v : Int32} (e : ((56576 : Int32) + (b &&& (255 : Int32))) = v) : own_u v = (-1 : Int32) := by
  obtain ⟨h1, h2, -⟩ := own_and b 255 8 (by decide) (by decide)
  have t : (255 : Int32).toInt = 255 := by decide
  have u : (56576 : Int32).toInt = 56576 := by decide
  refine own_out (Or.inr ?_)
  rw [← e, own_add (by omega) (by omega)]; omega
theorem d1_0 : decode prog_1_method_9_code 0 = .ok (.iload_n 0, 1) := by decide +kernel
theorem d1_1 : decode prog_1_method_9_code 1 = .ok (.ldc 92, 2) := by decide +kernel
theorem d1_3 : decode prog_1_method_9_code 3 = .ok (.isub, 1) := by decide +kernel
theorem d1_4 : decode prog_1_method_9_code 4 = .ok (.istore_n 1, 1) := by decide +kernel
theorem d1_5 : decode prog_1_method_9_code 5 = .ok (.iload_n 1, 1) := by decide +kernel
theorem d1_6 : decode prog_1_method_9_code 6 = .ok (.sipush 128, 3) := by decide +kernel
theorem d1_9 : decode prog_1_method_9_code 9 = .ok (.if_icmp .lt 14, 3) := by decide +kernel
theorem d1_12 : decode prog_1_method_9_code 12 = .ok (.iload_n 1, 1) := by decide +kernel
theorem d1_13 : decode prog_1_method_9_code 13 = .ok (.sipush 255, 3) := by decide +kernel
theorem d1_16 : decode prog_1_method_9_code 16 = .ok (.if_icmp .gt 7, 3) := by decide +kernel
theorem d1_19 : decode prog_1_method_9_code 19 = .ok (.iload_n 1, 1) := by decide +kernel
theorem d1_20 : decode prog_1_method_9_code 20 = .ok (.goto 4, 3) := by decide +kernel
theorem d1_23 : decode prog_1_method_9_code 23 = .ok (.iconst (-1), 1) := by decide +kernel
theorem d1_24 : decode prog_1_method_9_code 24 = .ok (.ireturn, 1) := by decide +kernel
theorem pn_0 : plainName "com/example/labelsmith/labelsmith/cli/LineReader" = true := by first | (simp [plainName, overriddenIn]; done) | decide +kernel
theorem ef_1 (m : MethodId) (p1 : Int32) : entryFrame m #[(.int p1)] 2 = mkF m 0 #[.val (.int p1), .unset] [] := by first | (simp [entryFrame, mkF, argsToLocals, Value.category]; done) | rfl
def Q1 (Z : State) (p1 : Int32)  (h0 : Heap) (n0 : Nat) (v : Option Value) (h : Heap) (L : List Loc) : Prop := v = some (.int (own_u p1)) ∧ Fr n0 L ∧ h = h0
set_option maxRecDepth 65536 in
set_option maxHeartbeats 40000000 in
theorem rm1 (l : Launch) (Z : State) (a0 : Array Value) (hw : ∀ d ∈ tables_1, d.before a0 Z = true) (p1 : Int32)  (h0 : Heap) (n0 : Nat) (Z0 : n0 ≤ h0.size)  :
    MetFree l (⟨"com/example/labelsmith/labelsmith/cli/LineReader", "undecodableByte", "(I)I"⟩ : MethodName) (head1 [Jvm.Cond.code (⟨"com/example/labelsmith/labelsmith/cli/LineReader", "undecodableByte", "(I)I"⟩ : MethodName) prog_1_method_9_code 2 (some .int)] ({ frames := 0, cells := 0, slots := 0, locals := 0 } : Room)) (fun a U => a = #[(.int p1)] ∧ Z.Warmed39 U.vm ∧ U.heap = h0) (fun _ _ _ _ _ => True) (fun _ U o U' => ∃ v L, o = .returned v ∧ Q1 Z p1  h0 n0 v U'.heap L ∧ FrameEnd U o U' L ({ frames := 0, cells := 0, slots := 0, locals := 0 } : Room).cells ({ frames := 0, cells := 0, slots := 0, locals := 0 } : Room).slots) := by
  refine MetFree.of_bodySF (plainFor_of_name pn_0) hisR ?_
  intro p e s m args below meth c s₁ Bd hml0 hP hK
  obtain ⟨rfl, hZ, hh⟩ := hP
  have hx := Bd.exec
  have hby := Bd.bytes
  have hlk : meth.locks = false := Bd.notSynchronized
  have hml : c.maxLocals = 2 := hml0
  have hown : s.vm.findClass "com/example/labelsmith/labelsmith/cli/LineReader" = some m.cls := findClass_of_methodNamed Bd.named
  have hnm := (name_of_methodNamed Bd.named Bd.method).1
  have X0 : Stand p l e ({ frames := 0, cells := 0, slots := 0, locals := 0 } : Room) s m #[(.int p1)] below meth c s₁ [] 0 0 := Stand.of_body Bd
  have e0 : s₁.heap = h0 := by rw [← hh, Bd.state]; rfl
  have N0 := Fr.nil n0
  show Gl p e below s (Q1 Z p1  h0 n0) 0 0 s₁ (entryFrame m #[(.int p1)] 2)
  rw [ef_1 m p1]
  refine Gl.st (g' := (mkF m 1 #[.val (.int p1), .unset] [(.int p1)])) (fun t k => XS.iloadN X0.here hx rfl (hb hby d1_0) rfl k) ?_
  refine Gl.st (g' := (mkF m 3 #[.val (.int p1), .unset] [(.int (56320 : Int32)), (.int p1)])) (fun t k => X0.ldcI hx hown (mvT hZ (hw _ (List.mem_of_getElem? (i := 5) rfl))) rfl (hb hby d1_1) k) ?_
  refine Gl.st (g' := (mkF m 4 #[.val (.int p1), .unset] [(.int (p1 - (56320 : Int32)))])) (fun t k => XS.isub X0.here hx rfl (hb hby d1_3) rfl k) ?_
  refine Gl.st (g' := (mkF m 5 #[.val (.int p1), .val (.int (p1 - (56320 : Int32)))] [])) (fun t k => XS.istoreN X0.here hx rfl (hb hby d1_4) rfl (l' := #[.val (.int p1), .val (.int (p1 - (56320 : Int32)))]) rfl k) ?_
  refine Gl.st (g' := (mkF m 6 #[.val (.int p1), .val (.int (p1 - (56320 : Int32)))] [(.int (p1 - (56320 : Int32)))])) (fun t k => XS.iloadN X0.here hx rfl (hb hby d1_5) rfl k) ?_
  refine Gl.st (g' := (mkF m 9 #[.val (.int p1), .val (.int (p1 - (56320 : Int32)))] [(.int (128 : Int32)), (.int (p1 - (56320 : Int32)))])) (fun t k => XT.sipushV X0.here hx rfl (128 : Int32) (hb hby d1_6) rfl k) ?_
  by_cases c1 : (p1 - (56320 : Int32)) < (128 : Int32)
  · skip
    refine Gl.st (g' := (mkF m 23 #[.val (.int p1), .val (.int (p1 - (56320 : Int32)))] [])) (fun t k => XS.icmpYes X0.here hx rfl (pc0 := 9) (pc' := 23) rfl (hb hby d1_9) rfl (XT.ii_lt_t c1) (by decide) (by decide) k) ?_
    refine Gl.st (g' := (mkF m 24 #[.val (.int p1), .val (.int (p1 - (56320 : Int32)))] [(.int (-1 : Int32))])) (fun t k => XT.iconstV X0.here hx rfl (-1 : Int32) (hb hby d1_23) rfl k) ?_
    refine Gl.retI X0 hx hlk Bd.returns (hb hby d1_24) e0 (by decide) (by decide) ?_
    refine ⟨?_, N0, rfl⟩
    unfold own_u
    rw [if_pos c1]
  · skip
    refine Gl.st (g' := (mkF m 12 #[.val (.int p1), .val (.int (p1 - (56320 : Int32)))] [])) (fun t k => XS.icmpNo X0.here hx rfl (hb hby d1_9) rfl (XT.ii_lt_f c1) k) ?_
    refine Gl.st (g' := (mkF m 13 #[.val (.int p1), .val (.int (p1 - (56320 : Int32)))] [(.int (p1 - (56320 : Int32)))])) (fun t k => XS.iloadN X0.here hx rfl (hb hby d1_12) rfl k) ?_
    refine Gl.st (g' := (mkF m 16 #[.val (.int p1), .val (.int (p1 - (56320 : Int32)))] [(.int (255 : Int32)), (.int (p1 - (56320 : Int32)))])) (fun t k => XT.sipushV X0.here hx rfl (255 : Int32) (hb hby d1_13) rfl k) ?_
    by_cases c2 : (255 : Int32) < (p1 - (56320 : Int32))
    · skip
      refine Gl.st (g' := (mkF m 23 #[.val (.int p1), .val (.int (p1 - (56320 : Int32)))] [])) (fun t k => XS.icmpYes X0.here hx rfl (pc0 := 16) (pc' := 23) rfl (hb hby d1_16) rfl (XT.ii_gt_t c2) (by decide) (by decide) k) ?_
      refine Gl.st (g' := (mkF m 24 #[.val (.int p1), .val (.int (p1 - (56320 : Int32)))] [(.int (-1 : Int32))])) (fun t k => XT.iconstV X0.here hx rfl (-1 : Int32) (hb hby d1_23) rfl k) ?_
      refine Gl.retI X0 hx hlk Bd.returns (hb hby d1_24) e0 (by decide) (by decide) ?_
      refine ⟨?_, N0, rfl⟩
      unfold own_u
      rw [if_neg c1, if_pos c2]
    · skip
      refine Gl.st (g' := (mkF m 19 #[.val (.int p1), .val (.int (p1 - (56320 : Int32)))] [])) (fun t k => XS.icmpNo X0.here hx rfl (hb hby d1_16) rfl (XT.ii_gt_f c2) k) ?_
      refine Gl.st (g' := (mkF m 20 #[.val (.int p1), .val (.int (p1 - (56320 : Int32)))] [(.int (p1 - (56320 : Int32)))])) (fun t k => XS.iloadN X0.here hx rfl (hb hby d1_19) rfl k) ?_
      refine Gl.st (g' := (mkF m 24 #[.val (.int p1), .val (.int (p1 - (56320 : Int32)))] [(.int (p1 - (56320 : Int32)))])) (fun t k => XS.goto X0.here hx rfl (pc0 := 20) (pc' := 24) rfl (hb hby d1_20) (by decide) (by decide) k) ?_
      refine Gl.retI X0 hx hlk Bd.returns (hb hby d1_24) e0 (by decide) (by decide) ?_
      refine ⟨?_, N0, rfl⟩
      unfold own_u
      rw [if_neg c1, if_neg c2]
theorem pd_0 : parseMethodDescriptor "(I)I" = some ⟨[.int], some .int⟩ := by decide +kernel
theorem pn_1 : plainName "com/example/labelsmith/labelsmith/cli/LineReaderUndecodableBytePinLaw" = true := by first | (simp [plainName, overriddenIn]; done) | decide +kernel
theorem ef_0 (m : MethodId) (p1 : Int32) (p2 : Int32) : entryFrame m #[(.int p1), (.int p2)] maxLocals = mkF m 0 #[.val (.int p1), .val (.int p2), .unset, .unset, .unset, .unset] [] := by first | (simp [entryFrame, mkF, argsToLocals, Value.category, maxLocals]; done) | rfl
def Q0 (Z : State) (p1 : Int32) (p2 : Int32)  (h0 : Heap) (n0 : Nat) (v : Option Value) (h : Heap) (L : List Loc) : Prop := v = some (.int 1) ∧ Fr n0 L
set_option maxRecDepth 65536 in
set_option maxHeartbeats 40000000 in
theorem rm0 (l : Launch) (Z : State) (a0 : Array Value) (hw : ∀ d ∈ tables_1, d.before a0 Z = true) (ws : List Jvm.Cond) (p1 : Int32) (p2 : Int32)  (h0 : Heap) (n0 : Nat) (Z0 : n0 ≤ h0.size)  :
    MetFree l x (head1 (Jvm.Cond.code x code maxLocals ret :: ws) room_1) (fun a U => a = #[(.int p1), (.int p2)] ∧ Z.Warmed39 U.vm ∧ U.heap = h0) (fun _ _ _ _ _ => True) (fun _ U o U' => ∃ v L, o = .returned v ∧ Q0 Z p1 p2  h0 n0 v U'.heap L ∧ FrameEnd U o U' L 0 0) := by
  refine MetFree.of_bodySF (plainFor_of_name pn_1) hisR ?_
  intro p e s m args below meth c s₁ Bd hml0 hP hK
  obtain ⟨rfl, hZ, hh⟩ := hP
  have hx := Bd.exec
  have hby := Bd.bytes
  have hlk : meth.locks = false := Bd.notSynchronized
  have hml : c.maxLocals = 6 := hml0
  have hown : s.vm.findClass "com/example/labelsmith/labelsmith/cli/LineReaderUndecodableBytePinLaw" = some m.cls := findClass_of_methodNamed Bd.named
  have hnm := (name_of_methodNamed Bd.named Bd.method).1
  have X0 : Stand p l e room_1 s m #[(.int p1), (.int p2)] below meth c s₁ [] 0 0 := Stand.of_body Bd
  have e0 : s₁.heap = h0 := by rw [← hh, Bd.state]; rfl
  have N0 := Fr.nil n0
  show Gl p e below s (Q0 Z p1 p2  h0 n0) 0 0 s₁ (entryFrame m #[(.int p1), (.int p2)] maxLocals)
  rw [ef_0 m p1 p2]
  refine Gl.st (g' := (mkF m 1 #[.val (.int p1), .val (.int p2), .unset, .unset, .unset, .unset] [(.int p1)])) (fun t k => XS.iloadN X0.here hx rfl (hb hby at_0) rfl k) ?_
  refine Gl.st (g' := (mkF m 3 #[.val (.int p1), .val (.int p2), .unset, .unset, .unset, .unset] [(.int (56448 : Int32)), (.int p1)])) (fun t k => X0.ldcI hx hown (mvT hZ (hw _ (List.mem_of_getElem? (i := 0) rfl))) rfl (hb hby at_1) k) ?_
  by_cases c3 : p1 < (56448 : Int32)
  · skip
    refine Gl.st (g' := (mkF m 19 #[.val (.int p1), .val (.int p2), .unset, .unset, .unset, .unset] [])) (fun t k => XS.icmpYes X0.here hx rfl (pc0 := 3) (pc' := 19) rfl (hb hby at_3) rfl (XT.ii_lt_t c3) (by decide) (by decide) k) ?_
    refine Gl.st (g' := (mkF m 20 #[.val (.int p1), .val (.int p2), .unset, .unset, .unset, .unset] [(.int (-1 : Int32))])) (fun t k => XT.iconstV X0.here hx rfl (-1 : Int32) (hb hby at_19) rfl k) ?_
    refine Gl.st (g' := (mkF m 21 #[.val (.int p1), .val (.int p2), .val (.int (-1 : Int32)), .unset, .unset, .unset] [])) (fun t k => XS.istoreN X0.here hx rfl (hb hby at_20) rfl (l' := #[.val (.int p1), .val (.int p2), .val (.int (-1 : Int32)), .unset, .unset, .unset]) rfl k) ?_
    refine Gl.st (g' := (mkF m 22 #[.val (.int p1), .val (.int p2), .val (.int (-1 : Int32)), .unset, .unset, .unset] [(.int p1)])) (fun t k => XS.iloadN X0.here hx rfl (hb hby at_21) rfl k) ?_
    obtain ⟨_, _, ⟨T4, L4, k4, n4⟩, -, X4, ⟨Lc4, hQ4, l4, y4, z4⟩, st4⟩ := Jvm.LawKit.callS X0 hx (y := (⟨"com/example/labelsmith/labelsmith/cli/LineReader", "undecodableByte", "(I)I"⟩ : MethodName)) hown (mvT hZ (hw _ (List.mem_of_getElem? (i := 1) rfl))) (mvT hZ (hw _ (List.mem_of_getElem? (i := 2) rfl))) (mvT hZ (hw _ (List.mem_of_getElem? (i := 3) rfl))) (mvT hZ (hw _ (List.mem_of_getElem? (i := 4) rfl))) (by decide) (backOf (W := 0) (rm1 l Z a0 hw p1  h0 n0 Z0 ) hZ (hw _ (List.mem_of_getElem? (i := 4) rfl)) (hw _ (List.mem_of_getElem? (i := 3) rfl)) (by decide) (by decide)) (g := (mkF m 22 #[.val (.int p1), .val (.int p2), .val (.int (-1 : Int32)), .unset, .unset, .unset] [(.int p1)])) rfl (by rw [hml]; rfl) (argsL := [(.int p1)]) (rest := []) (lenOf pd_0 rfl) rfl (by show 2 * 0 + _ ≤ _; exact Nat.le_of_eq rfl) (hb hby at_22) (fun _ _ => ⟨rfl, e0, (by decide : 0 + 0 ≤ _), (by decide : 0 + 0 ≤ _)⟩)
    dsimp only [Pt.U, Pt.locs, Pt.cells, Pt.slots] at X4 l4 y4 z4 st4 hQ4
    subst l4 y4 z4
    obtain ⟨rfl, Nq4, e4⟩ := hQ4
    have N4 := Fr.app N0 Nq4
    refine Gl.st (g' := (mkF m 25 #[.val (.int p1), .val (.int p2), .val (.int (-1 : Int32)), .unset, .unset, .unset] [(.int (own_u p1))])) st4 ?_
    refine Gl.st (g' := (mkF m 26 #[.val (.int p1), .val (.int p2), .val (.int (-1 : Int32)), .unset, .unset, .unset] [(.int (-1 : Int32)), (.int (own_u p1))])) (fun t k => XS.iloadN X4.here hx rfl (hb hby at_25) rfl k) ?_
    refine Gl.st (g' := (mkF m 31 #[.val (.int p1), .val (.int p2), .val (.int (-1 : Int32)), .unset, .unset, .unset] [])) (fun t k => XS.icmpYes X4.here hx rfl (pc0 := 26) (pc' := 31) rfl (hb hby at_26) rfl (XT.ii_eq_t (own_f1 c3)) (by decide) (by decide) k) ?_
    refine Gl.st (g' := (mkF m 34 #[.val (.int p1), .val (.int p2), .val (.int (-1 : Int32)), .unset, .unset, .unset] [(.int (128 : Int32))])) (fun t k => XT.sipushV X4.here hx rfl (128 : Int32) (hb hby at_31) rfl k) ?_
    refine Gl.st (g' := (mkF m 35 #[.val (.int p1), .val (.int p2), .val (.int (-1 : Int32)), .unset, .unset, .unset] [(.int p2), (.int (128 : Int32))])) (fun t k => XS.iloadN X4.here hx rfl (hb hby at_34) rfl k) ?_
    refine Gl.st (g' := (mkF m 37 #[.val (.int p1), .val (.int p2), .val (.int (-1 : Int32)), .unset, .unset, .unset] [(.int (127 : Int32)), (.int p2), (.int (128 : Int32))])) (fun t k => XT.bipushV X4.here hx rfl (127 : Int32) (hb hby at_35) rfl k) ?_
    refine Gl.st (g' := (mkF m 38 #[.val (.int p1), .val (.int p2), .val (.int (-1 : Int32)), .unset, .unset, .unset] [(.int (p2 &&& (127 : Int32))), (.int (128 : Int32))])) (fun t k => XS.iand X4.here hx rfl (hb hby at_37) rfl k) ?_
    refine Gl.st (g' := (mkF m 39 #[.val (.int p1), .val (.int p2), .val (.int (-1 : Int32)), .unset, .unset, .unset] [(.int ((128 : Int32) ||| (p2 &&& (127 : Int32))))])) (fun t k => XS.ior X4.here hx rfl (hb hby at_38) rfl k) ?_
    generalize hv5 : ((128 : Int32) ||| (p2 &&& (127 : Int32))) = v5
    refine Gl.st (g' := (mkF m 40 #[.val (.int p1), .val (.int p2), .val (.int (-1 : Int32)), .val (.int v5), .unset, .unset] [])) (fun t k => XS.istoreN X4.here hx rfl (hb hby at_39) rfl (l' := #[.val (.int p1), .val (.int p2), .val (.int (-1 : Int32)), .val (.int v5), .unset, .unset]) rfl k) ?_
    refine Gl.st (g' := (mkF m 42 #[.val (.int p1), .val (.int p2), .val (.int (-1 : Int32)), .val (.int v5), .unset, .unset] [(.int (56320 : Int32))])) (fun t k => X4.ldcI hx hown (mvT hZ (hw _ (List.mem_of_getElem? (i := 6) rfl))) rfl (hb hby at_40) k) ?_
    refine Gl.st (g' := (mkF m 43 #[.val (.int p1), .val (.int p2), .val (.int (-1 : Int32)), .val (.int v5), .unset, .unset] [(.int v5), (.int (56320 : Int32))])) (fun t k => XS.iloadN X4.here hx rfl (hb hby at_42) rfl k) ?_
    refine Gl.st (g' := (mkF m 44 #[.val (.int p1), .val (.int p2), .val (.int (-1 : Int32)), .val (.int v5), .unset, .unset] [(.int ((56320 : Int32) + v5))])) (fun t k => XS.iadd X4.here hx rfl (hb hby at_43) rfl k) ?_
    obtain ⟨_, _, ⟨T6, L6, k6, n6⟩, -, X6, ⟨Lc6, hQ6, l6, y6, z6⟩, st6⟩ := Jvm.LawKit.callS X4 hx (y := (⟨"com/example/labelsmith/labelsmith/cli/LineReader", "undecodableByte", "(I)I"⟩ : MethodName)) hown (mvT hZ (hw _ (List.mem_of_getElem? (i := 1) rfl))) (mvT hZ (hw _ (List.mem_of_getElem? (i := 2) rfl))) (mvT hZ (hw _ (List.mem_of_getElem? (i := 3) rfl))) (mvT hZ (hw _ (List.mem_of_getElem? (i := 4) rfl))) (by decide) (backOf (W := 0) (rm1 l Z a0 hw ((56320 : Int32) + v5)  h0 n0 Z0 ) hZ (hw _ (List.mem_of_getElem? (i := 4) rfl)) (hw _ (List.mem_of_getElem? (i := 3) rfl)) (by decide) (by decide)) (g := (mkF m 44 #[.val (.int p1), .val (.int p2), .val (.int (-1 : Int32)), .val (.int v5), .unset, .unset] [(.int ((56320 : Int32) + v5))])) rfl (by rw [hml]; rfl) (argsL := [(.int ((56320 : Int32) + v5))]) (rest := []) (lenOf pd_0 rfl) rfl (by show 2 * 0 + _ ≤ _; exact Nat.le_of_eq rfl) (hb hby at_44) (fun _ _ => ⟨rfl, e4, (by decide : 0 + 0 + 0 ≤ _), (by decide : 0 + 0 + 0 ≤ _)⟩)
    dsimp only [Pt.U, Pt.locs, Pt.cells, Pt.slots] at X6 l6 y6 z6 st6 hQ6
    subst l6 y6 z6
    obtain ⟨rfl, Nq6, e6⟩ := hQ6
    have N6 := Fr.app N4 Nq6
    refine Gl.st (g' := (mkF m 47 #[.val (.int p1), .val (.int p2), .val (.int (-1 : Int32)), .val (.int v5), .unset, .unset] [(.int (own_u ((56320 : Int32) + v5)))])) st6 ?_
    refine Gl.st (g' := (mkF m 48 #[.val (.int p1), .val (.int p2), .val (.int (-1 : Int32)), .val (.int v5), .unset, .unset] [(.int v5), (.int (own_u ((56320 : Int32) + v5)))])) (fun t k => XS.iloadN X6.here hx rfl (hb hby at_47) rfl k) ?_
    refine Gl.st (g' := (mkF m 53 #[.val (.int p1), .val (.int p2), .val (.int (-1 : Int32)), .val (.int v5), .unset, .unset] [])) (fun t k => XS.icmpYes X6.here hx rfl (pc0 := 48) (pc' := 53) rfl (hb hby at_48) rfl (XT.ii_eq_t (own_f4 hv5)) (by decide) (by decide) k) ?_
    refine Gl.st (g' := (mkF m 55 #[.val (.int p1), .val (.int p2), .val (.int (-1 : Int32)), .val (.int v5), .unset, .unset] [(.int (56447 : Int32))])) (fun t k => X6.ldcI hx hown (mvT hZ (hw _ (List.mem_of_getElem? (i := 7) rfl))) rfl (hb hby at_53) k) ?_
    refine Gl.st (g' := (mkF m 56 #[.val (.int p1), .val (.int p2), .val (.int (-1 : Int32)), .val (.int v5), .unset, .unset] [(.int p2), (.int (56447 : Int32))])) (fun t k => XS.iloadN X6.here hx rfl (hb hby at_55) rfl k) ?_
    refine Gl.st (g' := (mkF m 59 #[.val (.int p1), .val (.int p2), .val (.int (-1 : Int32)), .val (.int v5), .unset, .unset] [(.int (255 : Int32)), (.int p2), (.int (56447 : Int32))])) (fun t k => XT.sipushV X6.here hx rfl (255 : Int32) (hb hby at_56) rfl k) ?_
    refine Gl.st (g' := (mkF m 60 #[.val (.int p1), .val (.int p2), .val (.int (-1 : Int32)), .val (.int v5), .unset, .unset] [(.int (p2 &&& (255 : Int32))), (.int (56447 : Int32))])) (fun t k => XS.iand X6.here hx rfl (hb hby at_59) rfl k) ?_
    refine Gl.st (g' := (mkF m 61 #[.val (.int p1), .val (.int p2), .val (.int (-1 : Int32)), .val (.int v5), .unset, .unset] [(.int ((56447 : Int32) - (p2 &&& (255 : Int32))))])) (fun t k => XS.isub X6.here hx rfl (hb hby at_60) rfl k) ?_
    generalize hv7 : ((56447 : Int32) - (p2 &&& (255 : Int32))) = v7
    refine Gl.st (g' := (mkF m 63 #[.val (.int p1), .val (.int p2), .val (.int (-1 : Int32)), .val (.int v5), .val (.int v7), .unset] [])) (fun t k => XS.istore X6.here hx rfl (hb hby at_61) rfl (l' := #[.val (.int p1), .val (.int p2), .val (.int (-1 : Int32)), .val (.int v5), .val (.int v7), .unset]) rfl k) ?_
    refine Gl.st (g' := (mkF m 65 #[.val (.int p1), .val (.int p2), .val (.int (-1 : Int32)), .val (.int v5), .val (.int v7), .unset] [(.int (56576 : Int32))])) (fun t k => X6.ldcI hx hown (mvT hZ (hw _ (List.mem_of_getElem? (i := 8) rfl))) rfl (hb hby at_63) k) ?_
    refine Gl.st (g' := (mkF m 66 #[.val (.int p1), .val (.int p2), .val (.int (-1 : Int32)), .val (.int v5), .val (.int v7), .unset] [(.int p2), (.int (56576 : Int32))])) (fun t k => XS.iloadN X6.here hx rfl (hb hby at_65) rfl k) ?_
    refine Gl.st (g' := (mkF m 69 #[.val (.int p1), .val (.int p2), .val (.int (-1 : Int32)), .val (.int v5), .val (.int v7), .unset] [(.int (255 : Int32)), (.int p2), (.int (56576 : Int32))])) (fun t k => XT.sipushV X6.here hx rfl (255 : Int32) (hb hby at_66) rfl k) ?_
    refine Gl.st (g' := (mkF m 70 #[.val (.int p1), .val (.int p2), .val (.int (-1 : Int32)), .val (.int v5), .val (.int v7), .unset] [(.int (p2 &&& (255 : Int32))), (.int (56576 : Int32))])) (fun t k => XS.iand X6.here hx rfl (hb hby at_69) rfl k) ?_
    refine Gl.st (g' := (mkF m 71 #[.val (.int p1), .val (.int p2), .val (.int (-1 : Int32)), .val (.int v5), .val (.int v7), .unset] [(.int ((56576 : Int32) + (p2 &&& (255 : Int32))))])) (fun t k => XS.iadd X6.here hx rfl (hb hby at_70) rfl k) ?_
    generalize hv8 : ((56576 : Int32) + (p2 &&& (255 : Int32))) = v8
    refine Gl.st (g' := (mkF m 73 #[.val (.int p1), .val (.int p2), .val (.int (-1 : Int32)), .val (.int v5), .val (.int v7), .val (.int v8)] [])) (fun t k => XS.istore X6.here hx rfl (hb hby at_71) rfl (l' := #[.val (.int p1), .val (.int p2), .val (.int (-1 : Int32)), .val (.int v5), .val (.int v7), .val (.int v8)]) rfl k) ?_
    refine Gl.st (g' := (mkF m 75 #[.val (.int p1), .val (.int p2), .val (.int (-1 : Int32)), .val (.int v5), .val (.int v7), .val (.int v8)] [(.int v7)])) (fun t k => XS.iload X6.here hx rfl (hb hby at_73) rfl k) ?_
    obtain ⟨_, _, ⟨T9, L9, k9, n9⟩, -, X9, ⟨Lc9, hQ9, l9, y9, z9⟩, st9⟩ := Jvm.LawKit.callS X6 hx (y := (⟨"com/example/labelsmith/labelsmith/cli/LineReader", "undecodableByte", "(I)I"⟩ : MethodName)) hown (mvT hZ (hw _ (List.mem_of_getElem? (i := 1) rfl))) (mvT hZ (hw _ (List.mem_of_getElem? (i := 2) rfl))) (mvT hZ (hw _ (List.mem_of_getElem? (i := 3) rfl))) (mvT hZ (hw _ (List.mem_of_getElem? (i := 4) rfl))) (by decide) (backOf (W := 0) (rm1 l Z a0 hw v7  h0 n0 Z0 ) hZ (hw _ (List.mem_of_getElem? (i := 4) rfl)) (hw _ (List.mem_of_getElem? (i := 3) rfl)) (by decide) (by decide)) (g := (mkF m 75 #[.val (.int p1), .val (.int p2), .val (.int (-1 : Int32)), .val (.int v5), .val (.int v7), .val (.int v8)] [(.int v7)])) rfl (by rw [hml]; rfl) (argsL := [(.int v7)]) (rest := []) (lenOf pd_0 rfl) rfl (by show 2 * 0 + _ ≤ _; exact Nat.le_of_eq rfl) (hb hby at_75) (fun _ _ => ⟨rfl, e6, (by decide : 0 + 0 + 0 + 0 ≤ _), (by decide : 0 + 0 + 0 + 0 ≤ _)⟩)
    dsimp only [Pt.U, Pt.locs, Pt.cells, Pt.slots] at X9 l9 y9 z9 st9 hQ9
    subst l9 y9 z9
    obtain ⟨rfl, Nq9, e9⟩ := hQ9
    have N9 := Fr.app N6 Nq9
    refine Gl.st (g' := (mkF m 78 #[.val (.int p1), .val (.int p2), .val (.int (-1 : Int32)), .val (.int v5), .val (.int v7), .val (.int v8)] [(.int (own_u v7))])) st9 ?_
    refine Gl.st (g' := (mkF m 79 #[.val (.int p1), .val (.int p2), .val (.int (-1 : Int32)), .val (.int v5), .val (.int v7), .val (.int v8)] [(.int (-1 : Int32)), (.int (own_u v7))])) (fun t k => XT.iconstV X9.here hx rfl (-1 : Int32) (hb hby at_78) rfl k) ?_
    refine Gl.st (g' := (mkF m 82 #[.val (.int p1), .val (.int p2), .val (.int (-1 : Int32)), .val (.int v5), .val (.int v7), .val (.int v8)] [])) (fun t k => XS.icmpNo X9.here hx rfl (hb hby at_79) rfl (XT.ii_ne_f (own_f5 hv7)) k) ?_
    refine Gl.st (g' := (mkF m 84 #[.val (.int p1), .val (.int p2), .val (.int (-1 : Int32)), .val (.int v5), .val (.int v7), .val (.int v8)] [(.int v8)])) (fun t k => XS.iload X9.here hx rfl (hb hby at_82) rfl k) ?_
    obtain ⟨_, _, ⟨T10, L10, k10, n10⟩, -, X10, ⟨Lc10, hQ10, l10, y10, z10⟩, st10⟩ := Jvm.LawKit.callS X9 hx (y := (⟨"com/example/labelsmith/labelsmith/cli/LineReader", "undecodableByte", "(I)I"⟩ : MethodName)) hown (mvT hZ (hw _ (List.mem_of_getElem? (i := 1) rfl))) (mvT hZ (hw _ (List.mem_of_getElem? (i := 2) rfl))) (mvT hZ (hw _ (List.mem_of_getElem? (i := 3) rfl))) (mvT hZ (hw _ (List.mem_of_getElem? (i := 4) rfl))) (by decide) (backOf (W := 0) (rm1 l Z a0 hw v8  h0 n0 Z0 ) hZ (hw _ (List.mem_of_getElem? (i := 4) rfl)) (hw _ (List.mem_of_getElem? (i := 3) rfl)) (by decide) (by decide)) (g := (mkF m 84 #[.val (.int p1), .val (.int p2), .val (.int (-1 : Int32)), .val (.int v5), .val (.int v7), .val (.int v8)] [(.int v8)])) rfl (by rw [hml]; rfl) (argsL := [(.int v8)]) (rest := []) (lenOf pd_0 rfl) rfl (by show 2 * 0 + _ ≤ _; exact Nat.le_of_eq rfl) (hb hby at_84) (fun _ _ => ⟨rfl, e9, (by decide : 0 + 0 + 0 + 0 + 0 ≤ _), (by decide : 0 + 0 + 0 + 0 + 0 ≤ _)⟩)
    dsimp only [Pt.U, Pt.locs, Pt.cells, Pt.slots] at X10 l10 y10 z10 st10 hQ10
    subst l10 y10 z10
    obtain ⟨rfl, Nq10, e10⟩ := hQ10
    have N10 := Fr.app N9 Nq10
    refine Gl.st (g' := (mkF m 87 #[.val (.int p1), .val (.int p2), .val (.int (-1 : Int32)), .val (.int v5), .val (.int v7), .val (.int v8)] [(.int (own_u v8))])) st10 ?_
    refine Gl.st (g' := (mkF m 88 #[.val (.int p1), .val (.int p2), .val (.int (-1 : Int32)), .val (.int v5), .val (.int v7), .val (.int v8)] [(.int (-1 : Int32)), (.int (own_u v8))])) (fun t k => XT.iconstV X10.here hx rfl (-1 : Int32) (hb hby at_87) rfl k) ?_
    refine Gl.st (g' := (mkF m 91 #[.val (.int p1), .val (.int p2), .val (.int (-1 : Int32)), .val (.int v5), .val (.int v7), .val (.int v8)] [])) (fun t k => XS.icmpNo X10.here hx rfl (hb hby at_88) rfl (XT.ii_ne_f (own_f6 hv8)) k) ?_
    refine Gl.st (g' := (mkF m 92 #[.val (.int p1), .val (.int p2), .val (.int (-1 : Int32)), .val (.int v5), .val (.int v7), .val (.int v8)] [(.int (1 : Int32))])) (fun t k => XT.iconstV X10.here hx rfl (1 : Int32) (hb hby at_91) rfl k) ?_
    refine Gl.st (g' := (mkF m 96 #[.val (.int p1), .val (.int p2), .val (.int (-1 : Int32)), .val (.int v5), .val (.int v7), .val (.int v8)] [(.int (1 : Int32))])) (fun t k => XS.goto X10.here hx rfl (pc0 := 92) (pc' := 96) rfl (hb hby at_92) (by decide) (by decide) k) ?_
    refine Gl.retZ X10 hx hlk .boolean (by simp) Bd.returns (hb hby at_96) e10 (by decide) (by decide) ?_
    rw [Q0, own_z1]
    exact ⟨rfl, N10⟩
  · skip
    refine Gl.st (g' := (mkF m 6 #[.val (.int p1), .val (.int p2), .unset, .unset, .unset, .unset] [])) (fun t k => XS.icmpNo X0.here hx rfl (hb hby at_3) rfl (XT.ii_lt_f c3) k) ?_
    refine Gl.st (g' := (mkF m 7 #[.val (.int p1), .val (.int p2), .unset, .unset, .unset, .unset] [(.int p1)])) (fun t k => XS.iloadN X0.here hx rfl (hb hby at_6) rfl k) ?_
    refine Gl.st (g' := (mkF m 9 #[.val (.int p1), .val (.int p2), .unset, .unset, .unset, .unset] [(.int (56575 : Int32)), (.int p1)])) (fun t k => X0.ldcI hx hown (mvT hZ (hw _ (List.mem_of_getElem? (i := 9) rfl))) rfl (hb hby at_7) k) ?_
    by_cases c11 : (56575 : Int32) < p1
    · skip
      refine Gl.st (g' := (mkF m 19 #[.val (.int p1), .val (.int p2), .unset, .unset, .unset, .unset] [])) (fun t k => XS.icmpYes X0.here hx rfl (pc0 := 9) (pc' := 19) rfl (hb hby at_9) rfl (XT.ii_gt_t c11) (by decide) (by decide) k) ?_
      refine Gl.st (g' := (mkF m 20 #[.val (.int p1), .val (.int p2), .unset, .unset, .unset, .unset] [(.int (-1 : Int32))])) (fun t k => XT.iconstV X0.here hx rfl (-1 : Int32) (hb hby at_19) rfl k) ?_
      refine Gl.st (g' := (mkF m 21 #[.val (.int p1), .val (.int p2), .val (.int (-1 : Int32)), .unset, .unset, .unset] [])) (fun t k => XS.istoreN X0.here hx rfl (hb hby at_20) rfl (l' := #[.val (.int p1), .val (.int p2), .val (.int (-1 : Int32)), .unset, .unset, .unset]) rfl k) ?_
      refine Gl.st (g' := (mkF m 22 #[.val (.int p1), .val (.int p2), .val (.int (-1 : Int32)), .unset, .unset, .unset] [(.int p1)])) (fun t k => XS.iloadN X0.here hx rfl (hb hby at_21) rfl k) ?_
      obtain ⟨_, _, ⟨T12, L12, k12, n12⟩, -, X12, ⟨Lc12, hQ12, l12, y12, z12⟩, st12⟩ := Jvm.LawKit.callS X0 hx (y := (⟨"com/example/labelsmith/labelsmith/cli/LineReader", "undecodableByte", "(I)I"⟩ : MethodName)) hown (mvT hZ (hw _ (List.mem_of_getElem? (i := 1) rfl))) (mvT hZ (hw _ (List.mem_of_getElem? (i := 2) rfl))) (mvT hZ (hw _ (List.mem_of_getElem? (i := 3) rfl))) (mvT hZ (hw _ (List.mem_of_getElem? (i := 4) rfl))) (by decide) (backOf (W := 0) (rm1 l Z a0 hw p1  h0 n0 Z0 ) hZ (hw _ (List.mem_of_getElem? (i := 4) rfl)) (hw _ (List.mem_of_getElem? (i := 3) rfl)) (by decide) (by decide)) (g := (mkF m 22 #[.val (.int p1), .val (.int p2), .val (.int (-1 : Int32)), .unset, .unset, .unset] [(.int p1)])) rfl (by rw [hml]; rfl) (argsL := [(.int p1)]) (rest := []) (lenOf pd_0 rfl) rfl (by show 2 * 0 + _ ≤ _; exact Nat.le_of_eq rfl) (hb hby at_22) (fun _ _ => ⟨rfl, e0, (by decide : 0 + 0 ≤ _), (by decide : 0 + 0 ≤ _)⟩)
      dsimp only [Pt.U, Pt.locs, Pt.cells, Pt.slots] at X12 l12 y12 z12 st12 hQ12
      subst l12 y12 z12
      obtain ⟨rfl, Nq12, e12⟩ := hQ12
      have N12 := Fr.app N0 Nq12
      refine Gl.st (g' := (mkF m 25 #[.val (.int p1), .val (.int p2), .val (.int (-1 : Int32)), .unset, .unset, .unset] [(.int (own_u p1))])) st12 ?_
      refine Gl.st (g' := (mkF m 26 #[.val (.int p1), .val (.int p2), .val (.int (-1 : Int32)), .unset, .unset, .unset] [(.int (-1 : Int32)), (.int (own_u p1))])) (fun t k => XS.iloadN X12.here hx rfl (hb hby at_25) rfl k) ?_
      refine Gl.st (g' := (mkF m 31 #[.val (.int p1), .val (.int p2), .val (.int (-1 : Int32)), .unset, .unset, .unset] [])) (fun t k => XS.icmpYes X12.here hx rfl (pc0 := 26) (pc' := 31) rfl (hb hby at_26) rfl (XT.ii_eq_t (own_f2 c11)) (by decide) (by decide) k) ?_
      refine Gl.st (g' := (mkF m 34 #[.val (.int p1), .val (.int p2), .val (.int (-1 : Int32)), .unset, .unset, .unset] [(.int (128 : Int32))])) (fun t k => XT.sipushV X12.here hx rfl (128 : Int32) (hb hby at_31) rfl k) ?_
      refine Gl.st (g' := (mkF m 35 #[.val (.int p1), .val (.int p2), .val (.int (-1 : Int32)), .unset, .unset, .unset] [(.int p2), (.int (128 : Int32))])) (fun t k => XS.iloadN X12.here hx rfl (hb hby at_34) rfl k) ?_
      refine Gl.st (g' := (mkF m 37 #[.val (.int p1), .val (.int p2), .val (.int (-1 : Int32)), .unset, .unset, .unset] [(.int (127 : Int32)), (.int p2), (.int (128 : Int32))])) (fun t k => XT.bipushV X12.here hx rfl (127 : Int32) (hb hby at_35) rfl k) ?_
      refine Gl.st (g' := (mkF m 38 #[.val (.int p1), .val (.int p2), .val (.int (-1 : Int32)), .unset, .unset, .unset] [(.int (p2 &&& (127 : Int32))), (.int (128 : Int32))])) (fun t k => XS.iand X12.here hx rfl (hb hby at_37) rfl k) ?_
      refine Gl.st (g' := (mkF m 39 #[.val (.int p1), .val (.int p2), .val (.int (-1 : Int32)), .unset, .unset, .unset] [(.int ((128 : Int32) ||| (p2 &&& (127 : Int32))))])) (fun t k => XS.ior X12.here hx rfl (hb hby at_38) rfl k) ?_
      generalize hv13 : ((128 : Int32) ||| (p2 &&& (127 : Int32))) = v13
      refine Gl.st (g' := (mkF m 40 #[.val (.int p1), .val (.int p2), .val (.int (-1 : Int32)), .val (.int v13), .unset, .unset] [])) (fun t k => XS.istoreN X12.here hx rfl (hb hby at_39) rfl (l' := #[.val (.int p1), .val (.int p2), .val (.int (-1 : Int32)), .val (.int v13), .unset, .unset]) rfl k) ?_
      refine Gl.st (g' := (mkF m 42 #[.val (.int p1), .val (.int p2), .val (.int (-1 : Int32)), .val (.int v13), .unset, .unset] [(.int (56320 : Int32))])) (fun t k => X12.ldcI hx hown (mvT hZ (hw _ (List.mem_of_getElem? (i := 6) rfl))) rfl (hb hby at_40) k) ?_
      refine Gl.st (g' := (mkF m 43 #[.val (.int p1), .val (.int p2), .val (.int (-1 : Int32)), .val (.int v13), .unset, .unset] [(.int v13), (.int (56320 : Int32))])) (fun t k => XS.iloadN X12.here hx rfl (hb hby at_42) rfl k) ?_
      refine Gl.st (g' := (mkF m 44 #[.val (.int p1), .val (.int p2), .val (.int (-1 : Int32)), .val (.int v13), .unset, .unset] [(.int ((56320 : Int32) + v13))])) (fun t k => XS.iadd X12.here hx rfl (hb hby at_43) rfl k) ?_
      obtain ⟨_, _, ⟨T14, L14, k14, n14⟩, -, X14, ⟨Lc14, hQ14, l14, y14, z14⟩, st14⟩ := Jvm.LawKit.callS X12 hx (y := (⟨"com/example/labelsmith/labelsmith/cli/LineReader", "undecodableByte", "(I)I"⟩ : MethodName)) hown (mvT hZ (hw _ (List.mem_of_getElem? (i := 1) rfl))) (mvT hZ (hw _ (List.mem_of_getElem? (i := 2) rfl))) (mvT hZ (hw _ (List.mem_of_getElem? (i := 3) rfl))) (mvT hZ (hw _ (List.mem_of_getElem? (i := 4) rfl))) (by decide) (backOf (W := 0) (rm1 l Z a0 hw ((56320 : Int32) + v13)  h0 n0 Z0 ) hZ (hw _ (List.mem_of_getElem? (i := 4) rfl)) (hw _ (List.mem_of_getElem? (i := 3) rfl)) (by decide) (by decide)) (g := (mkF m 44 #[.val (.int p1), .val (.int p2), .val (.int (-1 : Int32)), .val (.int v13), .unset, .unset] [(.int ((56320 : Int32) + v13))])) rfl (by rw [hml]; rfl) (argsL := [(.int ((56320 : Int32) + v13))]) (rest := []) (lenOf pd_0 rfl) rfl (by show 2 * 0 + _ ≤ _; exact Nat.le_of_eq rfl) (hb hby at_44) (fun _ _ => ⟨rfl, e12, (by decide : 0 + 0 + 0 ≤ _), (by decide : 0 + 0 + 0 ≤ _)⟩)
      dsimp only [Pt.U, Pt.locs, Pt.cells, Pt.slots] at X14 l14 y14 z14 st14 hQ14
      subst l14 y14 z14
      obtain ⟨rfl, Nq14, e14⟩ := hQ14
      have N14 := Fr.app N12 Nq14
      refine Gl.st (g' := (mkF m 47 #[.val (.int p1), .val (.int p2), .val (.int (-1 : Int32)), .val (.int v13), .unset, .unset] [(.int (own_u ((56320 : Int32) + v13)))])) st14 ?_
      refine Gl.st (g' := (mkF m 48 #[.val (.int p1), .val (.int p2), .val (.int (-1 : Int32)), .val (.int v13), .unset, .unset] [(.int v13), (.int (own_u ((56320 : Int32) + v13)))])) (fun t k => XS.iloadN X14.here hx rfl (hb hby at_47) rfl k) ?_
      refine Gl.st (g' := (mkF m 53 #[.val (.int p1), .val (.int p2), .val (.int (-1 : Int32)), .val (.int v13), .unset, .unset] [])) (fun t k => XS.icmpYes X14.here hx rfl (pc0 := 48) (pc' := 53) rfl (hb hby at_48) rfl (XT.ii_eq_t (own_f4 hv13)) (by decide) (by decide) k) ?_
      refine Gl.st (g' := (mkF m 55 #[.val (.int p1), .val (.int p2), .val (.int (-1 : Int32)), .val (.int v13), .unset, .unset] [(.int (56447 : Int32))])) (fun t k => X14.ldcI hx hown (mvT hZ (hw _ (List.mem_of_getElem? (i := 7) rfl))) rfl (hb hby at_53) k) ?_
      refine Gl.st (g' := (mkF m 56 #[.val (.int p1), .val (.int p2), .val (.int (-1 : Int32)), .val (.int v13), .unset, .unset] [(.int p2), (.int (56447 : Int32))])) (fun t k => XS.iloadN X14.here hx rfl (hb hby at_55) rfl k) ?_
      refine Gl.st (g' := (mkF m 59 #[.val (.int p1), .val (.int p2), .val (.int (-1 : Int32)), .val (.int v13), .unset, .unset] [(.int (255 : Int32)), (.int p2), (.int (56447 : Int32))])) (fun t k => XT.sipushV X14.here hx rfl (255 : Int32) (hb hby at_56) rfl k) ?_
      refine Gl.st (g' := (mkF m 60 #[.val (.int p1), .val (.int p2), .val (.int (-1 : Int32)), .val (.int v13), .unset, .unset] [(.int (p2 &&& (255 : Int32))), (.int (56447 : Int32))])) (fun t k => XS.iand X14.here hx rfl (hb hby at_59) rfl k) ?_
      refine Gl.st (g' := (mkF m 61 #[.val (.int p1), .val (.int p2), .val (.int (-1 : Int32)), .val (.int v13), .unset, .unset] [(.int ((56447 : Int32) - (p2 &&& (255 : Int32))))])) (fun t k => XS.isub X14.here hx rfl (hb hby at_60) rfl k) ?_
      generalize hv15 : ((56447 : Int32) - (p2 &&& (255 : Int32))) = v15
      refine Gl.st (g' := (mkF m 63 #[.val (.int p1), .val (.int p2), .val (.int (-1 : Int32)), .val (.int v13), .val (.int v15), .unset] [])) (fun t k => XS.istore X14.here hx rfl (hb hby at_61) rfl (l' := #[.val (.int p1), .val (.int p2), .val (.int (-1 : Int32)), .val (.int v13), .val (.int v15), .unset]) rfl k) ?_
      refine Gl.st (g' := (mkF m 65 #[.val (.int p1), .val (.int p2), .val (.int (-1 : Int32)), .val (.int v13), .val (.int v15), .unset] [(.int (56576 : Int32))])) (fun t k => X14.ldcI hx hown (mvT hZ (hw _ (List.mem_of_getElem? (i := 8) rfl))) rfl (hb hby at_63) k) ?_
      refine Gl.st (g' := (mkF m 66 #[.val (.int p1), .val (.int p2), .val (.int (-1 : Int32)), .val (.int v13), .val (.int v15), .unset] [(.int p2), (.int (56576 : Int32))])) (fun t k => XS.iloadN X14.here hx rfl (hb hby at_65) rfl k) ?_
      refine Gl.st (g' := (mkF m 69 #[.val (.int p1), .val (.int p2), .val (.int (-1 : Int32)), .val (.int v13), .val (.int v15), .unset] [(.int (255 : Int32)), (.int p2), (.int (56576 : Int32))])) (fun t k => XT.sipushV X14.here hx rfl (255 : Int32) (hb hby at_66) rfl k) ?_
      refine Gl.st (g' := (mkF m 70 #[.val (.int p1), .val (.int p2), .val (.int (-1 : Int32)), .val (.int v13), .val (.int v15), .unset] [(.int (p2 &&& (255 : Int32))), (.int (56576 : Int32))])) (fun t k => XS.iand X14.here hx rfl (hb hby at_69) rfl k) ?_
      refine Gl.st (g' := (mkF m 71 #[.val (.int p1), .val (.int p2), .val (.int (-1 : Int32)), .val (.int v13), .val (.int v15), .unset] [(.int ((56576 : Int32) + (p2 &&& (255 : Int32))))])) (fun t k => XS.iadd X14.here hx rfl (hb hby at_70) rfl k) ?_
      generalize hv16 : ((56576 : Int32) + (p2 &&& (255 : Int32))) = v16
      refine Gl.st (g' := (mkF m 73 #[.val (.int p1), .val (.int p2), .val (.int (-1 : Int32)), .val (.int v13), .val (.int v15), .val (.int v16)] [])) (fun t k => XS.istore X14.here hx rfl (hb hby at_71) rfl (l' := #[.val (.int p1), .val (.int p2), .val (.int (-1 : Int32)), .val (.int v13), .val (.int v15), .val (.int v16)]) rfl k) ?_
      refine Gl.st (g' := (mkF m 75 #[.val (.int p1), .val (.int p2), .val (.int (-1 : Int32)), .val (.int v13), .val (.int v15), .val (.int v16)] [(.int v15)])) (fun t k => XS.iload X14.here hx rfl (hb hby at_73) rfl k) ?_
      obtain ⟨_, _, ⟨T17, L17, k17, n17⟩, -, X17, ⟨Lc17, hQ17, l17, y17, z17⟩, st17⟩ := Jvm.LawKit.callS X14 hx (y := (⟨"com/example/labelsmith/labelsmith/cli/LineReader", "undecodableByte", "(I)I"⟩ : MethodName)) hown (mvT hZ (hw _ (List.mem_of_getElem? (i := 1) rfl))) (mvT hZ (hw _ (List.mem_of_getElem? (i := 2) rfl))) (mvT hZ (hw _ (List.mem_of_getElem? (i := 3) rfl))) (mvT hZ (hw _ (List.mem_of_getElem? (i := 4) rfl))) (by decide) (backOf (W := 0) (rm1 l Z a0 hw v15  h0 n0 Z0 ) hZ (hw _ (List.mem_of_getElem? (i := 4) rfl)) (hw _ (List.mem_of_getElem? (i := 3) rfl)) (by decide) (by decide)) (g := (mkF m 75 #[.val (.int p1), .val (.int p2), .val (.int (-1 : Int32)), .val (.int v13), .val (.int v15), .val (.int v16)] [(.int v15)])) rfl (by rw [hml]; rfl) (argsL := [(.int v15)]) (rest := []) (lenOf pd_0 rfl) rfl (by show 2 * 0 + _ ≤ _; exact Nat.le_of_eq rfl) (hb hby at_75) (fun _ _ => ⟨rfl, e14, (by decide : 0 + 0 + 0 + 0 ≤ _), (by decide : 0 + 0 + 0 + 0 ≤ _)⟩)
      dsimp only [Pt.U, Pt.locs, Pt.cells, Pt.slots] at X17 l17 y17 z17 st17 hQ17
      subst l17 y17 z17
      obtain ⟨rfl, Nq17, e17⟩ := hQ17
      have N17 := Fr.app N14 Nq17
      refine Gl.st (g' := (mkF m 78 #[.val (.int p1), .val (.int p2), .val (.int (-1 : Int32)), .val (.int v13), .val (.int v15), .val (.int v16)] [(.int (own_u v15))])) st17 ?_
      refine Gl.st (g' := (mkF m 79 #[.val (.int p1), .val (.int p2), .val (.int (-1 : Int32)), .val (.int v13), .val (.int v15), .val (.int v16)] [(.int (-1 : Int32)), (.int (own_u v15))])) (fun t k => XT.iconstV X17.here hx rfl (-1 : Int32) (hb hby at_78) rfl k) ?_
      refine Gl.st (g' := (mkF m 82 #[.val (.int p1), .val (.int p2), .val (.int (-1 : Int32)), .val (.int v13), .val (.int v15), .val (.int v16)] [])) (fun t k => XS.icmpNo X17.here hx rfl (hb hby at_79) rfl (XT.ii_ne_f (own_f5 hv15)) k) ?_
      refine Gl.st (g' := (mkF m 84 #[.val (.int p1), .val (.int p2), .val (.int (-1 : Int32)), .val (.int v13), .val (.int v15), .val (.int v16)] [(.int v16)])) (fun t k => XS.iload X17.here hx rfl (hb hby at_82) rfl k) ?_
      obtain ⟨_, _, ⟨T18, L18, k18, n18⟩, -, X18, ⟨Lc18, hQ18, l18, y18, z18⟩, st18⟩ := Jvm.LawKit.callS X17 hx (y := (⟨"com/example/labelsmith/labelsmith/cli/LineReader", "undecodableByte", "(I)I"⟩ : MethodName)) hown (mvT hZ (hw _ (List.mem_of_getElem? (i := 1) rfl))) (mvT hZ (hw _ (List.mem_of_getElem? (i := 2) rfl))) (mvT hZ (hw _ (List.mem_of_getElem? (i := 3) rfl))) (mvT hZ (hw _ (List.mem_of_getElem? (i := 4) rfl))) (by decide) (backOf (W := 0) (rm1 l Z a0 hw v16  h0 n0 Z0 ) hZ (hw _ (List.mem_of_getElem? (i := 4) rfl)) (hw _ (List.mem_of_getElem? (i := 3) rfl)) (by decide) (by decide)) (g := (mkF m 84 #[.val (.int p1), .val (.int p2), .val (.int (-1 : Int32)), .val (.int v13), .val (.int v15), .val (.int v16)] [(.int v16)])) rfl (by rw [hml]; rfl) (argsL := [(.int v16)]) (rest := []) (lenOf pd_0 rfl) rfl (by show 2 * 0 + _ ≤ _; exact Nat.le_of_eq rfl) (hb hby at_84) (fun _ _ => ⟨rfl, e17, (by decide : 0 + 0 + 0 + 0 + 0 ≤ _), (by decide : 0 + 0 + 0 + 0 + 0 ≤ _)⟩)
      dsimp only [Pt.U, Pt.locs, Pt.cells, Pt.slots] at X18 l18 y18 z18 st18 hQ18
      subst l18 y18 z18
      obtain ⟨rfl, Nq18, e18⟩ := hQ18
      have N18 := Fr.app N17 Nq18
      refine Gl.st (g' := (mkF m 87 #[.val (.int p1), .val (.int p2), .val (.int (-1 : Int32)), .val (.int v13), .val (.int v15), .val (.int v16)] [(.int (own_u v16))])) st18 ?_
      refine Gl.st (g' := (mkF m 88 #[.val (.int p1), .val (.int p2), .val (.int (-1 : Int32)), .val (.int v13), .val (.int v15), .val (.int v16)] [(.int (-1 : Int32)), (.int (own_u v16))])) (fun t k => XT.iconstV X18.here hx rfl (-1 : Int32) (hb hby at_87) rfl k) ?_
      refine Gl.st (g' := (mkF m 91 #[.val (.int p1), .val (.int p2), .val (.int (-1 : Int32)), .val (.int v13), .val (.int v15), .val (.int v16)] [])) (fun t k => XS.icmpNo X18.here hx rfl (hb hby at_88) rfl (XT.ii_ne_f (own_f6 hv16)) k) ?_
      refine Gl.st (g' := (mkF m 92 #[.val (.int p1), .val (.int p2), .val (.int (-1 : Int32)), .val (.int v13), .val (.int v15), .val (.int v16)] [(.int (1 : Int32))])) (fun t k => XT.iconstV X18.here hx rfl (1 : Int32) (hb hby at_91) rfl k) ?_
      refine Gl.st (g' := (mkF m 96 #[.val (.int p1), .val (.int p2), .val (.int (-1 : Int32)), .val (.int v13), .val (.int v15), .val (.int v16)] [(.int (1 : Int32))])) (fun t k => XS.goto X18.here hx rfl (pc0 := 92) (pc' := 96) rfl (hb hby at_92) (by decide) (by decide) k) ?_
      refine Gl.retZ X18 hx hlk .boolean (by simp) Bd.returns (hb hby at_96) e18 (by decide) (by decide) ?_
      rw [Q0, own_z1]
      exact ⟨rfl, N18⟩
    · skip
      refine Gl.st (g' := (mkF m 12 #[.val (.int p1), .val (.int p2), .unset, .unset, .unset, .unset] [])) (fun t k => XS.icmpNo X0.here hx rfl (hb hby at_9) rfl (XT.ii_gt_f c11) k) ?_
      refine Gl.st (g' := (mkF m 13 #[.val (.int p1), .val (.int p2), .unset, .unset, .unset, .unset] [(.int p1)])) (fun t k => XS.iloadN X0.here hx rfl (hb hby at_12) rfl k) ?_
      refine Gl.st (g' := (mkF m 15 #[.val (.int p1), .val (.int p2), .unset, .unset, .unset, .unset] [(.int (56320 : Int32)), (.int p1)])) (fun t k => X0.ldcI hx hown (mvT hZ (hw _ (List.mem_of_getElem? (i := 6) rfl))) rfl (hb hby at_13) k) ?_
      refine Gl.st (g' := (mkF m 16 #[.val (.int p1), .val (.int p2), .unset, .unset, .unset, .unset] [(.int (p1 - (56320 : Int32)))])) (fun t k => XS.isub X0.here hx rfl (hb hby at_15) rfl k) ?_
      refine Gl.st (g' := (mkF m 20 #[.val (.int p1), .val (.int p2), .unset, .unset, .unset, .unset] [(.int (p1 - (56320 : Int32)))])) (fun t k => XS.goto X0.here hx rfl (pc0 := 16) (pc' := 20) rfl (hb hby at_16) (by decide) (by decide) k) ?_
      generalize hv19 : (p1 - (56320 : Int32)) = v19
      refine Gl.st (g' := (mkF m 21 #[.val (.int p1), .val (.int p2), .val (.int v19), .unset, .unset, .unset] [])) (fun t k => XS.istoreN X0.here hx rfl (hb hby at_20) rfl (l' := #[.val (.int p1), .val (.int p2), .val (.int v19), .unset, .unset, .unset]) rfl k) ?_
      refine Gl.st (g' := (mkF m 22 #[.val (.int p1), .val (.int p2), .val (.int v19), .unset, .unset, .unset] [(.int p1)])) (fun t k => XS.iloadN X0.here hx rfl (hb hby at_21) rfl k) ?_
      obtain ⟨_, _, ⟨T20, L20, k20, n20⟩, -, X20, ⟨Lc20, hQ20, l20, y20, z20⟩, st20⟩ := Jvm.LawKit.callS X0 hx (y := (⟨"com/example/labelsmith/labelsmith/cli/LineReader", "undecodableByte", "(I)I"⟩ : MethodName)) hown (mvT hZ (hw _ (List.mem_of_getElem? (i := 1) rfl))) (mvT hZ (hw _ (List.mem_of_getElem? (i := 2) rfl))) (mvT hZ (hw _ (List.mem_of_getElem? (i := 3) rfl))) (mvT hZ (hw _ (List.mem_of_getElem? (i := 4) rfl))) (by decide) (backOf (W := 0) (rm1 l Z a0 hw p1  h0 n0 Z0 ) hZ (hw _ (List.mem_of_getElem? (i := 4) rfl)) (hw _ (List.mem_of_getElem? (i := 3) rfl)) (by decide) (by decide)) (g := (mkF m 22 #[.val (.int p1), .val (.int p2), .val (.int v19), .unset, .unset, .unset] [(.int p1)])) rfl (by rw [hml]; rfl) (argsL := [(.int p1)]) (rest := []) (lenOf pd_0 rfl) rfl (by show 2 * 0 + _ ≤ _; exact Nat.le_of_eq rfl) (hb hby at_22) (fun _ _ => ⟨rfl, e0, (by decide : 0 + 0 ≤ _), (by decide : 0 + 0 ≤ _)⟩)
      dsimp only [Pt.U, Pt.locs, Pt.cells, Pt.slots] at X20 l20 y20 z20 st20 hQ20
      subst l20 y20 z20
      obtain ⟨rfl, Nq20, e20⟩ := hQ20
      have N20 := Fr.app N0 Nq20
      refine Gl.st (g' := (mkF m 25 #[.val (.int p1), .val (.int p2), .val (.int v19), .unset, .unset, .unset] [(.int (own_u p1))])) st20 ?_
      refine Gl.st (g' := (mkF m 26 #[.val (.int p1), .val (.int p2), .val (.int v19), .unset, .unset, .unset] [(.int v19), (.int (own_u p1))])) (fun t k => XS.iloadN X20.here hx rfl (hb hby at_25) rfl k) ?_
      refine Gl.st (g' := (mkF m 31 #[.val (.int p1), .val (.int p2), .val (.int v19), .unset, .unset, .unset] [])) (fun t k => XS.icmpYes X20.here hx rfl (pc0 := 26) (pc' := 31) rfl (hb hby at_26) rfl (XT.ii_eq_t (own_f3 c3 c11 hv19)) (by decide) (by decide) k) ?_
      refine Gl.st (g' := (mkF m 34 #[.val (.int p1), .val (.int p2), .val (.int v19), .unset, .unset, .unset] [(.int (128 : Int32))])) (fun t k => XT.sipushV X20.here hx rfl (128 : Int32) (hb hby at_31) rfl k) ?_
      refine Gl.st (g' := (mkF m 35 #[.val (.int p1), .val (.int p2), .val (.int v19), .unset, .unset, .unset] [(.int p2), (.int (128 : Int32))])) (fun t k => XS.iloadN X20.here hx rfl (hb hby at_34) rfl k) ?_
      refine Gl.st (g' := (mkF m 37 #[.val (.int p1), .val (.int p2), .val (.int v19), .unset, .unset, .unset] [(.int (127 : Int32)), (.int p2), (.int (128 : Int32))])) (fun t k => XT.bipushV X20.here hx rfl (127 : Int32) (hb hby at_35) rfl k) ?_
      refine Gl.st (g' := (mkF m 38 #[.val (.int p1), .val (.int p2), .val (.int v19), .unset, .unset, .unset] [(.int (p2 &&& (127 : Int32))), (.int (128 : Int32))])) (fun t k => XS.iand X20.here hx rfl (hb hby at_37) rfl k) ?_
      refine Gl.st (g' := (mkF m 39 #[.val (.int p1), .val (.int p2), .val (.int v19), .unset, .unset, .unset] [(.int ((128 : Int32) ||| (p2 &&& (127 : Int32))))])) (fun t k => XS.ior X20.here hx rfl (hb hby at_38) rfl k) ?_
      generalize hv21 : ((128 : Int32) ||| (p2 &&& (127 : Int32))) = v21
      refine Gl.st (g' := (mkF m 40 #[.val (.int p1), .val (.int p2), .val (.int v19), .val (.int v21), .unset, .unset] [])) (fun t k => XS.istoreN X20.here hx rfl (hb hby at_39) rfl (l' := #[.val (.int p1), .val (.int p2), .val (.int v19), .val (.int v21), .unset, .unset]) rfl k) ?_
      refine Gl.st (g' := (mkF m 42 #[.val (.int p1), .val (.int p2), .val (.int v19), .val (.int v21), .unset, .unset] [(.int (56320 : Int32))])) (fun t k => X20.ldcI hx hown (mvT hZ (hw _ (List.mem_of_getElem? (i := 6) rfl))) rfl (hb hby at_40) k) ?_
      refine Gl.st (g' := (mkF m 43 #[.val (.int p1), .val (.int p2), .val (.int v19), .val (.int v21), .unset, .unset] [(.int v21), (.int (56320 : Int32))])) (fun t k => XS.iloadN X20.here hx rfl (hb hby at_42) rfl k) ?_
      refine Gl.st (g' := (mkF m 44 #[.val (.int p1), .val (.int p2), .val (.int v19), .val (.int v21), .unset, .unset] [(.int ((56320 : Int32) + v21))])) (fun t k => XS.iadd X20.here hx rfl (hb hby at_43) rfl k) ?_
      obtain ⟨_, _, ⟨T22, L22, k22, n22⟩, -, X22, ⟨Lc22, hQ22, l22, y22, z22⟩, st22⟩ := Jvm.LawKit.callS X20 hx (y := (⟨"com/example/labelsmith/labelsmith/cli/LineReader", "undecodableByte", "(I)I"⟩ : MethodName)) hown (mvT hZ (hw _ (List.mem_of_getElem? (i := 1) rfl))) (mvT hZ (hw _ (List.mem_of_getElem? (i := 2) rfl))) (mvT hZ (hw _ (List.mem_of_getElem? (i := 3) rfl))) (mvT hZ (hw _ (List.mem_of_getElem? (i := 4) rfl))) (by decide) (backOf (W := 0) (rm1 l Z a0 hw ((56320 : Int32) + v21)  h0 n0 Z0 ) hZ (hw _ (List.mem_of_getElem? (i := 4) rfl)) (hw _ (List.mem_of_getElem? (i := 3) rfl)) (by decide) (by decide)) (g := (mkF m 44 #[.val (.int p1), .val (.int p2), .val (.int v19), .val (.int v21), .unset, .unset] [(.int ((56320 : Int32) + v21))])) rfl (by rw [hml]; rfl) (argsL := [(.int ((56320 : Int32) + v21))]) (rest := []) (lenOf pd_0 rfl) rfl (by show 2 * 0 + _ ≤ _; exact Nat.le_of_eq rfl) (hb hby at_44) (fun _ _ => ⟨rfl, e20, (by decide : 0 + 0 + 0 ≤ _), (by decide : 0 + 0 + 0 ≤ _)⟩)
      dsimp only [Pt.U, Pt.locs, Pt.cells, Pt.slots] at X22 l22 y22 z22 st22 hQ22
      subst l22 y22 z22
      obtain ⟨rfl, Nq22, e22⟩ := hQ22
      have N22 := Fr.app N20 Nq22
      refine Gl.st (g' := (mkF m 47 #[.val (.int p1), .val (.int p2), .val (.int v19), .val (.int v21), .unset, .unset] [(.int (own_u ((56320 : Int32) + v21)))])) st22 ?_
      refine Gl.st (g' := (mkF m 48 #[.val (.int p1), .val (.int p2), .val (.int v19), .val (.int v21), .unset, .unset] [(.int v21), (.int (own_u ((56320 : Int32) + v21)))])) (fun t k => XS.iloadN X22.here hx rfl (hb hby at_47) rfl k) ?_
      refine Gl.st (g' := (mkF m 53 #[.val (.int p1), .val (.int p2), .val (.int v19), .val (.int v21), .unset, .unset] [])) (fun t k => XS.icmpYes X22.here hx rfl (pc0 := 48) (pc' := 53) rfl (hb hby at_48) rfl (XT.ii_eq_t (own_f4 hv21)) (by decide) (by decide) k) ?_
      refine Gl.st (g' := (mkF m 55 #[.val (.int p1), .val (.int p2), .val (.int v19), .val (.int v21), .unset, .unset] [(.int (56447 : Int32))])) (fun t k => X22.ldcI hx hown (mvT hZ (hw _ (List.mem_of_getElem? (i := 7) rfl))) rfl (hb hby at_53) k) ?_
      refine Gl.st (g' := (mkF m 56 #[.val (.int p1), .val (.int p2), .val (.int v19), .val (.int v21), .unset, .unset] [(.int p2), (.int (56447 : Int32))])) (fun t k => XS.iloadN X22.here hx rfl (hb hby at_55) rfl k) ?_
      refine Gl.st (g' := (mkF m 59 #[.val (.int p1), .val (.int p2), .val (.int v19), .val (.int v21), .unset, .unset] [(.int (255 : Int32)), (.int p2), (.int (56447 : Int32))])) (fun t k => XT.sipushV X22.here hx rfl (255 : Int32) (hb hby at_56) rfl k) ?_
      refine Gl.st (g' := (mkF m 60 #[.val (.int p1), .val (.int p2), .val (.int v19), .val (.int v21), .unset, .unset] [(.int (p2 &&& (255 : Int32))), (.int (56447 : Int32))])) (fun t k => XS.iand X22.here hx rfl (hb hby at_59) rfl k) ?_
      refine Gl.st (g' := (mkF m 61 #[.val (.int p1), .val (.int p2), .val (.int v19), .val (.int v21), .unset, .unset] [(.int ((56447 : Int32) - (p2 &&& (255 : Int32))))])) (fun t k => XS.isub X22.here hx rfl (hb hby at_60) rfl k) ?_
      generalize hv23 : ((56447 : Int32) - (p2 &&& (255 : Int32))) = v23
      refine Gl.st (g' := (mkF m 63 #[.val (.int p1), .val (.int p2), .val (.int v19), .val (.int v21), .val (.int v23), .unset] [])) (fun t k => XS.istore X22.here hx rfl (hb hby at_61) rfl (l' := #[.val (.int p1), .val (.int p2), .val (.int v19), .val (.int v21), .val (.int v23), .unset]) rfl k) ?_
      refine Gl.st (g' := (mkF m 65 #[.val (.int p1), .val (.int p2), .val (.int v19), .val (.int v21), .val (.int v23), .unset] [(.int (56576 : Int32))])) (fun t k => X22.ldcI hx hown (mvT hZ (hw _ (List.mem_of_getElem? (i := 8) rfl))) rfl (hb hby at_63) k) ?_
      refine Gl.st (g' := (mkF m 66 #[.val (.int p1), .val (.int p2), .val (.int v19), .val (.int v21), .val (.int v23), .unset] [(.int p2), (.int (56576 : Int32))])) (fun t k => XS.iloadN X22.here hx rfl (hb hby at_65) rfl k) ?_
      refine Gl.st (g' := (mkF m 69 #[.val (.int p1), .val (.int p2), .val (.int v19), .val (.int v21), .val (.int v23), .unset] [(.int (255 : Int32)), (.int p2), (.int (56576 : Int32))])) (fun t k => XT.sipushV X22.here hx rfl (255 : Int32) (hb hby at_66) rfl k) ?_
      refine Gl.st (g' := (mkF m 70 #[.val (.int p1), .val (.int p2), .val (.int v19), .val (.int v21), .val (.int v23), .unset] [(.int (p2 &&& (255 : Int32))), (.int (56576 : Int32))])) (fun t k => XS.iand X22.here hx rfl (hb hby at_69) rfl k) ?_
      refine Gl.st (g' := (mkF m 71 #[.val (.int p1), .val (.int p2), .val (.int v19), .val (.int v21), .val (.int v23), .unset] [(.int ((56576 : Int32) + (p2 &&& (255 : Int32))))])) (fun t k => XS.iadd X22.here hx rfl (hb hby at_70) rfl k) ?_
      generalize hv24 : ((56576 : Int32) + (p2 &&& (255 : Int32))) = v24
      refine Gl.st (g' := (mkF m 73 #[.val (.int p1), .val (.int p2), .val (.int v19), .val (.int v21), .val (.int v23), .val (.int v24)] [])) (fun t k => XS.istore X22.here hx rfl (hb hby at_71) rfl (l' := #[.val (.int p1), .val (.int p2), .val (.int v19), .val (.int v21), .val (.int v23), .val (.int v24)]) rfl k) ?_
      refine Gl.st (g' := (mkF m 75 #[.val (.int p1), .val (.int p2), .val (.int v19), .val (.int v21), .val (.int v23), .val (.int v24)] [(.int v23)])) (fun t k => XS.iload X22.here hx rfl (hb hby at_73) rfl k) ?_
      obtain ⟨_, _, ⟨T25, L25, k25, n25⟩, -, X25, ⟨Lc25, hQ25, l25, y25, z25⟩, st25⟩ := Jvm.LawKit.callS X22 hx (y := (⟨"com/example/labelsmith/labelsmith/cli/LineReader", "undecodableByte", "(I)I"⟩ : MethodName)) hown (mvT hZ (hw _ (List.mem_of_getElem? (i := 1) rfl))) (mvT hZ (hw _ (List.mem_of_getElem? (i := 2) rfl))) (mvT hZ (hw _ (List.mem_of_getElem? (i := 3) rfl))) (mvT hZ (hw _ (List.mem_of_getElem? (i := 4) rfl))) (by decide) (backOf (W := 0) (rm1 l Z a0 hw v23  h0 n0 Z0 ) hZ (hw _ (List.mem_of_getElem? (i := 4) rfl)) (hw _ (List.mem_of_getElem? (i := 3) rfl)) (by decide) (by decide)) (g := (mkF m 75 #[.val (.int p1), .val (.int p2), .val (.int v19), .val (.int v21), .val (.int v23), .val (.int v24)] [(.int v23)])) rfl (by rw [hml]; rfl) (argsL := [(.int v23)]) (rest := []) (lenOf pd_0 rfl) rfl (by show 2 * 0 + _ ≤ _; exact Nat.le_of_eq rfl) (hb hby at_75) (fun _ _ => ⟨rfl, e22, (by decide : 0 + 0 + 0 + 0 ≤ _), (by decide : 0 + 0 + 0 + 0 ≤ _)⟩)
      dsimp only [Pt.U, Pt.locs, Pt.cells, Pt.slots] at X25 l25 y25 z25 st25 hQ25
      subst l25 y25 z25
      obtain ⟨rfl, Nq25, e25⟩ := hQ25
      have N25 := Fr.app N22 Nq25
      refine Gl.st (g' := (mkF m 78 #[.val (.int p1), .val (.int p2), .val (.int v19), .val (.int v21), .val (.int v23), .val (.int v24)] [(.int (own_u v23))])) st25 ?_
      refine Gl.st (g' := (mkF m 79 #[.val (.int p1), .val (.int p2), .val (.int v19), .val (.int v21), .val (.int v23), .val (.int v24)] [(.int (-1 : Int32)), (.int (own_u v23))])) (fun t k => XT.iconstV X25.here hx rfl (-1 : Int32) (hb hby at_78) rfl k) ?_
      refine Gl.st (g' := (mkF m 82 #[.val (.int p1), .val (.int p2), .val (.int v19), .val (.int v21), .val (.int v23), .val (.int v24)] [])) (fun t k => XS.icmpNo X25.here hx rfl (hb hby at_79) rfl (XT.ii_ne_f (own_f5 hv23)) k) ?_
      refine Gl.st (g' := (mkF m 84 #[.val (.int p1), .val (.int p2), .val (.int v19), .val (.int v21), .val (.int v23), .val (.int v24)] [(.int v24)])) (fun t k => XS.iload X25.here hx rfl (hb hby at_82) rfl k) ?_
      obtain ⟨_, _, ⟨T26, L26, k26, n26⟩, -, X26, ⟨Lc26, hQ26, l26, y26, z26⟩, st26⟩ := Jvm.LawKit.callS X25 hx (y := (⟨"com/example/labelsmith/labelsmith/cli/LineReader", "undecodableByte", "(I)I"⟩ : MethodName)) hown (mvT hZ (hw _ (List.mem_of_getElem? (i := 1) rfl))) (mvT hZ (hw _ (List.mem_of_getElem? (i := 2) rfl))) (mvT hZ (hw _ (List.mem_of_getElem? (i := 3) rfl))) (mvT hZ (hw _ (List.mem_of_getElem? (i := 4) rfl))) (by decide) (backOf (W := 0) (rm1 l Z a0 hw v24  h0 n0 Z0 ) hZ (hw _ (List.mem_of_getElem? (i := 4) rfl)) (hw _ (List.mem_of_getElem? (i := 3) rfl)) (by decide) (by decide)) (g := (mkF m 84 #[.val (.int p1), .val (.int p2), .val (.int v19), .val (.int v21), .val (.int v23), .val (.int v24)] [(.int v24)])) rfl (by rw [hml]; rfl) (argsL := [(.int v24)]) (rest := []) (lenOf pd_0 rfl) rfl (by show 2 * 0 + _ ≤ _; exact Nat.le_of_eq rfl) (hb hby at_84) (fun _ _ => ⟨rfl, e25, (by decide : 0 + 0 + 0 + 0 + 0 ≤ _), (by decide : 0 + 0 + 0 + 0 + 0 ≤ _)⟩)
      dsimp only [Pt.U, Pt.locs, Pt.cells, Pt.slots] at X26 l26 y26 z26 st26 hQ26
      subst l26 y26 z26
      obtain ⟨rfl, Nq26, e26⟩ := hQ26
      have N26 := Fr.app N25 Nq26
      refine Gl.st (g' := (mkF m 87 #[.val (.int p1), .val (.int p2), .val (.int v19), .val (.int v21), .val (.int v23), .val (.int v24)] [(.int (own_u v24))])) st26 ?_
      refine Gl.st (g' := (mkF m 88 #[.val (.int p1), .val (.int p2), .val (.int v19), .val (.int v21), .val (.int v23), .val (.int v24)] [(.int (-1 : Int32)), (.int (own_u v24))])) (fun t k => XT.iconstV X26.here hx rfl (-1 : Int32) (hb hby at_87) rfl k) ?_
      refine Gl.st (g' := (mkF m 91 #[.val (.int p1), .val (.int p2), .val (.int v19), .val (.int v21), .val (.int v23), .val (.int v24)] [])) (fun t k => XS.icmpNo X26.here hx rfl (hb hby at_88) rfl (XT.ii_ne_f (own_f6 hv24)) k) ?_
      refine Gl.st (g' := (mkF m 92 #[.val (.int p1), .val (.int p2), .val (.int v19), .val (.int v21), .val (.int v23), .val (.int v24)] [(.int (1 : Int32))])) (fun t k => XT.iconstV X26.here hx rfl (1 : Int32) (hb hby at_91) rfl k) ?_
      refine Gl.st (g' := (mkF m 96 #[.val (.int p1), .val (.int p2), .val (.int v19), .val (.int v21), .val (.int v23), .val (.int v24)] [(.int (1 : Int32))])) (fun t k => XS.goto X26.here hx rfl (pc0 := 92) (pc' := 96) rfl (hb hby at_92) (by decide) (by decide) k) ?_
      refine Gl.retZ X26 hx hlk .boolean (by simp) Bd.returns (hb hby at_96) e26 (by decide) (by decide) ?_
      rw [Q0, own_z1]
      exact ⟨rfl, N26⟩
set_option maxRecDepth 65536 in
set_option maxHeartbeats 40000000 in
theorem comes_1 {Post : Tables → Env → Array Value → State → Outcome → State → Prop} (hpost : ∀ tb e args s v u, (limb_1_1.after args s (.returned v) u = true ∧ limb_1_2.after args s (.returned v) u = true ∧ True) → FrameEnd s (.returned v) u (Jvm.fieldLocs frame_1_writes args s ++ Jvm.arrayLocs frame_1_arrays args s ++ Jvm.staticLocs frame_1_statics s) 0 0 → Post tb e args s (.returned v) u) :
    ArmFor flags0 classFile x code maxLocals ret World_1 tables_1 room_1 Calls_1 rest_1 Pre_1 Post := by
  intro l hfl _ _ p e ha hc hk s m args below hf hA hF happ hP
  obtain ⟨hcalls, hrest, hpre⟩ := hP
  obtain ⟨-, -, -, hnamed, -, -, -, hat⟩ := (Spec.applies_iff hf).mp happ
  obtain ⟨hg, hn⟩ := and_e (Cond.before_iff.mp (show (Jvm.Cond.and given_1 narrow_1).before args s = true from hpre))
  obtain ⟨hcount, hk1⟩ := and_e hg
  obtain ⟨hi1, hk2⟩ := and_e hk1
  obtain ⟨w0, w1, rfl⟩ : ∃ w0 w1 : Value, args = #[w0, w1] := by
    have hs : args.size = 2 := by simpa [Cond.value, given_1] using hcount
    obtain ⟨L⟩ := args
    match L, hs with
    | [w0, w1], _ => exact ⟨w0, w1, rfl⟩
  have hw := fun d (hd : d ∈ tables_1) => atoms_spec (ws := Jvm.Cond.code x code maxLocals ret :: tables_1) hat d (List.mem_cons_of_mem _ hd)
  obtain ⟨i0, q0⟩ := is_v hi1
  obtain rfl : w0 = (.int i0) := Option.some.inj q0
  obtain ⟨i1, q1⟩ := is_v hk2
  obtain rfl : w1 = (.int i1) := Option.some.inj q1
  obtain ⟨n, o, h1, h2, h3, _, L, rfl, ⟨rfl, N⟩, hq⟩ := rm0 l s _ hw tables_1 i0 i1 s.heap s.heap.size (Nat.le_refl _)  p e ha hc hk s m _ below hf ((Spec.applies_iff_loose hf).mp happ).1 ⟨rfl, State.Warmed39.refl s, rfl⟩ trivial
  refine ⟨n, _, h1, h2, h3, hpost _ _ _ _ _ _ ⟨Cond.after_iff.mpr rfl, Cond.after_iff.mpr (eq_i res_at (Term.int_eval (1)) rfl), trivial⟩ ⟨hq.1, hq.2.1, (hq.2.2.sift fun y hy => Or.inr (N y hy)).mono (by decide) (by decide)⟩⟩
theorem main_1_1 : Claimed_1_1 := comes_1 fun _ _ _ _ _ _ h hF => ⟨h.1, hF⟩
theorem main_1_2 : Claimed_1_2 := comes_1 fun _ _ _ _ _ _ h hF => ⟨h.2.1, hF⟩
end Jvm.Pilot.@@N@@
namespace Jvm.Pilot.@@N@@
open Jvm Jvm.ClassFile Sem Op Lib Jvm.Free Jvm.Stand Jvm.Pilot.@@N@@.Jvm.D
/-! MADE BY PROGRAM (witnessworld.py) out of the Statement's table words and the real class files: 9 classes; the members and pool entries that the words name. The judged class is class 1, her method 1. -/
namespace start1
open Jvm.ClassFile
def u (s : String) : CpInfo := .utf8 (stringToUtf16 s)
/-- a pool by its gaps: so many unusable entries, then the entry; so many at the end -/
def gap : Nat → List CpInfo → List CpInfo
  | 0, r => r
  | n + 1, r => .unusable :: gap n r
def poolList (es : List (Nat × CpInfo)) (last : Nat) : List CpInfo := es.foldr (fun e r => gap e.1 (e.2 :: r)) (gap last [])
def pool (es : List (Nat × CpInfo)) (last : Nat) : Array CpInfo := ⟨poolList es last⟩
def fileOf (pool : Array CpInfo) (this : Nat) (attrs : Array Attribute := #[]) (ms : Array MethodInfo := #[]) (fl : Nat := 33) (sup : Nat := 0) (ifs : Array Nat := #[]) (fds : Array FieldInfo := #[]) : ClassFile where
  minorVersion := 0
  majorVersion := 65
  constantPool := pool
  accessFlags := fl
  thisClass := this
  superClass := sup
  interfaces := ifs
  fields := fds
  methods := ms
  attributes := attrs
def plain (name : String) (sup : Option ClassId) : Class where
  name := name
  kind := .ordinary
  loader := none
  accessFlags := 33
  super := sup
  interfaces := #[]
  cf := none
  fields := #[]
  methods := #[]
  instanceTypes := #[]
  staticTypes := #[]
  resolved := #[]
  callSites := []
  init := .initialized
  statics := none
  mirror := none

def pool0 : Array CpInfo := pool [(5, u "<init>"), (0, u "()V"), (1, .class_ 10), (1, u "java/lang/Object")] 113

def k0m0 : Method := { name := "<init>", desc := "()V", sig := { parameters := [], returnType := none }, accessFlags := 1, code := none }
/-- java/lang/Object -/
def k0 : Class := { plain "java/lang/Object" none with
  accessFlags := 33
  interfaces := #[]
  cf := some (fileOf pool0 8 #[] #[{ accessFlags := 1, nameIndex := 5, descriptorIndex := 6, attributes := #[] }] 33 0 #[] #[])
  fields := #[]
  methods := #[k0m0]
  instanceTypes := #[]
  staticTypes := #[]
  resolved := Array.replicate 124 none
  statics := none }

def pool1 : Array CpInfo := pool [(2, .class_ 4), (1, u "java/lang/Object"), (0, u "<init>"), (0, u "()V"), (0, .integer 56448), (0, .integer 56575), (0, .integer 56320), (0, .methodref 11 12), (0, .class_ 13), (0, .nameAndType 14 15), (0, u "com/example/labelsmith/labelsmith/cli/LineReader"), (0, u "undecodableByte"), (0, u "(I)I"), (0, .integer 56447), (0, .integer 56576), (0, .class_ 19), (0, u "com/example/labelsmith/labelsmith/cli/LineReaderUndecodableBytePinLaw"), (2, u "law"), (0, u "(II)Z")] 3

def k1m0 : Method := { name := "<init>", desc := "()V", sig := { parameters := [], returnType := none }, accessFlags := 1, code := none }
def k1c1 : Code := { maxStack := 3, maxLocals := 6, code := code, exceptionTable := #[], attributes := #[] }
def k1m1 : Method := { name := "law", desc := "(II)Z", sig := { parameters := [.int, .int], returnType := some .boolean }, accessFlags := 9, code := some k1c1 }
/-- com/example/labelsmith/labelsmith/cli/LineReaderUndecodableBytePinLaw -/
def k1 : Class := { plain "com/example/labelsmith/labelsmith/cli/LineReaderUndecodableBytePinLaw" (some 0) with
  accessFlags := 49
  interfaces := #[]
  cf := some (fileOf pool1 18 #[] #[{ accessFlags := 1, nameIndex := 5, descriptorIndex := 6, attributes := #[] }, { accessFlags := 9, nameIndex := 22, descriptorIndex := 23, attributes := #[] }] 49 2 #[] #[])
  fields := #[]
  methods := #[k1m0, k1m1]
  instanceTypes := #[]
  staticTypes := #[]
  resolved := Array.replicate 27 none
  statics := none }

def pool2 : Array CpInfo := pool [(2, .class_ 4), (1, u "java/lang/Object"), (4, .class_ 11), (1, u "com/example/labelsmith/labelsmith/cli/LineReader"), (0, u "buffer"), (0, u "[B"), (2, u "line"), (2, u "in"), (0, u "Ljava/io/InputStream;"), (2, u "endOfInput"), (0, u "Z"), (2, u "lineLength"), (0, u "I"), (2, u "lineEnded"), (11, u "overLong"), (19, u "position"), (2, u "limit"), (25, .integer 56320), (29, u "(I)I"), (53, u "undecodableByte"), (0, u "MAX_LINE_BYTES"), (1, u "UNDECODABLE_BYTE_BASE"), (0, u "REPLACEMENT_CHARACTER"), (0, u "C"), (0, u "LINE_FEED"), (0, u "B"), (1, u "CARRIAGE_RETURN")] 35

def k2c0 : Code := { maxStack := 2, maxLocals := 2, code := prog_1_method_9_code, exceptionTable := #[], attributes := #[] }
def k2m0 : Method := { name := "undecodableByte", desc := "(I)I", sig := { parameters := [.int], returnType := some .int }, accessFlags := 8, code := some k2c0 }
/-- com/example/labelsmith/labelsmith/cli/LineReader -/
def k2 : Class := { plain "com/example/labelsmith/labelsmith/cli/LineReader" (some 0) with
  accessFlags := 48
  interfaces := #[]
  cf := some (fileOf pool2 9 #[] #[{ accessFlags := 8, nameIndex := 176, descriptorIndex := 122, attributes := #[] }] 48 2 #[] #[{ accessFlags := 24, nameIndex := 177, descriptorIndex := 28, attributes := #[] }, { accessFlags := 26, nameIndex := 179, descriptorIndex := 28, attributes := #[] }, { accessFlags := 26, nameIndex := 180, descriptorIndex := 181, attributes := #[] }, { accessFlags := 26, nameIndex := 182, descriptorIndex := 183, attributes := #[] }, { accessFlags := 26, nameIndex := 185, descriptorIndex := 183, attributes := #[] }, { accessFlags := 18, nameIndex := 19, descriptorIndex := 20, attributes := #[] }, { accessFlags := 18, nameIndex := 12, descriptorIndex := 13, attributes := #[] }, { accessFlags := 2, nameIndex := 63, descriptorIndex := 28, attributes := #[] }, { accessFlags := 2, nameIndex := 66, descriptorIndex := 28, attributes := #[] }, { accessFlags := 2, nameIndex := 23, descriptorIndex := 24, attributes := #[] }, { accessFlags := 2, nameIndex := 16, descriptorIndex := 13, attributes := #[] }, { accessFlags := 2, nameIndex := 27, descriptorIndex := 28, attributes := #[] }, { accessFlags := 2, nameIndex := 31, descriptorIndex := 24, attributes := #[] }, { accessFlags := 2, nameIndex := 43, descriptorIndex := 24, attributes := #[] }])
  fields := #[{ name := "MAX_LINE_BYTES", type := .int, accessFlags := 24, slot := 0, constantValue := 0 }, { name := "UNDECODABLE_BYTE_BASE", type := .int, accessFlags := 26, slot := 1, constantValue := 0 }, { name := "REPLACEMENT_CHARACTER", type := .char, accessFlags := 26, slot := 2, constantValue := 0 }, { name := "LINE_FEED", type := .byte, accessFlags := 26, slot := 3, constantValue := 0 }, { name := "CARRIAGE_RETURN", type := .byte, accessFlags := 26, slot := 4, constantValue := 0 }, { name := "in", type := (.object "java/io/InputStream"), accessFlags := 18, slot := 0, constantValue := 0 }, { name := "buffer", type := (.array .byte), accessFlags := 18, slot := 1, constantValue := 0 }, { name := "position", type := .int, accessFlags := 2, slot := 2, constantValue := 0 }, { name := "limit", type := .int, accessFlags := 2, slot := 3, constantValue := 0 }, { name := "endOfInput", type := .boolean, accessFlags := 2, slot := 4, constantValue := 0 }, { name := "line", type := (.array .byte), accessFlags := 2, slot := 5, constantValue := 0 }, { name := "lineLength", type := .int, accessFlags := 2, slot := 6, constantValue := 0 }, { name := "lineEnded", type := .boolean, accessFlags := 2, slot := 7, constantValue := 0 }, { name := "overLong", type := .boolean, accessFlags := 2, slot := 8, constantValue := 0 }]
  methods := #[k2m0]
  instanceTypes := #[(.object "java/io/InputStream"), (.array .byte), .int, .int, .boolean, (.array .byte), .int, .boolean, .boolean]
  staticTypes := #[.int, .int, .char, .byte, .byte]
  resolved := Array.replicate 221 none
  statics := none }

def pool3 : Array CpInfo := pool [(1, u "java/lang/Cloneable"), (0, .class_ 1), (0, u "java/lang/Object"), (0, .class_ 3)] 3

/-- java/lang/Cloneable -/
def k3 : Class := { plain "java/lang/Cloneable" (some 0) with
  accessFlags := 1537
  interfaces := #[]
  cf := some (fileOf pool3 2 #[] #[] 1537 4 #[] #[])
  fields := #[]
  methods := #[]
  instanceTypes := #[]
  staticTypes := #[]
  resolved := Array.replicate 8 none
  statics := none }

def pool4 : Array CpInfo := pool [(1, u "java/io/Serializable"), (0, .class_ 1), (0, u "java/lang/Object"), (0, .class_ 3)] 3

/-- java/io/Serializable -/
def k4 : Class := { plain "java/io/Serializable" (some 0) with
  accessFlags := 1537
  interfaces := #[]
  cf := some (fileOf pool4 2 #[] #[] 1537 4 #[] #[])
  fields := #[]
  methods := #[]
  instanceTypes := #[]
  staticTypes := #[]
  resolved := Array.replicate 8 none
  statics := none }

/-- the primitive byte -/
def k5 : Class := { plain "byte" none with kind := .primitive 'B', accessFlags := 0x411 }
/-- [B -/
def k6 : Class := { plain "[B" (some 0) with kind := .array 5 .byte, interfaces := #[3, 4], accessFlags := 1041 }

/-- the primitive int -/
def k7 : Class := { plain "int" none with kind := .primitive 'I', accessFlags := 0x411 }
/-- [I -/
def k8 : Class := { plain "[I" (some 0) with kind := .array 7 .int, interfaces := #[3, 4], accessFlags := 1041 }

def heap : Heap := #[]
def classes : Array Class := #[k0, k1, k2, k3, k4, k5, k6, k7, k8]
def interned : List (Array UInt16 × Addr) := []
def slotsUsed : Nat := 0
def theMethod : MethodId := ⟨1, 1⟩
def args0 : Array Value := #[.int 5, .int 5]
def aboutOver (below : List Frame) : State where
  vm := { classes := classes, interned := interned.toArray }
  heap := heap
  slotsUsed := slotsUsed
  threads := #[{ frames := .invoking theMethod args0 :: below }]
def below0 : List Frame := [.native { method := ⟨0, 0⟩, args := #[] }]
def about1 : State := aboutOver below0
def p0 : Program := .bare "" "" ""
def e0 : Env := launch0.env 0 0 0
theorem w_frames : about1.frames = Frame.invoking theMethod args0 :: below0 := rfl
set_option maxRecDepth 65536 in
theorem w_args : argsFit about1.vm theMethod args0 = true := by decide +kernel
set_option maxRecDepth 65536 in
theorem w_heap : heapFits about1 = true := by decide +kernel
set_option maxRecDepth 65536 in
theorem w_runnable : about1.curStatus? = some .runnable := by decide +kernel
set_option maxRecDepth 65536 in
theorem w_alone : about1.alone = true := by decide +kernel
set_option maxRecDepth 65536 in
theorem w_named : about1.methodNamed? x = some theMethod := by decide +kernel
set_option maxRecDepth 65536 in
theorem w_hears : about1.hears theMethod below0 = true := by decide +kernel
set_option maxRecDepth 65536 in
theorem w_ripe : about1.ripe theMethod args0 below0 = true := by decide +kernel
theorem w_running : about1.status = .running := rfl
set_option maxRecDepth 65536 in
theorem w_room : about1.hasRoom e0.platform room_1 = true :=
  launch0.hasRoom_least _ room_1 (by decide +kernel) (by decide +kernel) (by decide +kernel) (by decide +kernel) (by decide +kernel) (by decide +kernel)
theorem allAtoms_all (ts : List Jvm.Cond) (a : Array Jvm.Value) (st : Jvm.State) : (allAtoms ts).before a st = ts.all (fun c => c.before a st) := by
  induction ts with
  | nil => rfl
  | cons c t ih =>
    show (Jvm.Cond.and c (allAtoms t)).before a st = _
    rw [Jvm.Cond.before_and, ih, List.all_cons]
def words1 : List Jvm.Cond := Jvm.Cond.code x code maxLocals ret :: tables_1
/-- a 'code' word, met by the world's own term for the bytes: nothing is compared byte by byte -/
theorem code_word {y : MethodName} {bytes : ByteArray} {mx : Nat} {rt : Option FieldType} {a : Array Value} {s : State} {m : MethodId} {meth : Method} {c : Code} (h1 : s.methodNamed? y = some m) (h2 : s.vm.method? m = some meth) (h3 : meth.code = some c) (h4 : c.code = bytes)
    (h5 : (c.maxLocals == mx && c.exceptionTable.isEmpty && decide (c.maxStack ≤ mostOperands) && decide (meth.sig.returnType = rt) && !meth.locks && decide (parseMethodDescriptor y.desc = some meth.sig)) = true) : (Jvm.Cond.code y bytes mx rt).before a s = true := by
  simp only [Bool.and_eq_true, beq_iff_eq, Bool.not_eq_true', decide_eq_true_eq] at h5
  obtain ⟨⟨⟨⟨⟨g1, g2⟩, g3⟩, g4⟩, g5⟩, g6⟩ := h5
  simp [Cond.before, Cond.holds, Cond.value, h1, h2, h3, h4, g1, g2, g3, g4, g5, g6]
def isCode : Jvm.Cond → Bool
  | .code _ _ _ _ => true
  | _ => false
theorem all_split {L : List Jvm.Cond} {P : Jvm.Cond → Bool} (h1 : L.all (fun c => isCode c || P c) = true) (h2 : ∀ c ∈ L.filter isCode, P c = true) : L.all P = true := by
  refine List.all_eq_true.mpr fun c hc => ?_
  have h := List.all_eq_true.mp h1 c hc
  rcases Bool.eq_false_or_eq_true (isCode c) with hi | hi
  · exact h2 c (List.mem_filter.mpr ⟨hc, hi⟩)
  · simpa [hi] using h
set_option maxRecDepth 65536 in
theorem w_c0 : (Jvm.Cond.code x code maxLocals ret).before args0 about1 = true := code_word (m := ⟨1, 1⟩) (meth := k1m1) (c := k1c1) (by decide +kernel) rfl rfl rfl (by decide +kernel)
set_option maxRecDepth 65536 in
theorem w_c1 : (Jvm.Cond.code ({ cls := "com/example/labelsmith/labelsmith/cli/LineReader", name := "undecodableByte", desc := "(I)I" } : Jvm.MethodName) prog_1_method_9_code (2 : Nat) (Option.some Jvm.ClassFile.FieldType.int)).before args0 about1 = true := code_word (m := ⟨2, 0⟩) (meth := k2m0) (c := k2c0) (by decide +kernel) rfl rfl rfl (by decide +kernel)
def codes1 : List Jvm.Cond := [Jvm.Cond.code x code maxLocals ret, Jvm.Cond.code ({ cls := "com/example/labelsmith/labelsmith/cli/LineReader", name := "undecodableByte", desc := "(I)I" } : Jvm.MethodName) prog_1_method_9_code (2 : Nat) (Option.some Jvm.ClassFile.FieldType.int)]
set_option maxRecDepth 65536 in
theorem codes_eq : words1.filter isCode = codes1 := rfl
theorem w_codes : ∀ c ∈ words1.filter isCode, c.before args0 about1 = true := by
  rw [codes_eq]
  intro c hc
  simp only [codes1, List.mem_cons, List.not_mem_nil, or_false] at hc
  rcases hc with rfl | rfl
  · exact w_c0
  · exact w_c1
set_option maxRecDepth 65536 in
theorem w_t1 : words1.all (fun c => isCode c || c.before args0 about1) = true := by decide +kernel
theorem w_tables : (allAtoms (Jvm.Cond.code x code maxLocals ret :: tables_1)).before args0 about1 = true := by
  rw [allAtoms_all]
  show words1.all (fun c => c.before args0 about1) = true
  refine all_split ?_ w_codes
  rw [w_t1]
set_option maxRecDepth 65536 in
theorem w_case : (Jvm.Cond.and given_1 narrow_1).before args0 about1 = true := by decide +kernel
theorem w_applies : (headSpec (Jvm.Cond.code x code maxLocals ret :: tables_1) room_1).applies x e0.platform about1 = true :=
  (Spec.applies_iff w_frames).mpr ⟨w_running, w_runnable, w_alone, w_named, w_hears, w_ripe, w_room, w_tables⟩
theorem atStart : AtStart classFile x code maxLocals ret World_1 tables_1 room_1 Calls_1 rest_1 Pre_1 launch0 p0 e0 about1 theMethod args0 below0 :=
  ⟨lists_1, trivial, launch0.admits_env _ _ _, launch0.least_env, fairChoices_fair.cas, fairChoices_fair.clock, w_frames, w_args, w_heap, w_applies, trivial, trivial, w_case⟩
end start1
theorem witness_1 : WitnessClaimed_1 := ⟨start1.p0, start1.e0, start1.about1, start1.theMethod, start1.args0, start1.below0, start1.atStart⟩
end Jvm.Pilot.@@N@@
