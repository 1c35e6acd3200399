import JvmDerived
import JvmDerived.Pilot.@@N@@Statement
import JvmDerived.Pilot.@@N@@Code
set_option linter.unusedVariables false
set_option linter.unusedSimpArgs false
namespace Jvm.Pilot.@@N@@
open Jvm Jvm.ClassFile Sem Op Lib Jvm.Free Jvm.Stand Jvm.LawKit Jvm.RoadKit Bundle Jvm.Pilot.@@N@@.Jvm.D
section OwnKit
variable {p : Program} {l : Launch} {e : Env} {R : Room} {s : State} {m : MethodId} {args : Array Value} {below : List Frame} {meth : Method} {c : Code} {T T' : State} {locs : List Loc} {cells slots : Nat} {h : Heap} {Q : Option Value → Heap → List Loc → Prop} {kc ks : Nat} {g g' : JFrame}
/-- from this state and frame the method comes to its end, and what it leaves is Q -/
def Gl (p : Program) (e : Env) (below : List Frame) (s : State) (Q : Option Value → Heap → List Loc → Prop) (kc ks : Nat) (T : State) (g : JFrame) : Prop :=
  ∃ s₂ o, Steps p.tables e below (T.setTop g) s₂ ∧ s₂.status = .running ∧ Ended s₂ below o ∧ ∃ v L, o = .returned v ∧ Q v s₂.heap L ∧ FrameEnd s o s₂ L kc ks
theorem Gl.st (h : ∀ t, Steps p.tables e below (T'.setTop g') t → Steps p.tables e below (T.setTop g) t) (k : Gl p e below s Q kc ks T' g') : Gl p e below s Q kc ks T g := by
  obtain ⟨s₂, o, h1, r⟩ := k
  exact ⟨s₂, o, h _ h1, r⟩
theorem Gl.ret (X : Stand p l e R s m args below meth c T locs cells slots) (hlk : meth.locks = false) (v : Option Value) (hv : meth.sig.returnType = none → v = none) (eT : T.heap = h) (hc : cells ≤ kc) (hs : slots ≤ ks)
    (hst : ∀ fs, (∀ (f : JFrame) (acts : List Action), f.method = m → f.locked = none → f.entered = [] → (doReturn e (T.setTop f) acts v).1 = T.setFrames fs) → Steps p.tables e below (T.setTop g) (T.setFrames fs))
    (hq : Q v h locs) : Gl p e below s Q kc ks T g := by
  obtain ⟨fs, hr, hrun, hended, hW, hsame⟩ := X.leave (v := v) hv hlk
  refine ⟨_, _, hst fs hr, hrun, hended, v, locs, rfl, ?_, ⟨_, rfl⟩, hW, hsame.mono hc hs⟩
  show Q v T.heap locs
  rw [eT]; exact hq
theorem Gl.retI (X : Stand p l e R s m args below meth c T locs cells slots) (hx : p.tables.exec = Jvm.exec) (hlk : meth.locks = false) {pc : Nat} {Ls : Array Slot} {z : Int32} {rest : List Value} (hret : meth.sig.returnType = some .int) (hd : decode c.code pc = .ok (.ireturn, 1)) (eT : T.heap = h) (hc : cells ≤ kc) (hs : slots ≤ ks)
    (hq : Q (some (.int z)) h locs) : Gl p e below s Q kc ks T (mkF m pc Ls (.int z :: rest)) := by
  refine Gl.ret X hlk (some (.int z)) (fun q => by rw [hret] at q; cases q) eT hc hs (fun fs hl => ?_) hq
  exact retOut X hx hret (t := .int) rfl (Or.inl ⟨rfl, Or.inl rfl, _, rfl⟩) hd hl
theorem Gl.retZ (X : Stand p l e R s m args below meth c T locs cells slots) (hx : p.tables.exec = Jvm.exec) (hlk : meth.locks = false) {pc : Nat} {Ls : Array Slot} {z : Int32} {rest : List Value} (t : FieldType) (ht : t = .boolean ∨ t = .byte ∨ t = .char ∨ t = .short) (hret : meth.sig.returnType = some t) (hd : decode c.code pc = .ok (.ireturn, 1)) (eT : T.heap = h) (hc : cells ≤ kc) (hs : slots ≤ ks)
    (hq : Q (some (.int (nar t z))) h locs) : Gl p e below s Q kc ks T (mkF m pc Ls (.int z :: rest)) := by
  refine Gl.ret X hlk (some (.int (nar t z))) (fun q => by rw [hret] at q; cases q) eT hc hs (fun fs hl => ?_) hq
  exact retN X hx (t := t) hret ht hd hl
theorem Gl.retL (X : Stand p l e R s m args below meth c T locs cells slots) (hx : p.tables.exec = Jvm.exec) (hlk : meth.locks = false) {pc : Nat} {Ls : Array Slot} {z : Int64} (hret : meth.sig.returnType = some .long) (hd : decode c.code pc = .ok (.lreturn, 1)) (eT : T.heap = h) (hc : cells ≤ kc) (hs : slots ≤ ks)
    (hq : Q (some (.long z)) h locs) : Gl p e below s Q kc ks T (mkF m pc Ls [.long z]) := by
  refine Gl.ret X hlk (some (.long z)) (fun q => by rw [hret] at q; cases q) eT hc hs (fun fs hl => ?_) hq
  exact X.lreturnOut hx hret hd hl
theorem Gl.retV (X : Stand p l e R s m args below meth c T locs cells slots) (hx : p.tables.exec = Jvm.exec) (hlk : meth.locks = false) {pc : Nat} {Ls : Array Slot} (hret : meth.sig.returnType = none) (hd : decode c.code pc = .ok (.return_, 1)) (eT : T.heap = h) (hc : cells ≤ kc) (hs : slots ≤ ks)
    (hq : Q none h locs) : Gl p e below s Q kc ks T (mkF m pc Ls []) := by
  refine Gl.ret X hlk none (fun _ => rfl) eT hc hs (fun fs hl => ?_) hq
  exact X.returnOut hx hret hd hl
end OwnKit

theorem own_z0 : nar .boolean (0 : Int32) = 0 := by decide
theorem own_z1 : nar .boolean (1 : Int32) = 1 := by decide
theorem own_nn (x : Int32) : 0 ≤ (x &&& (2147483647 : Int32)).toInt := by
  rw [c_mask x 2147483647 31 (by decide) (by decide)]
  exact Int.emod_nonneg _ (by decide)
theorem own_lt {x y : Int32} (h : x.toInt < y.toInt) : x < y := Int32.lt_iff_toInt_lt.mpr h
theorem own_nlt {x y : Int32} (h : y.toInt ≤ x.toInt) : ¬ x < y := fun q => by
  have := Int32.lt_iff_toInt_lt.mp q; omega
theorem own_eq {x y : Int32} (h : x.toInt = y.toInt) : x = y := Int32.toInt_inj.mp h
theorem own_ltI {x y : Int32} (h : x < y) : x.toInt < y.toInt := Int32.lt_iff_toInt_lt.mp h
theorem own_nltI {x y : Int32} (h : ¬ x < y) : y.toInt ≤ x.toInt := by
  rcases Int.lt_or_le x.toInt y.toInt with q | q
  · exact absurd (own_lt q) h
  · exact q
theorem own_rem {x y : Int32} (hx : 0 ≤ x.toInt) (hy : 0 < y.toInt) : 0 ≤ (x % y).toInt ∧ (x % y).toInt < y.toInt := by
  have h := (c_irem x y y.toInt rfl).1 hx
  rw [h]; exact ⟨Int.emod_nonneg _ (by omega), Int.emod_lt_of_pos _ hy⟩
theorem own_add {x y : Int32} (h1 : -2147483648 ≤ x.toInt + y.toInt) (h2 : x.toInt + y.toInt < 2147483648) : (x + y).toInt = x.toInt + y.toInt := by
  have a := c_iadd x y; have b := (x + y).toInt_lt; have c := (x + y).le_toInt; omega
theorem own_sub {x y : Int32} (h1 : -2147483648 ≤ x.toInt - y.toInt) (h2 : x.toInt - y.toInt < 2147483648) : (x - y).toInt = x.toInt - y.toInt := by
  have a := c_isub x y; have b := (x - y).toInt_lt; have c := (x - y).le_toInt; omega
theorem own_and (x : Int32) (m : Int32) (k : Nat) (hk : k ≤ 31) (hm : m.toBitVec.toNat = 2 ^ k - 1) : 0 ≤ (x &&& m).toInt ∧ (x &&& m).toInt ≤ m.toInt ∧ (x &&& m).toInt = x.toInt % (2 ^ k : Nat) := by
  have h := c_mask x m k hk hm
  have hm0 : 0 ≤ m.toInt := by
    have e : m.toInt = m.toBitVec.toInt := rfl
    have q : 2 ^ k ≤ 2 ^ 31 := Nat.pow_le_pow_right (by decide) hk
    have l := m.toBitVec.isLt
    rw [e, BitVec.toInt_eq_toNat_cond, hm]; split <;> omega
  exact ⟨(c_and x m hm0).1, (c_and x m hm0).2, h⟩
def own_sh (v : Int64) : Int64 := v ^^^ (((v).toUInt64 >>> ((33 : Int32) &&& 0x3f).toInt64.toUInt64).toInt64)
def own_nw (a x : Int64) : Int64 := x * ((2 : Int64) - (a * x))
def own_inv (a : Int64) : Int64 := own_nw a (own_nw a (own_nw a (own_nw a (own_nw a a))))
def own_mix (v : Int64) : Int64 := own_sh (own_sh (own_sh v * (-49064778989728563 : Int64)) * (-4265267296055464877 : Int64))
def own_unmix (v : Int64) : Int64 := own_sh (own_sh (own_sh v * own_inv (-4265267296055464877 : Int64)) * own_inv (-49064778989728563 : Int64))
theorem own_sh_bv (v : Int64) : (own_sh v).toBitVec = v.toBitVec ^^^ (v.toBitVec >>> 33) := by
  have e : (((33 : Int32) &&& 0x3f).toInt64.toUInt64.toBitVec % 64) = 33#64 := by decide
  show v.toBitVec ^^^ (v.toBitVec >>> (((33 : Int32) &&& 0x3f).toInt64.toUInt64.toBitVec % 64)) = _
  rw [e]; rfl
theorem own_bv (b : BitVec 64) : (b ^^^ (b >>> 33)) ^^^ ((b ^^^ (b >>> 33)) >>> 33) = b := by
  apply BitVec.eq_of_getLsbD_eq
  intro i hi
  simp only [BitVec.getLsbD_xor, BitVec.getLsbD_ushiftRight]
  have z : b.getLsbD (33 + (33 + i)) = false := BitVec.getLsbD_of_ge _ _ (by omega)
  rw [z]
  cases b.getLsbD i <;> cases b.getLsbD (33 + i) <;> rfl
theorem own_sh2 (v : Int64) : own_sh (own_sh v) = v := by
  apply Int64.toBitVec_inj.mp
  rw [own_sh_bv, own_sh_bv, own_bv]
theorem own_k1 : (-49064778989728563 : Int64) * own_inv (-49064778989728563 : Int64) = 1 := by decide
theorem own_k2 : (-4265267296055464877 : Int64) * own_inv (-4265267296055464877 : Int64) = 1 := by decide
theorem own_k1' : own_inv (-49064778989728563 : Int64) * (-49064778989728563 : Int64) = 1 := by decide
theorem own_k2' : own_inv (-4265267296055464877 : Int64) * (-4265267296055464877 : Int64) = 1 := by decide
theorem own_back (a : Int64) : own_unmix (own_mix a) = a := by
  unfold own_unmix own_mix
  rw [own_sh2, Int64.mul_assoc, own_k2, Int64.mul_one, own_sh2, Int64.mul_assoc, own_k1, Int64.mul_one, own_sh2]
theorem own_there (a : Int64) : own_mix (own_unmix a) = a := by
  unfold own_unmix own_mix
  rw [own_sh2, Int64.mul_assoc, own_k1', Int64.mul_one, own_sh2, Int64.mul_assoc, own_k2', Int64.mul_one, own_sh2]
theorem own_f1 {a m b : Int64} (e : own_mix a = m) (f : own_unmix m = b) : b = a := by rw [← f, ← e]; exact own_back a
theorem own_f2 {a b : Int64} (e : own_mix (own_unmix a) = b) : b = a := by rw [← e]; exact own_there a
theorem d1_0 : decode prog_51_method_46_code 0 = .ok (.lload_n 0, 1) := by decide +kernel
theorem d1_1 : decode prog_51_method_46_code 1 = .ok (.lload_n 0, 1) := by decide +kernel
theorem d1_2 : decode prog_51_method_46_code 2 = .ok (.bipush 33, 2) := by decide +kernel
theorem d1_4 : decode prog_51_method_46_code 4 = .ok (.lushr, 1) := by decide +kernel
theorem d1_5 : decode prog_51_method_46_code 5 = .ok (.lxor, 1) := by decide +kernel
theorem d1_6 : decode prog_51_method_46_code 6 = .ok (.ldc2_w 356, 3) := by decide +kernel
theorem d1_9 : decode prog_51_method_46_code 9 = .ok (.lmul, 1) := by decide +kernel
theorem d1_10 : decode prog_51_method_46_code 10 = .ok (.lstore_n 2, 1) := by decide +kernel
theorem d1_11 : decode prog_51_method_46_code 11 = .ok (.lload_n 2, 1) := by decide +kernel
theorem d1_12 : decode prog_51_method_46_code 12 = .ok (.lload_n 2, 1) := by decide +kernel
theorem d1_13 : decode prog_51_method_46_code 13 = .ok (.bipush 33, 2) := by decide +kernel
theorem d1_15 : decode prog_51_method_46_code 15 = .ok (.lushr, 1) := by decide +kernel
theorem d1_16 : decode prog_51_method_46_code 16 = .ok (.lxor, 1) := by decide +kernel
theorem d1_17 : decode prog_51_method_46_code 17 = .ok (.ldc2_w 358, 3) := by decide +kernel
theorem d1_20 : decode prog_51_method_46_code 20 = .ok (.lmul, 1) := by decide +kernel
theorem d1_21 : decode prog_51_method_46_code 21 = .ok (.lstore_n 2, 1) := by decide +kernel
theorem d1_22 : decode prog_51_method_46_code 22 = .ok (.lload_n 2, 1) := by decide +kernel
theorem d1_23 : decode prog_51_method_46_code 23 = .ok (.lload_n 2, 1) := by decide +kernel
theorem d1_24 : decode prog_51_method_46_code 24 = .ok (.bipush 33, 2) := by decide +kernel
theorem d1_26 : decode prog_51_method_46_code 26 = .ok (.lushr, 1) := by decide +kernel
theorem d1_27 : decode prog_51_method_46_code 27 = .ok (.lxor, 1) := by decide +kernel
theorem d1_28 : decode prog_51_method_46_code 28 = .ok (.lreturn, 1) := by decide +kernel
theorem pn_0 : plainName "com/example/passivation/passivation/StoreIndex" = true := by first | (simp [plainName, overriddenIn]; done) | decide +kernel
theorem ef_1 (m : MethodId) (p1 : Int64) : entryFrame m #[(.long p1)] 4 = mkF m 0 #[.val (.long p1), .second, .unset, .unset] [] := by first | (simp [entryFrame, mkF, argsToLocals, Value.category]; done) | rfl
def Q1 (Z : State) (p1 : Int64)  (h0 : Heap) (n0 : Nat) (v : Option Value) (h : Heap) (L : List Loc) : Prop := v = some (.long (own_mix p1)) ∧ Fr n0 L ∧ h = h0
set_option maxRecDepth 65536 in
set_option maxHeartbeats 40000000 in
theorem rm1 (l : Launch) (Z : State) (a0 : Array Value) (hw : ∀ d ∈ tables_1, d.before a0 Z = true) (p1 : Int64)  (h0 : Heap) (n0 : Nat) (Z0 : n0 ≤ h0.size)  :
    MetFree l (⟨"com/example/passivation/passivation/StoreIndex", "mix", "(J)J"⟩ : MethodName) (head1 [Jvm.Cond.code (⟨"com/example/passivation/passivation/StoreIndex", "mix", "(J)J"⟩ : MethodName) prog_51_method_46_code 4 (some .long)] ({ frames := 0, cells := 0, slots := 0, locals := 0 } : Room)) (fun a U => a = #[(.long p1)] ∧ Z.Warmed39 U.vm ∧ U.heap = h0) (fun _ _ _ _ _ => True) (fun _ U o U' => ∃ v L, o = .returned v ∧ Q1 Z p1  h0 n0 v U'.heap L ∧ FrameEnd U o U' L ({ frames := 0, cells := 0, slots := 0, locals := 0 } : Room).cells ({ frames := 0, cells := 0, slots := 0, locals := 0 } : Room).slots) := by
  refine MetFree.of_bodySF (plainFor_of_name pn_0) hisR ?_
  intro p e s m args below meth c s₁ Bd hml0 hP hK
  obtain ⟨rfl, hZ, hh⟩ := hP
  have hx := Bd.exec
  have hby := Bd.bytes
  have hlk : meth.locks = false := Bd.notSynchronized
  have hml : c.maxLocals = 4 := hml0
  have hown : s.vm.findClass "com/example/passivation/passivation/StoreIndex" = some m.cls := findClass_of_methodNamed Bd.named
  have hnm := (name_of_methodNamed Bd.named Bd.method).1
  have X0 : Stand p l e ({ frames := 0, cells := 0, slots := 0, locals := 0 } : Room) s m #[(.long p1)] below meth c s₁ [] 0 0 := Stand.of_body Bd
  have e0 : s₁.heap = h0 := by rw [← hh, Bd.state]; rfl
  have N0 := Fr.nil n0
  show Gl p e below s (Q1 Z p1  h0 n0) 0 0 s₁ (entryFrame m #[(.long p1)] 4)
  rw [ef_1 m p1]
  refine Gl.st (g' := (mkF m 1 #[.val (.long p1), .second, .unset, .unset] [(.long p1)])) (fun t k => XS.lloadN X0.here hx rfl (hb hby d1_0) rfl k) ?_
  refine Gl.st (g' := (mkF m 2 #[.val (.long p1), .second, .unset, .unset] [(.long p1), (.long p1)])) (fun t k => XS.lloadN X0.here hx rfl (hb hby d1_1) rfl k) ?_
  refine Gl.st (g' := (mkF m 4 #[.val (.long p1), .second, .unset, .unset] [(.int (33 : Int32)), (.long p1), (.long p1)])) (fun t k => XT.bipushV X0.here hx rfl (33 : Int32) (hb hby d1_2) rfl k) ?_
  refine Gl.st (g' := (mkF m 5 #[.val (.long p1), .second, .unset, .unset] [(.long (((p1).toUInt64 >>> ((33 : Int32) &&& 0x3f).toInt64.toUInt64).toInt64)), (.long p1)])) (fun t k => XS.lushr X0.here hx rfl (hb hby d1_4) rfl k) ?_
  refine Gl.st (g' := (mkF m 6 #[.val (.long p1), .second, .unset, .unset] [(.long (p1 ^^^ (((p1).toUInt64 >>> ((33 : Int32) &&& 0x3f).toInt64.toUInt64).toInt64)))])) (fun t k => XS.lxor X0.here hx rfl (hb hby d1_5) rfl k) ?_
  refine Gl.st (g' := (mkF m 9 #[.val (.long p1), .second, .unset, .unset] [(.long (-49064778989728563 : Int64)), (.long (p1 ^^^ (((p1).toUInt64 >>> ((33 : Int32) &&& 0x3f).toInt64.toUInt64).toInt64)))])) (fun t k => X0.ldc2J hx hown (mvT hZ (hw _ (List.mem_of_getElem? (i := 4) rfl))) rfl (hb hby d1_6) k) ?_
  refine Gl.st (g' := (mkF m 10 #[.val (.long p1), .second, .unset, .unset] [(.long ((p1 ^^^ (((p1).toUInt64 >>> ((33 : Int32) &&& 0x3f).toInt64.toUInt64).toInt64)) * (-49064778989728563 : Int64)))])) (fun t k => XS.lmul X0.here hx rfl (hb hby d1_9) rfl k) ?_
  generalize hv1 : ((p1 ^^^ (((p1).toUInt64 >>> ((33 : Int32) &&& 0x3f).toInt64.toUInt64).toInt64)) * (-49064778989728563 : Int64)) = v1
  refine Gl.st (g' := (mkF m 11 #[.val (.long p1), .second, .val (.long v1), .second] [])) (fun t k => XS.lstoreN X0.here hx rfl (hb hby d1_10) rfl (l' := #[.val (.long p1), .second, .val (.long v1), .second]) rfl k) ?_
  refine Gl.st (g' := (mkF m 12 #[.val (.long p1), .second, .val (.long v1), .second] [(.long v1)])) (fun t k => XS.lloadN X0.here hx rfl (hb hby d1_11) rfl k) ?_
  refine Gl.st (g' := (mkF m 13 #[.val (.long p1), .second, .val (.long v1), .second] [(.long v1), (.long v1)])) (fun t k => XS.lloadN X0.here hx rfl (hb hby d1_12) rfl k) ?_
  refine Gl.st (g' := (mkF m 15 #[.val (.long p1), .second, .val (.long v1), .second] [(.int (33 : Int32)), (.long v1), (.long v1)])) (fun t k => XT.bipushV X0.here hx rfl (33 : Int32) (hb hby d1_13) rfl k) ?_
  refine Gl.st (g' := (mkF m 16 #[.val (.long p1), .second, .val (.long v1), .second] [(.long (((v1).toUInt64 >>> ((33 : Int32) &&& 0x3f).toInt64.toUInt64).toInt64)), (.long v1)])) (fun t k => XS.lushr X0.here hx rfl (hb hby d1_15) rfl k) ?_
  refine Gl.st (g' := (mkF m 17 #[.val (.long p1), .second, .val (.long v1), .second] [(.long (v1 ^^^ (((v1).toUInt64 >>> ((33 : Int32) &&& 0x3f).toInt64.toUInt64).toInt64)))])) (fun t k => XS.lxor X0.here hx rfl (hb hby d1_16) rfl k) ?_
  refine Gl.st (g' := (mkF m 20 #[.val (.long p1), .second, .val (.long v1), .second] [(.long (-4265267296055464877 : Int64)), (.long (v1 ^^^ (((v1).toUInt64 >>> ((33 : Int32) &&& 0x3f).toInt64.toUInt64).toInt64)))])) (fun t k => X0.ldc2J hx hown (mvT hZ (hw _ (List.mem_of_getElem? (i := 5) rfl))) rfl (hb hby d1_17) k) ?_
  refine Gl.st (g' := (mkF m 21 #[.val (.long p1), .second, .val (.long v1), .second] [(.long ((v1 ^^^ (((v1).toUInt64 >>> ((33 : Int32) &&& 0x3f).toInt64.toUInt64).toInt64)) * (-4265267296055464877 : Int64)))])) (fun t k => XS.lmul X0.here hx rfl (hb hby d1_20) rfl k) ?_
  generalize hv2 : ((v1 ^^^ (((v1).toUInt64 >>> ((33 : Int32) &&& 0x3f).toInt64.toUInt64).toInt64)) * (-4265267296055464877 : Int64)) = v2
  refine Gl.st (g' := (mkF m 22 #[.val (.long p1), .second, .val (.long v2), .second] [])) (fun t k => XS.lstoreN X0.here hx rfl (hb hby d1_21) rfl (l' := #[.val (.long p1), .second, .val (.long v2), .second]) rfl k) ?_
  refine Gl.st (g' := (mkF m 23 #[.val (.long p1), .second, .val (.long v2), .second] [(.long v2)])) (fun t k => XS.lloadN X0.here hx rfl (hb hby d1_22) rfl k) ?_
  refine Gl.st (g' := (mkF m 24 #[.val (.long p1), .second, .val (.long v2), .second] [(.long v2), (.long v2)])) (fun t k => XS.lloadN X0.here hx rfl (hb hby d1_23) rfl k) ?_
  refine Gl.st (g' := (mkF m 26 #[.val (.long p1), .second, .val (.long v2), .second] [(.int (33 : Int32)), (.long v2), (.long v2)])) (fun t k => XT.bipushV X0.here hx rfl (33 : Int32) (hb hby d1_24) rfl k) ?_
  refine Gl.st (g' := (mkF m 27 #[.val (.long p1), .second, .val (.long v2), .second] [(.long (((v2).toUInt64 >>> ((33 : Int32) &&& 0x3f).toInt64.toUInt64).toInt64)), (.long v2)])) (fun t k => XS.lushr X0.here hx rfl (hb hby d1_26) rfl k) ?_
  refine Gl.st (g' := (mkF m 28 #[.val (.long p1), .second, .val (.long v2), .second] [(.long (v2 ^^^ (((v2).toUInt64 >>> ((33 : Int32) &&& 0x3f).toInt64.toUInt64).toInt64)))])) (fun t k => XS.lxor X0.here hx rfl (hb hby d1_27) rfl k) ?_
  refine Gl.retL X0 hx hlk Bd.returns (hb hby d1_28) e0 (by decide) (by decide) ?_
  refine ⟨?_, N0, rfl⟩
  subst hv1 hv2
  rfl
theorem d2_0 : decode method_4_code 0 = .ok (.lload_n 0, 1) := by decide +kernel
theorem d2_1 : decode method_4_code 1 = .ok (.lload_n 0, 1) := by decide +kernel
theorem d2_2 : decode method_4_code 2 = .ok (.bipush 33, 2) := by decide +kernel
theorem d2_4 : decode method_4_code 4 = .ok (.lushr, 1) := by decide +kernel
theorem d2_5 : decode method_4_code 5 = .ok (.lxor, 1) := by decide +kernel
theorem d2_6 : decode method_4_code 6 = .ok (.lreturn, 1) := by decide +kernel
theorem pn_1 : plainName "com/example/passivation/passivation/StoreIndexMixPinLaw" = true := by first | (simp [plainName, overriddenIn]; done) | decide +kernel
theorem ef_2 (m : MethodId) (p1 : Int64) : entryFrame m #[(.long p1)] 2 = mkF m 0 #[.val (.long p1), .second] [] := by first | (simp [entryFrame, mkF, argsToLocals, Value.category]; done) | rfl
def Q2 (Z : State) (p1 : Int64)  (h0 : Heap) (n0 : Nat) (v : Option Value) (h : Heap) (L : List Loc) : Prop := v = some (.long (own_sh p1)) ∧ Fr n0 L ∧ h = h0
set_option maxRecDepth 65536 in
set_option maxHeartbeats 40000000 in
theorem rm2 (l : Launch) (Z : State) (a0 : Array Value) (hw : ∀ d ∈ tables_1, d.before a0 Z = true) (p1 : Int64)  (h0 : Heap) (n0 : Nat) (Z0 : n0 ≤ h0.size)  :
    MetFree l (⟨"com/example/passivation/passivation/StoreIndexMixPinLaw", "unshift", "(J)J"⟩ : MethodName) (head1 [Jvm.Cond.code (⟨"com/example/passivation/passivation/StoreIndexMixPinLaw", "unshift", "(J)J"⟩ : MethodName) method_4_code 2 (some .long)] ({ frames := 0, cells := 0, slots := 0, locals := 0 } : Room)) (fun a U => a = #[(.long p1)] ∧ Z.Warmed39 U.vm ∧ U.heap = h0) (fun _ _ _ _ _ => True) (fun _ U o U' => ∃ v L, o = .returned v ∧ Q2 Z p1  h0 n0 v U'.heap L ∧ FrameEnd U o U' L ({ frames := 0, cells := 0, slots := 0, locals := 0 } : Room).cells ({ frames := 0, cells := 0, slots := 0, locals := 0 } : Room).slots) := by
  refine MetFree.of_bodySF (plainFor_of_name pn_1) hisR ?_
  intro p e s m args below meth c s₁ Bd hml0 hP hK
  obtain ⟨rfl, hZ, hh⟩ := hP
  have hx := Bd.exec
  have hby := Bd.bytes
  have hlk : meth.locks = false := Bd.notSynchronized
  have hml : c.maxLocals = 2 := hml0
  have hown : s.vm.findClass "com/example/passivation/passivation/StoreIndexMixPinLaw" = some m.cls := findClass_of_methodNamed Bd.named
  have hnm := (name_of_methodNamed Bd.named Bd.method).1
  have X0 : Stand p l e ({ frames := 0, cells := 0, slots := 0, locals := 0 } : Room) s m #[(.long p1)] below meth c s₁ [] 0 0 := Stand.of_body Bd
  have e0 : s₁.heap = h0 := by rw [← hh, Bd.state]; rfl
  have N0 := Fr.nil n0
  show Gl p e below s (Q2 Z p1  h0 n0) 0 0 s₁ (entryFrame m #[(.long p1)] 2)
  rw [ef_2 m p1]
  refine Gl.st (g' := (mkF m 1 #[.val (.long p1), .second] [(.long p1)])) (fun t k => XS.lloadN X0.here hx rfl (hb hby d2_0) rfl k) ?_
  refine Gl.st (g' := (mkF m 2 #[.val (.long p1), .second] [(.long p1), (.long p1)])) (fun t k => XS.lloadN X0.here hx rfl (hb hby d2_1) rfl k) ?_
  refine Gl.st (g' := (mkF m 4 #[.val (.long p1), .second] [(.int (33 : Int32)), (.long p1), (.long p1)])) (fun t k => XT.bipushV X0.here hx rfl (33 : Int32) (hb hby d2_2) rfl k) ?_
  refine Gl.st (g' := (mkF m 5 #[.val (.long p1), .second] [(.long (((p1).toUInt64 >>> ((33 : Int32) &&& 0x3f).toInt64.toUInt64).toInt64)), (.long p1)])) (fun t k => XS.lushr X0.here hx rfl (hb hby d2_4) rfl k) ?_
  refine Gl.st (g' := (mkF m 6 #[.val (.long p1), .second] [(.long (p1 ^^^ (((p1).toUInt64 >>> ((33 : Int32) &&& 0x3f).toInt64.toUInt64).toInt64)))])) (fun t k => XS.lxor X0.here hx rfl (hb hby d2_5) rfl k) ?_
  refine Gl.retL X0 hx hlk Bd.returns (hb hby d2_6) e0 (by decide) (by decide) ?_
  refine ⟨?_, N0, rfl⟩
  rfl
theorem d3_0 : decode method_3_code 0 = .ok (.lload_n 0, 1) := by decide +kernel
theorem d3_1 : decode method_3_code 1 = .ok (.lstore_n 2, 1) := by decide +kernel
theorem d3_2 : decode method_3_code 2 = .ok (.lload_n 2, 1) := by decide +kernel
theorem d3_3 : decode method_3_code 3 = .ok (.ldc2_w 18, 3) := by decide +kernel
theorem d3_6 : decode method_3_code 6 = .ok (.lload_n 0, 1) := by decide +kernel
theorem d3_7 : decode method_3_code 7 = .ok (.lload_n 2, 1) := by decide +kernel
theorem d3_8 : decode method_3_code 8 = .ok (.lmul, 1) := by decide +kernel
theorem d3_9 : decode method_3_code 9 = .ok (.lsub, 1) := by decide +kernel
theorem d3_10 : decode method_3_code 10 = .ok (.lmul, 1) := by decide +kernel
theorem d3_11 : decode method_3_code 11 = .ok (.lstore_n 2, 1) := by decide +kernel
theorem d3_12 : decode method_3_code 12 = .ok (.lload_n 2, 1) := by decide +kernel
theorem d3_13 : decode method_3_code 13 = .ok (.ldc2_w 18, 3) := by decide +kernel
theorem d3_16 : decode method_3_code 16 = .ok (.lload_n 0, 1) := by decide +kernel
theorem d3_17 : decode method_3_code 17 = .ok (.lload_n 2, 1) := by decide +kernel
theorem d3_18 : decode method_3_code 18 = .ok (.lmul, 1) := by decide +kernel
theorem d3_19 : decode method_3_code 19 = .ok (.lsub, 1) := by decide +kernel
theorem d3_20 : decode method_3_code 20 = .ok (.lmul, 1) := by decide +kernel
theorem d3_21 : decode method_3_code 21 = .ok (.lstore_n 2, 1) := by decide +kernel
theorem d3_22 : decode method_3_code 22 = .ok (.lload_n 2, 1) := by decide +kernel
theorem d3_23 : decode method_3_code 23 = .ok (.ldc2_w 18, 3) := by decide +kernel
theorem d3_26 : decode method_3_code 26 = .ok (.lload_n 0, 1) := by decide +kernel
theorem d3_27 : decode method_3_code 27 = .ok (.lload_n 2, 1) := by decide +kernel
theorem d3_28 : decode method_3_code 28 = .ok (.lmul, 1) := by decide +kernel
theorem d3_29 : decode method_3_code 29 = .ok (.lsub, 1) := by decide +kernel
theorem d3_30 : decode method_3_code 30 = .ok (.lmul, 1) := by decide +kernel
theorem d3_31 : decode method_3_code 31 = .ok (.lstore_n 2, 1) := by decide +kernel
theorem d3_32 : decode method_3_code 32 = .ok (.lload_n 2, 1) := by decide +kernel
theorem d3_33 : decode method_3_code 33 = .ok (.ldc2_w 18, 3) := by decide +kernel
theorem d3_36 : decode method_3_code 36 = .ok (.lload_n 0, 1) := by decide +kernel
theorem d3_37 : decode method_3_code 37 = .ok (.lload_n 2, 1) := by decide +kernel
theorem d3_38 : decode method_3_code 38 = .ok (.lmul, 1) := by decide +kernel
theorem d3_39 : decode method_3_code 39 = .ok (.lsub, 1) := by decide +kernel
theorem d3_40 : decode method_3_code 40 = .ok (.lmul, 1) := by decide +kernel
theorem d3_41 : decode method_3_code 41 = .ok (.lstore_n 2, 1) := by decide +kernel
theorem d3_42 : decode method_3_code 42 = .ok (.lload_n 2, 1) := by decide +kernel
theorem d3_43 : decode method_3_code 43 = .ok (.ldc2_w 18, 3) := by decide +kernel
theorem d3_46 : decode method_3_code 46 = .ok (.lload_n 0, 1) := by decide +kernel
theorem d3_47 : decode method_3_code 47 = .ok (.lload_n 2, 1) := by decide +kernel
theorem d3_48 : decode method_3_code 48 = .ok (.lmul, 1) := by decide +kernel
theorem d3_49 : decode method_3_code 49 = .ok (.lsub, 1) := by decide +kernel
theorem d3_50 : decode method_3_code 50 = .ok (.lmul, 1) := by decide +kernel
theorem d3_51 : decode method_3_code 51 = .ok (.lstore_n 2, 1) := by decide +kernel
theorem d3_52 : decode method_3_code 52 = .ok (.lload_n 2, 1) := by decide +kernel
theorem d3_53 : decode method_3_code 53 = .ok (.lreturn, 1) := by decide +kernel
theorem ef_3 (m : MethodId) (p1 : Int64) : entryFrame m #[(.long p1)] 4 = mkF m 0 #[.val (.long p1), .second, .unset, .unset] [] := by first | (simp [entryFrame, mkF, argsToLocals, Value.category]; done) | rfl
def Q3 (Z : State) (p1 : Int64)  (h0 : Heap) (n0 : Nat) (v : Option Value) (h : Heap) (L : List Loc) : Prop := v = some (.long (own_inv p1)) ∧ Fr n0 L ∧ h = h0
set_option maxRecDepth 65536 in
set_option maxHeartbeats 40000000 in
theorem rm3 (l : Launch) (Z : State) (a0 : Array Value) (hw : ∀ d ∈ tables_1, d.before a0 Z = true) (p1 : Int64)  (h0 : Heap) (n0 : Nat) (Z0 : n0 ≤ h0.size)  :
    MetFree l (⟨"com/example/passivation/passivation/StoreIndexMixPinLaw", "inverse", "(J)J"⟩ : MethodName) (head1 [Jvm.Cond.code (⟨"com/example/passivation/passivation/StoreIndexMixPinLaw", "inverse", "(J)J"⟩ : MethodName) method_3_code 4 (some .long)] ({ frames := 0, cells := 0, slots := 0, locals := 0 } : Room)) (fun a U => a = #[(.long p1)] ∧ Z.Warmed39 U.vm ∧ U.heap = h0) (fun _ _ _ _ _ => True) (fun _ U o U' => ∃ v L, o = .returned v ∧ Q3 Z p1  h0 n0 v U'.heap L ∧ FrameEnd U o U' L ({ frames := 0, cells := 0, slots := 0, locals := 0 } : Room).cells ({ frames := 0, cells := 0, slots := 0, locals := 0 } : Room).slots) := by
  refine MetFree.of_bodySF (plainFor_of_name pn_1) hisR ?_
  intro p e s m args below meth c s₁ Bd hml0 hP hK
  obtain ⟨rfl, hZ, hh⟩ := hP
  have hx := Bd.exec
  have hby := Bd.bytes
  have hlk : meth.locks = false := Bd.notSynchronized
  have hml : c.maxLocals = 4 := hml0
  have hown : s.vm.findClass "com/example/passivation/passivation/StoreIndexMixPinLaw" = some m.cls := findClass_of_methodNamed Bd.named
  have hnm := (name_of_methodNamed Bd.named Bd.method).1
  have X0 : Stand p l e ({ frames := 0, cells := 0, slots := 0, locals := 0 } : Room) s m #[(.long p1)] below meth c s₁ [] 0 0 := Stand.of_body Bd
  have e0 : s₁.heap = h0 := by rw [← hh, Bd.state]; rfl
  have N0 := Fr.nil n0
  show Gl p e below s (Q3 Z p1  h0 n0) 0 0 s₁ (entryFrame m #[(.long p1)] 4)
  rw [ef_3 m p1]
  refine Gl.st (g' := (mkF m 1 #[.val (.long p1), .second, .unset, .unset] [(.long p1)])) (fun t k => XS.lloadN X0.here hx rfl (hb hby d3_0) rfl k) ?_
  refine Gl.st (g' := (mkF m 2 #[.val (.long p1), .second, .val (.long p1), .second] [])) (fun t k => XS.lstoreN X0.here hx rfl (hb hby d3_1) rfl (l' := #[.val (.long p1), .second, .val (.long p1), .second]) rfl k) ?_
  refine Gl.st (g' := (mkF m 3 #[.val (.long p1), .second, .val (.long p1), .second] [(.long p1)])) (fun t k => XS.lloadN X0.here hx rfl (hb hby d3_2) rfl k) ?_
  refine Gl.st (g' := (mkF m 6 #[.val (.long p1), .second, .val (.long p1), .second] [(.long (2 : Int64)), (.long p1)])) (fun t k => X0.ldc2J hx hown (mvT hZ (hw _ (List.mem_of_getElem? (i := 17) rfl))) rfl (hb hby d3_3) k) ?_
  refine Gl.st (g' := (mkF m 7 #[.val (.long p1), .second, .val (.long p1), .second] [(.long p1), (.long (2 : Int64)), (.long p1)])) (fun t k => XS.lloadN X0.here hx rfl (hb hby d3_6) rfl k) ?_
  refine Gl.st (g' := (mkF m 8 #[.val (.long p1), .second, .val (.long p1), .second] [(.long p1), (.long p1), (.long (2 : Int64)), (.long p1)])) (fun t k => XS.lloadN X0.here hx rfl (hb hby d3_7) rfl k) ?_
  refine Gl.st (g' := (mkF m 9 #[.val (.long p1), .second, .val (.long p1), .second] [(.long (p1 * p1)), (.long (2 : Int64)), (.long p1)])) (fun t k => XS.lmul X0.here hx rfl (hb hby d3_8) rfl k) ?_
  refine Gl.st (g' := (mkF m 10 #[.val (.long p1), .second, .val (.long p1), .second] [(.long ((2 : Int64) - (p1 * p1))), (.long p1)])) (fun t k => XS.lsub X0.here hx rfl (hb hby d3_9) rfl k) ?_
  refine Gl.st (g' := (mkF m 11 #[.val (.long p1), .second, .val (.long p1), .second] [(.long (p1 * ((2 : Int64) - (p1 * p1))))])) (fun t k => XS.lmul X0.here hx rfl (hb hby d3_10) rfl k) ?_
  generalize hv3 : (p1 * ((2 : Int64) - (p1 * p1))) = v3
  refine Gl.st (g' := (mkF m 12 #[.val (.long p1), .second, .val (.long v3), .second] [])) (fun t k => XS.lstoreN X0.here hx rfl (hb hby d3_11) rfl (l' := #[.val (.long p1), .second, .val (.long v3), .second]) rfl k) ?_
  refine Gl.st (g' := (mkF m 13 #[.val (.long p1), .second, .val (.long v3), .second] [(.long v3)])) (fun t k => XS.lloadN X0.here hx rfl (hb hby d3_12) rfl k) ?_
  refine Gl.st (g' := (mkF m 16 #[.val (.long p1), .second, .val (.long v3), .second] [(.long (2 : Int64)), (.long v3)])) (fun t k => X0.ldc2J hx hown (mvT hZ (hw _ (List.mem_of_getElem? (i := 17) rfl))) rfl (hb hby d3_13) k) ?_
  refine Gl.st (g' := (mkF m 17 #[.val (.long p1), .second, .val (.long v3), .second] [(.long p1), (.long (2 : Int64)), (.long v3)])) (fun t k => XS.lloadN X0.here hx rfl (hb hby d3_16) rfl k) ?_
  refine Gl.st (g' := (mkF m 18 #[.val (.long p1), .second, .val (.long v3), .second] [(.long v3), (.long p1), (.long (2 : Int64)), (.long v3)])) (fun t k => XS.lloadN X0.here hx rfl (hb hby d3_17) rfl k) ?_
  refine Gl.st (g' := (mkF m 19 #[.val (.long p1), .second, .val (.long v3), .second] [(.long (p1 * v3)), (.long (2 : Int64)), (.long v3)])) (fun t k => XS.lmul X0.here hx rfl (hb hby d3_18) rfl k) ?_
  refine Gl.st (g' := (mkF m 20 #[.val (.long p1), .second, .val (.long v3), .second] [(.long ((2 : Int64) - (p1 * v3))), (.long v3)])) (fun t k => XS.lsub X0.here hx rfl (hb hby d3_19) rfl k) ?_
  refine Gl.st (g' := (mkF m 21 #[.val (.long p1), .second, .val (.long v3), .second] [(.long (v3 * ((2 : Int64) - (p1 * v3))))])) (fun t k => XS.lmul X0.here hx rfl (hb hby d3_20) rfl k) ?_
  generalize hv4 : (v3 * ((2 : Int64) - (p1 * v3))) = v4
  refine Gl.st (g' := (mkF m 22 #[.val (.long p1), .second, .val (.long v4), .second] [])) (fun t k => XS.lstoreN X0.here hx rfl (hb hby d3_21) rfl (l' := #[.val (.long p1), .second, .val (.long v4), .second]) rfl k) ?_
  refine Gl.st (g' := (mkF m 23 #[.val (.long p1), .second, .val (.long v4), .second] [(.long v4)])) (fun t k => XS.lloadN X0.here hx rfl (hb hby d3_22) rfl k) ?_
  refine Gl.st (g' := (mkF m 26 #[.val (.long p1), .second, .val (.long v4), .second] [(.long (2 : Int64)), (.long v4)])) (fun t k => X0.ldc2J hx hown (mvT hZ (hw _ (List.mem_of_getElem? (i := 17) rfl))) rfl (hb hby d3_23) k) ?_
  refine Gl.st (g' := (mkF m 27 #[.val (.long p1), .second, .val (.long v4), .second] [(.long p1), (.long (2 : Int64)), (.long v4)])) (fun t k => XS.lloadN X0.here hx rfl (hb hby d3_26) rfl k) ?_
  refine Gl.st (g' := (mkF m 28 #[.val (.long p1), .second, .val (.long v4), .second] [(.long v4), (.long p1), (.long (2 : Int64)), (.long v4)])) (fun t k => XS.lloadN X0.here hx rfl (hb hby d3_27) rfl k) ?_
  refine Gl.st (g' := (mkF m 29 #[.val (.long p1), .second, .val (.long v4), .second] [(.long (p1 * v4)), (.long (2 : Int64)), (.long v4)])) (fun t k => XS.lmul X0.here hx rfl (hb hby d3_28) rfl k) ?_
  refine Gl.st (g' := (mkF m 30 #[.val (.long p1), .second, .val (.long v4), .second] [(.long ((2 : Int64) - (p1 * v4))), (.long v4)])) (fun t k => XS.lsub X0.here hx rfl (hb hby d3_29) rfl k) ?_
  refine Gl.st (g' := (mkF m 31 #[.val (.long p1), .second, .val (.long v4), .second] [(.long (v4 * ((2 : Int64) - (p1 * v4))))])) (fun t k => XS.lmul X0.here hx rfl (hb hby d3_30) rfl k) ?_
  generalize hv5 : (v4 * ((2 : Int64) - (p1 * v4))) = v5
  refine Gl.st (g' := (mkF m 32 #[.val (.long p1), .second, .val (.long v5), .second] [])) (fun t k => XS.lstoreN X0.here hx rfl (hb hby d3_31) rfl (l' := #[.val (.long p1), .second, .val (.long v5), .second]) rfl k) ?_
  refine Gl.st (g' := (mkF m 33 #[.val (.long p1), .second, .val (.long v5), .second] [(.long v5)])) (fun t k => XS.lloadN X0.here hx rfl (hb hby d3_32) rfl k) ?_
  refine Gl.st (g' := (mkF m 36 #[.val (.long p1), .second, .val (.long v5), .second] [(.long (2 : Int64)), (.long v5)])) (fun t k => X0.ldc2J hx hown (mvT hZ (hw _ (List.mem_of_getElem? (i := 17) rfl))) rfl (hb hby d3_33) k) ?_
  refine Gl.st (g' := (mkF m 37 #[.val (.long p1), .second, .val (.long v5), .second] [(.long p1), (.long (2 : Int64)), (.long v5)])) (fun t k => XS.lloadN X0.here hx rfl (hb hby d3_36) rfl k) ?_
  refine Gl.st (g' := (mkF m 38 #[.val (.long p1), .second, .val (.long v5), .second] [(.long v5), (.long p1), (.long (2 : Int64)), (.long v5)])) (fun t k => XS.lloadN X0.here hx rfl (hb hby d3_37) rfl k) ?_
  refine Gl.st (g' := (mkF m 39 #[.val (.long p1), .second, .val (.long v5), .second] [(.long (p1 * v5)), (.long (2 : Int64)), (.long v5)])) (fun t k => XS.lmul X0.here hx rfl (hb hby d3_38) rfl k) ?_
  refine Gl.st (g' := (mkF m 40 #[.val (.long p1), .second, .val (.long v5), .second] [(.long ((2 : Int64) - (p1 * v5))), (.long v5)])) (fun t k => XS.lsub X0.here hx rfl (hb hby d3_39) rfl k) ?_
  refine Gl.st (g' := (mkF m 41 #[.val (.long p1), .second, .val (.long v5), .second] [(.long (v5 * ((2 : Int64) - (p1 * v5))))])) (fun t k => XS.lmul X0.here hx rfl (hb hby d3_40) rfl k) ?_
  generalize hv6 : (v5 * ((2 : Int64) - (p1 * v5))) = v6
  refine Gl.st (g' := (mkF m 42 #[.val (.long p1), .second, .val (.long v6), .second] [])) (fun t k => XS.lstoreN X0.here hx rfl (hb hby d3_41) rfl (l' := #[.val (.long p1), .second, .val (.long v6), .second]) rfl k) ?_
  refine Gl.st (g' := (mkF m 43 #[.val (.long p1), .second, .val (.long v6), .second] [(.long v6)])) (fun t k => XS.lloadN X0.here hx rfl (hb hby d3_42) rfl k) ?_
  refine Gl.st (g' := (mkF m 46 #[.val (.long p1), .second, .val (.long v6), .second] [(.long (2 : Int64)), (.long v6)])) (fun t k => X0.ldc2J hx hown (mvT hZ (hw _ (List.mem_of_getElem? (i := 17) rfl))) rfl (hb hby d3_43) k) ?_
  refine Gl.st (g' := (mkF m 47 #[.val (.long p1), .second, .val (.long v6), .second] [(.long p1), (.long (2 : Int64)), (.long v6)])) (fun t k => XS.lloadN X0.here hx rfl (hb hby d3_46) rfl k) ?_
  refine Gl.st (g' := (mkF m 48 #[.val (.long p1), .second, .val (.long v6), .second] [(.long v6), (.long p1), (.long (2 : Int64)), (.long v6)])) (fun t k => XS.lloadN X0.here hx rfl (hb hby d3_47) rfl k) ?_
  refine Gl.st (g' := (mkF m 49 #[.val (.long p1), .second, .val (.long v6), .second] [(.long (p1 * v6)), (.long (2 : Int64)), (.long v6)])) (fun t k => XS.lmul X0.here hx rfl (hb hby d3_48) rfl k) ?_
  refine Gl.st (g' := (mkF m 50 #[.val (.long p1), .second, .val (.long v6), .second] [(.long ((2 : Int64) - (p1 * v6))), (.long v6)])) (fun t k => XS.lsub X0.here hx rfl (hb hby d3_49) rfl k) ?_
  refine Gl.st (g' := (mkF m 51 #[.val (.long p1), .second, .val (.long v6), .second] [(.long (v6 * ((2 : Int64) - (p1 * v6))))])) (fun t k => XS.lmul X0.here hx rfl (hb hby d3_50) rfl k) ?_
  generalize hv7 : (v6 * ((2 : Int64) - (p1 * v6))) = v7
  refine Gl.st (g' := (mkF m 52 #[.val (.long p1), .second, .val (.long v7), .second] [])) (fun t k => XS.lstoreN X0.here hx rfl (hb hby d3_51) rfl (l' := #[.val (.long p1), .second, .val (.long v7), .second]) rfl k) ?_
  refine Gl.st (g' := (mkF m 53 #[.val (.long p1), .second, .val (.long v7), .second] [(.long v7)])) (fun t k => XS.lloadN X0.here hx rfl (hb hby d3_52) rfl k) ?_
  refine Gl.retL X0 hx hlk Bd.returns (hb hby d3_53) e0 (by decide) (by decide) ?_
  refine ⟨?_, N0, rfl⟩
  subst hv3 hv4 hv5 hv6 hv7
  rfl
theorem pd_0 : parseMethodDescriptor "(J)J" = some ⟨[.long], some .long⟩ := by decide +kernel
theorem d4_0 : decode method_5_code 0 = .ok (.lload_n 0, 1) := by decide +kernel
theorem d4_1 : decode method_5_code 1 = .ok (.invokestatic 20, 3) := by decide +kernel
theorem d4_4 : decode method_5_code 4 = .ok (.lstore_n 2, 1) := by decide +kernel
theorem d4_5 : decode method_5_code 5 = .ok (.lload_n 2, 1) := by decide +kernel
theorem d4_6 : decode method_5_code 6 = .ok (.ldc2_w 23, 3) := by decide +kernel
theorem d4_9 : decode method_5_code 9 = .ok (.invokestatic 25, 3) := by decide +kernel
theorem d4_12 : decode method_5_code 12 = .ok (.lmul, 1) := by decide +kernel
theorem d4_13 : decode method_5_code 13 = .ok (.lstore_n 2, 1) := by decide +kernel
theorem d4_14 : decode method_5_code 14 = .ok (.lload_n 2, 1) := by decide +kernel
theorem d4_15 : decode method_5_code 15 = .ok (.invokestatic 20, 3) := by decide +kernel
theorem d4_18 : decode method_5_code 18 = .ok (.lstore_n 2, 1) := by decide +kernel
theorem d4_19 : decode method_5_code 19 = .ok (.lload_n 2, 1) := by decide +kernel
theorem d4_20 : decode method_5_code 20 = .ok (.ldc2_w 28, 3) := by decide +kernel
theorem d4_23 : decode method_5_code 23 = .ok (.invokestatic 25, 3) := by decide +kernel
theorem d4_26 : decode method_5_code 26 = .ok (.lmul, 1) := by decide +kernel
theorem d4_27 : decode method_5_code 27 = .ok (.lstore_n 2, 1) := by decide +kernel
theorem d4_28 : decode method_5_code 28 = .ok (.lload_n 2, 1) := by decide +kernel
theorem d4_29 : decode method_5_code 29 = .ok (.invokestatic 20, 3) := by decide +kernel
theorem d4_32 : decode method_5_code 32 = .ok (.lreturn, 1) := by decide +kernel
theorem ef_4 (m : MethodId) (p1 : Int64) : entryFrame m #[(.long p1)] 4 = mkF m 0 #[.val (.long p1), .second, .unset, .unset] [] := by first | (simp [entryFrame, mkF, argsToLocals, Value.category]; done) | rfl
def Q4 (Z : State) (p1 : Int64)  (h0 : Heap) (n0 : Nat) (v : Option Value) (h : Heap) (L : List Loc) : Prop := v = some (.long (own_unmix p1)) ∧ Fr n0 L ∧ h = h0
set_option maxRecDepth 65536 in
set_option maxHeartbeats 40000000 in
theorem rm4 (l : Launch) (Z : State) (a0 : Array Value) (hw : ∀ d ∈ tables_1, d.before a0 Z = true) (p1 : Int64)  (h0 : Heap) (n0 : Nat) (Z0 : n0 ≤ h0.size)  :
    MetFree l (⟨"com/example/passivation/passivation/StoreIndexMixPinLaw", "unmix", "(J)J"⟩ : MethodName) (head1 [Jvm.Cond.code (⟨"com/example/passivation/passivation/StoreIndexMixPinLaw", "unmix", "(J)J"⟩ : MethodName) method_5_code 4 (some .long)] ({ frames := 1, cells := 0, slots := 0, locals := 24 } : Room)) (fun a U => a = #[(.long p1)] ∧ Z.Warmed39 U.vm ∧ U.heap = h0) (fun _ _ _ _ _ => True) (fun _ U o U' => ∃ v L, o = .returned v ∧ Q4 Z p1  h0 n0 v U'.heap L ∧ FrameEnd U o U' L ({ frames := 1, cells := 0, slots := 0, locals := 24 } : Room).cells ({ frames := 1, cells := 0, slots := 0, locals := 24 } : Room).slots) := by
  refine MetFree.of_bodySF (plainFor_of_name pn_1) hisR ?_
  intro p e s m args below meth c s₁ Bd hml0 hP hK
  obtain ⟨rfl, hZ, hh⟩ := hP
  have hx := Bd.exec
  have hby := Bd.bytes
  have hlk : meth.locks = false := Bd.notSynchronized
  have hml : c.maxLocals = 4 := hml0
  have hown : s.vm.findClass "com/example/passivation/passivation/StoreIndexMixPinLaw" = some m.cls := findClass_of_methodNamed Bd.named
  have hnm := (name_of_methodNamed Bd.named Bd.method).1
  have X0 : Stand p l e ({ frames := 1, cells := 0, slots := 0, locals := 24 } : Room) s m #[(.long p1)] below meth c s₁ [] 0 0 := Stand.of_body Bd
  have e0 : s₁.heap = h0 := by rw [← hh, Bd.state]; rfl
  have N0 := Fr.nil n0
  show Gl p e below s (Q4 Z p1  h0 n0) 0 0 s₁ (entryFrame m #[(.long p1)] 4)
  rw [ef_4 m p1]
  refine Gl.st (g' := (mkF m 1 #[.val (.long p1), .second, .unset, .unset] [(.long p1)])) (fun t k => XS.lloadN X0.here hx rfl (hb hby d4_0) rfl k) ?_
  obtain ⟨_, _, ⟨T8, L8, k8, n8⟩, -, X8, ⟨Lc8, hQ8, l8, y8, z8⟩, st8⟩ := Jvm.LawKit.callS X0 hx (y := (⟨"com/example/passivation/passivation/StoreIndexMixPinLaw", "unshift", "(J)J"⟩ : MethodName)) hown (mvT hZ (hw _ (List.mem_of_getElem? (i := 10) rfl))) (mvT hZ (hw _ (List.mem_of_getElem? (i := 11) rfl))) (mvT hZ (hw _ (List.mem_of_getElem? (i := 8) rfl))) (mvT hZ (hw _ (List.mem_of_getElem? (i := 12) rfl))) (by decide) (backOf (W := 0) (rm2 l Z a0 hw p1  h0 n0 Z0 ) hZ (hw _ (List.mem_of_getElem? (i := 12) rfl)) (hw _ (List.mem_of_getElem? (i := 8) rfl)) (by decide) (by decide)) (g := (mkF m 1 #[.val (.long p1), .second, .unset, .unset] [(.long p1)])) rfl (by rw [hml]; rfl) (argsL := [(.long p1)]) (rest := []) (lenOf pd_0 rfl) rfl (by show 2 * 0 + _ ≤ _; exact Nat.le_of_eq rfl) (hb hby d4_1) (fun _ _ => ⟨rfl, e0, (by decide : 0 + 0 ≤ _), (by decide : 0 + 0 ≤ _)⟩)
  dsimp only [Pt.U, Pt.locs, Pt.cells, Pt.slots] at X8 l8 y8 z8 st8 hQ8
  subst l8 y8 z8
  obtain ⟨rfl, Nq8, e8⟩ := hQ8
  have N8 := Fr.app N0 Nq8
  refine Gl.st (g' := (mkF m 4 #[.val (.long p1), .second, .unset, .unset] [(.long (own_sh p1))])) st8 ?_
  generalize hv9 : (own_sh p1) = v9
  refine Gl.st (g' := (mkF m 5 #[.val (.long p1), .second, .val (.long v9), .second] [])) (fun t k => XS.lstoreN X8.here hx rfl (hb hby d4_4) rfl (l' := #[.val (.long p1), .second, .val (.long v9), .second]) rfl k) ?_
  refine Gl.st (g' := (mkF m 6 #[.val (.long p1), .second, .val (.long v9), .second] [(.long v9)])) (fun t k => XS.lloadN X8.here hx rfl (hb hby d4_5) rfl k) ?_
  refine Gl.st (g' := (mkF m 9 #[.val (.long p1), .second, .val (.long v9), .second] [(.long (-4265267296055464877 : Int64)), (.long v9)])) (fun t k => X8.ldc2J hx hown (mvT hZ (hw _ (List.mem_of_getElem? (i := 13) rfl))) rfl (hb hby d4_6) k) ?_
  obtain ⟨_, _, ⟨T10, L10, k10, n10⟩, -, X10, ⟨Lc10, hQ10, l10, y10, z10⟩, st10⟩ := Jvm.LawKit.callS X8 hx (y := (⟨"com/example/passivation/passivation/StoreIndexMixPinLaw", "inverse", "(J)J"⟩ : MethodName)) hown (mvT hZ (hw _ (List.mem_of_getElem? (i := 14) rfl))) (mvT hZ (hw _ (List.mem_of_getElem? (i := 15) rfl))) (mvT hZ (hw _ (List.mem_of_getElem? (i := 8) rfl))) (mvT hZ (hw _ (List.mem_of_getElem? (i := 16) rfl))) (by decide) (backOf (W := 2) (rm3 l Z a0 hw (-4265267296055464877 : Int64)  h0 n0 Z0 ) hZ (hw _ (List.mem_of_getElem? (i := 16) rfl)) (hw _ (List.mem_of_getElem? (i := 8) rfl)) (by decide) (by decide)) (g := (mkF m 9 #[.val (.long p1), .second, .val (.long v9), .second] [(.long (-4265267296055464877 : Int64)), (.long v9)])) rfl (by rw [hml]; rfl) (argsL := [(.long (-4265267296055464877 : Int64))]) (rest := [(.long v9)]) (lenOf pd_0 rfl) rfl (by show 2 * 0 + _ ≤ _; exact Nat.le_of_eq rfl) (hb hby d4_9) (fun _ _ => ⟨rfl, e8, (by decide : 0 + 0 + 0 ≤ _), (by decide : 0 + 0 + 0 ≤ _)⟩)
  dsimp only [Pt.U, Pt.locs, Pt.cells, Pt.slots] at X10 l10 y10 z10 st10 hQ10
  subst l10 y10 z10
  obtain ⟨rfl, Nq10, e10⟩ := hQ10
  have N10 := Fr.app N8 Nq10
  refine Gl.st (g' := (mkF m 12 #[.val (.long p1), .second, .val (.long v9), .second] [(.long (own_inv (-4265267296055464877 : Int64))), (.long v9)])) st10 ?_
  refine Gl.st (g' := (mkF m 13 #[.val (.long p1), .second, .val (.long v9), .second] [(.long (v9 * (own_inv (-4265267296055464877 : Int64))))])) (fun t k => XS.lmul X10.here hx rfl (hb hby d4_12) rfl k) ?_
  generalize hv11 : (v9 * (own_inv (-4265267296055464877 : Int64))) = v11
  refine Gl.st (g' := (mkF m 14 #[.val (.long p1), .second, .val (.long v11), .second] [])) (fun t k => XS.lstoreN X10.here hx rfl (hb hby d4_13) rfl (l' := #[.val (.long p1), .second, .val (.long v11), .second]) rfl k) ?_
  refine Gl.st (g' := (mkF m 15 #[.val (.long p1), .second, .val (.long v11), .second] [(.long v11)])) (fun t k => XS.lloadN X10.here hx rfl (hb hby d4_14) rfl k) ?_
  obtain ⟨_, _, ⟨T12, L12, k12, n12⟩, -, X12, ⟨Lc12, hQ12, l12, y12, z12⟩, st12⟩ := Jvm.LawKit.callS X10 hx (y := (⟨"com/example/passivation/passivation/StoreIndexMixPinLaw", "unshift", "(J)J"⟩ : MethodName)) hown (mvT hZ (hw _ (List.mem_of_getElem? (i := 10) rfl))) (mvT hZ (hw _ (List.mem_of_getElem? (i := 11) rfl))) (mvT hZ (hw _ (List.mem_of_getElem? (i := 8) rfl))) (mvT hZ (hw _ (List.mem_of_getElem? (i := 12) rfl))) (by decide) (backOf (W := 0) (rm2 l Z a0 hw v11  h0 n0 Z0 ) hZ (hw _ (List.mem_of_getElem? (i := 12) rfl)) (hw _ (List.mem_of_getElem? (i := 8) rfl)) (by decide) (by decide)) (g := (mkF m 15 #[.val (.long p1), .second, .val (.long v11), .second] [(.long v11)])) rfl (by rw [hml]; rfl) (argsL := [(.long v11)]) (rest := []) (lenOf pd_0 rfl) rfl (by show 2 * 0 + _ ≤ _; exact Nat.le_of_eq rfl) (hb hby d4_15) (fun _ _ => ⟨rfl, e10, (by decide : 0 + 0 + 0 + 0 ≤ _), (by decide : 0 + 0 + 0 + 0 ≤ _)⟩)
  dsimp only [Pt.U, Pt.locs, Pt.cells, Pt.slots] at X12 l12 y12 z12 st12 hQ12
  subst l12 y12 z12
  obtain ⟨rfl, Nq12, e12⟩ := hQ12
  have N12 := Fr.app N10 Nq12
  refine Gl.st (g' := (mkF m 18 #[.val (.long p1), .second, .val (.long v11), .second] [(.long (own_sh v11))])) st12 ?_
  generalize hv13 : (own_sh v11) = v13
  refine Gl.st (g' := (mkF m 19 #[.val (.long p1), .second, .val (.long v13), .second] [])) (fun t k => XS.lstoreN X12.here hx rfl (hb hby d4_18) rfl (l' := #[.val (.long p1), .second, .val (.long v13), .second]) rfl k) ?_
  refine Gl.st (g' := (mkF m 20 #[.val (.long p1), .second, .val (.long v13), .second] [(.long v13)])) (fun t k => XS.lloadN X12.here hx rfl (hb hby d4_19) rfl k) ?_
  refine Gl.st (g' := (mkF m 23 #[.val (.long p1), .second, .val (.long v13), .second] [(.long (-49064778989728563 : Int64)), (.long v13)])) (fun t k => X12.ldc2J hx hown (mvT hZ (hw _ (List.mem_of_getElem? (i := 18) rfl))) rfl (hb hby d4_20) k) ?_
  obtain ⟨_, _, ⟨T14, L14, k14, n14⟩, -, X14, ⟨Lc14, hQ14, l14, y14, z14⟩, st14⟩ := Jvm.LawKit.callS X12 hx (y := (⟨"com/example/passivation/passivation/StoreIndexMixPinLaw", "inverse", "(J)J"⟩ : MethodName)) hown (mvT hZ (hw _ (List.mem_of_getElem? (i := 14) rfl))) (mvT hZ (hw _ (List.mem_of_getElem? (i := 15) rfl))) (mvT hZ (hw _ (List.mem_of_getElem? (i := 8) rfl))) (mvT hZ (hw _ (List.mem_of_getElem? (i := 16) rfl))) (by decide) (backOf (W := 2) (rm3 l Z a0 hw (-49064778989728563 : Int64)  h0 n0 Z0 ) hZ (hw _ (List.mem_of_getElem? (i := 16) rfl)) (hw _ (List.mem_of_getElem? (i := 8) rfl)) (by decide) (by decide)) (g := (mkF m 23 #[.val (.long p1), .second, .val (.long v13), .second] [(.long (-49064778989728563 : Int64)), (.long v13)])) rfl (by rw [hml]; rfl) (argsL := [(.long (-49064778989728563 : Int64))]) (rest := [(.long v13)]) (lenOf pd_0 rfl) rfl (by show 2 * 0 + _ ≤ _; exact Nat.le_of_eq rfl) (hb hby d4_23) (fun _ _ => ⟨rfl, e12, (by decide : 0 + 0 + 0 + 0 + 0 ≤ _), (by decide : 0 + 0 + 0 + 0 + 0 ≤ _)⟩)
  dsimp only [Pt.U, Pt.locs, Pt.cells, Pt.slots] at X14 l14 y14 z14 st14 hQ14
  subst l14 y14 z14
  obtain ⟨rfl, Nq14, e14⟩ := hQ14
  have N14 := Fr.app N12 Nq14
  refine Gl.st (g' := (mkF m 26 #[.val (.long p1), .second, .val (.long v13), .second] [(.long (own_inv (-49064778989728563 : Int64))), (.long v13)])) st14 ?_
  refine Gl.st (g' := (mkF m 27 #[.val (.long p1), .second, .val (.long v13), .second] [(.long (v13 * (own_inv (-49064778989728563 : Int64))))])) (fun t k => XS.lmul X14.here hx rfl (hb hby d4_26) rfl k) ?_
  generalize hv15 : (v13 * (own_inv (-49064778989728563 : Int64))) = v15
  refine Gl.st (g' := (mkF m 28 #[.val (.long p1), .second, .val (.long v15), .second] [])) (fun t k => XS.lstoreN X14.here hx rfl (hb hby d4_27) rfl (l' := #[.val (.long p1), .second, .val (.long v15), .second]) rfl k) ?_
  refine Gl.st (g' := (mkF m 29 #[.val (.long p1), .second, .val (.long v15), .second] [(.long v15)])) (fun t k => XS.lloadN X14.here hx rfl (hb hby d4_28) rfl k) ?_
  obtain ⟨_, _, ⟨T16, L16, k16, n16⟩, -, X16, ⟨Lc16, hQ16, l16, y16, z16⟩, st16⟩ := Jvm.LawKit.callS X14 hx (y := (⟨"com/example/passivation/passivation/StoreIndexMixPinLaw", "unshift", "(J)J"⟩ : MethodName)) hown (mvT hZ (hw _ (List.mem_of_getElem? (i := 10) rfl))) (mvT hZ (hw _ (List.mem_of_getElem? (i := 11) rfl))) (mvT hZ (hw _ (List.mem_of_getElem? (i := 8) rfl))) (mvT hZ (hw _ (List.mem_of_getElem? (i := 12) rfl))) (by decide) (backOf (W := 0) (rm2 l Z a0 hw v15  h0 n0 Z0 ) hZ (hw _ (List.mem_of_getElem? (i := 12) rfl)) (hw _ (List.mem_of_getElem? (i := 8) rfl)) (by decide) (by decide)) (g := (mkF m 29 #[.val (.long p1), .second, .val (.long v15), .second] [(.long v15)])) rfl (by rw [hml]; rfl) (argsL := [(.long v15)]) (rest := []) (lenOf pd_0 rfl) rfl (by show 2 * 0 + _ ≤ _; exact Nat.le_of_eq rfl) (hb hby d4_29) (fun _ _ => ⟨rfl, e14, (by decide : 0 + 0 + 0 + 0 + 0 + 0 ≤ _), (by decide : 0 + 0 + 0 + 0 + 0 + 0 ≤ _)⟩)
  dsimp only [Pt.U, Pt.locs, Pt.cells, Pt.slots] at X16 l16 y16 z16 st16 hQ16
  subst l16 y16 z16
  obtain ⟨rfl, Nq16, e16⟩ := hQ16
  have N16 := Fr.app N14 Nq16
  refine Gl.st (g' := (mkF m 32 #[.val (.long p1), .second, .val (.long v15), .second] [(.long (own_sh v15))])) st16 ?_
  refine Gl.retL X16 hx hlk Bd.returns (hb hby d4_32) e16 (by decide) (by decide) ?_
  refine ⟨?_, N16, rfl⟩
  subst hv9 hv11 hv13 hv15
  rfl
theorem ef_0 (m : MethodId) (p1 : Int64) : entryFrame m #[(.long p1)] maxLocals = mkF m 0 #[.val (.long p1), .second, .unset, .unset, .unset, .unset, .unset, .unset] [] := by first | (simp [entryFrame, mkF, argsToLocals, Value.category, maxLocals]; done) | rfl
def Q0 (Z : State) (p1 : Int64)  (h0 : Heap) (n0 : Nat) (v : Option Value) (h : Heap) (L : List Loc) : Prop := v = some (.int 1) ∧ Fr n0 L
set_option maxRecDepth 65536 in
set_option maxHeartbeats 40000000 in
theorem rm0 (l : Launch) (Z : State) (a0 : Array Value) (hw : ∀ d ∈ tables_1, d.before a0 Z = true) (ws : List Jvm.Cond) (p1 : Int64)  (h0 : Heap) (n0 : Nat) (Z0 : n0 ≤ h0.size)  :
    MetFree l x (head1 (Jvm.Cond.code x code maxLocals ret :: ws) room_1) (fun a U => a = #[(.long p1)] ∧ Z.Warmed39 U.vm ∧ U.heap = h0) (fun _ _ _ _ _ => True) (fun _ U o U' => ∃ v L, o = .returned v ∧ Q0 Z p1  h0 n0 v U'.heap L ∧ FrameEnd U o U' L 0 0) := by
  refine MetFree.of_bodySF (plainFor_of_name pn_1) hisR ?_
  intro p e s m args below meth c s₁ Bd hml0 hP hK
  obtain ⟨rfl, hZ, hh⟩ := hP
  have hx := Bd.exec
  have hby := Bd.bytes
  have hlk : meth.locks = false := Bd.notSynchronized
  have hml : c.maxLocals = 8 := hml0
  have hown : s.vm.findClass "com/example/passivation/passivation/StoreIndexMixPinLaw" = some m.cls := findClass_of_methodNamed Bd.named
  have hnm := (name_of_methodNamed Bd.named Bd.method).1
  have X0 : Stand p l e room_1 s m #[(.long p1)] below meth c s₁ [] 0 0 := Stand.of_body Bd
  have e0 : s₁.heap = h0 := by rw [← hh, Bd.state]; rfl
  have N0 := Fr.nil n0
  show Gl p e below s (Q0 Z p1  h0 n0) 0 0 s₁ (entryFrame m #[(.long p1)] maxLocals)
  rw [ef_0 m p1]
  refine Gl.st (g' := (mkF m 1 #[.val (.long p1), .second, .unset, .unset, .unset, .unset, .unset, .unset] [(.long p1)])) (fun t k => XS.lloadN X0.here hx rfl (hb hby at_0) rfl k) ?_
  obtain ⟨_, _, ⟨T17, L17, k17, n17⟩, -, X17, ⟨Lc17, hQ17, l17, y17, z17⟩, st17⟩ := Jvm.LawKit.callS X0 hx (y := (⟨"com/example/passivation/passivation/StoreIndex", "mix", "(J)J"⟩ : MethodName)) hown (mvT hZ (hw _ (List.mem_of_getElem? (i := 0) rfl))) (mvT hZ (hw _ (List.mem_of_getElem? (i := 1) rfl))) (mvT hZ (hw _ (List.mem_of_getElem? (i := 2) rfl))) (mvT hZ (hw _ (List.mem_of_getElem? (i := 3) rfl))) (by decide) (backOf (W := 0) (rm1 l Z a0 hw p1  h0 n0 Z0 ) hZ (hw _ (List.mem_of_getElem? (i := 3) rfl)) (hw _ (List.mem_of_getElem? (i := 2) rfl)) (by decide) (by decide)) (g := (mkF m 1 #[.val (.long p1), .second, .unset, .unset, .unset, .unset, .unset, .unset] [(.long p1)])) rfl (by rw [hml]; rfl) (argsL := [(.long p1)]) (rest := []) (lenOf pd_0 rfl) rfl (by show 2 * 0 + _ ≤ _; exact Nat.le_of_eq rfl) (hb hby at_1) (fun _ _ => ⟨rfl, e0, (by decide : 0 + 0 ≤ _), (by decide : 0 + 0 ≤ _)⟩)
  dsimp only [Pt.U, Pt.locs, Pt.cells, Pt.slots] at X17 l17 y17 z17 st17 hQ17
  subst l17 y17 z17
  obtain ⟨rfl, Nq17, e17⟩ := hQ17
  have N17 := Fr.app N0 Nq17
  refine Gl.st (g' := (mkF m 4 #[.val (.long p1), .second, .unset, .unset, .unset, .unset, .unset, .unset] [(.long (own_mix p1))])) st17 ?_
  generalize hv18 : (own_mix p1) = v18
  refine Gl.st (g' := (mkF m 5 #[.val (.long p1), .second, .val (.long v18), .second, .unset, .unset, .unset, .unset] [])) (fun t k => XS.lstoreN X17.here hx rfl (hb hby at_4) rfl (l' := #[.val (.long p1), .second, .val (.long v18), .second, .unset, .unset, .unset, .unset]) rfl k) ?_
  refine Gl.st (g' := (mkF m 6 #[.val (.long p1), .second, .val (.long v18), .second, .unset, .unset, .unset, .unset] [(.long v18)])) (fun t k => XS.lloadN X17.here hx rfl (hb hby at_5) rfl k) ?_
  obtain ⟨_, _, ⟨T19, L19, k19, n19⟩, -, X19, ⟨Lc19, hQ19, l19, y19, z19⟩, st19⟩ := Jvm.LawKit.callS X17 hx (y := (⟨"com/example/passivation/passivation/StoreIndexMixPinLaw", "unmix", "(J)J"⟩ : MethodName)) hown (mvT hZ (hw _ (List.mem_of_getElem? (i := 6) rfl))) (mvT hZ (hw _ (List.mem_of_getElem? (i := 7) rfl))) (mvT hZ (hw _ (List.mem_of_getElem? (i := 8) rfl))) (mvT hZ (hw _ (List.mem_of_getElem? (i := 9) rfl))) (by decide) (backOf (W := 0) (rm4 l Z a0 hw v18  h0 n0 Z0 ) hZ (hw _ (List.mem_of_getElem? (i := 9) rfl)) (hw _ (List.mem_of_getElem? (i := 8) rfl)) (by decide) (by decide)) (g := (mkF m 6 #[.val (.long p1), .second, .val (.long v18), .second, .unset, .unset, .unset, .unset] [(.long v18)])) rfl (by rw [hml]; rfl) (argsL := [(.long v18)]) (rest := []) (lenOf pd_0 rfl) rfl (by show 2 * 0 + _ ≤ _; exact Nat.le_of_eq rfl) (hb hby at_6) (fun _ _ => ⟨rfl, e17, (by decide : 0 + 0 + 0 ≤ _), (by decide : 0 + 0 + 0 ≤ _)⟩)
  dsimp only [Pt.U, Pt.locs, Pt.cells, Pt.slots] at X19 l19 y19 z19 st19 hQ19
  subst l19 y19 z19
  obtain ⟨rfl, Nq19, e19⟩ := hQ19
  have N19 := Fr.app N17 Nq19
  refine Gl.st (g' := (mkF m 9 #[.val (.long p1), .second, .val (.long v18), .second, .unset, .unset, .unset, .unset] [(.long (own_unmix v18))])) st19 ?_
  generalize hv20 : (own_unmix v18) = v20
  refine Gl.st (g' := (mkF m 11 #[.val (.long p1), .second, .val (.long v18), .second, .val (.long v20), .second, .unset, .unset] [])) (fun t k => XS.lstore X19.here hx rfl (hb hby at_9) rfl (l' := #[.val (.long p1), .second, .val (.long v18), .second, .val (.long v20), .second, .unset, .unset]) rfl k) ?_
  refine Gl.st (g' := (mkF m 12 #[.val (.long p1), .second, .val (.long v18), .second, .val (.long v20), .second, .unset, .unset] [(.long p1)])) (fun t k => XS.lloadN X19.here hx rfl (hb hby at_11) rfl k) ?_
  obtain ⟨_, _, ⟨T21, L21, k21, n21⟩, -, X21, ⟨Lc21, hQ21, l21, y21, z21⟩, st21⟩ := Jvm.LawKit.callS X19 hx (y := (⟨"com/example/passivation/passivation/StoreIndexMixPinLaw", "unmix", "(J)J"⟩ : MethodName)) hown (mvT hZ (hw _ (List.mem_of_getElem? (i := 6) rfl))) (mvT hZ (hw _ (List.mem_of_getElem? (i := 7) rfl))) (mvT hZ (hw _ (List.mem_of_getElem? (i := 8) rfl))) (mvT hZ (hw _ (List.mem_of_getElem? (i := 9) rfl))) (by decide) (backOf (W := 0) (rm4 l Z a0 hw p1  h0 n0 Z0 ) hZ (hw _ (List.mem_of_getElem? (i := 9) rfl)) (hw _ (List.mem_of_getElem? (i := 8) rfl)) (by decide) (by decide)) (g := (mkF m 12 #[.val (.long p1), .second, .val (.long v18), .second, .val (.long v20), .second, .unset, .unset] [(.long p1)])) rfl (by rw [hml]; rfl) (argsL := [(.long p1)]) (rest := []) (lenOf pd_0 rfl) rfl (by show 2 * 0 + _ ≤ _; exact Nat.le_of_eq rfl) (hb hby at_12) (fun _ _ => ⟨rfl, e19, (by decide : 0 + 0 + 0 + 0 ≤ _), (by decide : 0 + 0 + 0 + 0 ≤ _)⟩)
  dsimp only [Pt.U, Pt.locs, Pt.cells, Pt.slots] at X21 l21 y21 z21 st21 hQ21
  subst l21 y21 z21
  obtain ⟨rfl, Nq21, e21⟩ := hQ21
  have N21 := Fr.app N19 Nq21
  refine Gl.st (g' := (mkF m 15 #[.val (.long p1), .second, .val (.long v18), .second, .val (.long v20), .second, .unset, .unset] [(.long (own_unmix p1))])) st21 ?_
  obtain ⟨_, _, ⟨T22, L22, k22, n22⟩, -, X22, ⟨Lc22, hQ22, l22, y22, z22⟩, st22⟩ := Jvm.LawKit.callS X21 hx (y := (⟨"com/example/passivation/passivation/StoreIndex", "mix", "(J)J"⟩ : MethodName)) hown (mvT hZ (hw _ (List.mem_of_getElem? (i := 0) rfl))) (mvT hZ (hw _ (List.mem_of_getElem? (i := 1) rfl))) (mvT hZ (hw _ (List.mem_of_getElem? (i := 2) rfl))) (mvT hZ (hw _ (List.mem_of_getElem? (i := 3) rfl))) (by decide) (backOf (W := 0) (rm1 l Z a0 hw (own_unmix p1)  h0 n0 Z0 ) hZ (hw _ (List.mem_of_getElem? (i := 3) rfl)) (hw _ (List.mem_of_getElem? (i := 2) rfl)) (by decide) (by decide)) (g := (mkF m 15 #[.val (.long p1), .second, .val (.long v18), .second, .val (.long v20), .second, .unset, .unset] [(.long (own_unmix p1))])) rfl (by rw [hml]; rfl) (argsL := [(.long (own_unmix p1))]) (rest := []) (lenOf pd_0 rfl) rfl (by show 2 * 0 + _ ≤ _; exact Nat.le_of_eq rfl) (hb hby at_15) (fun _ _ => ⟨rfl, e21, (by decide : 0 + 0 + 0 + 0 + 0 ≤ _), (by decide : 0 + 0 + 0 + 0 + 0 ≤ _)⟩)
  dsimp only [Pt.U, Pt.locs, Pt.cells, Pt.slots] at X22 l22 y22 z22 st22 hQ22
  subst l22 y22 z22
  obtain ⟨rfl, Nq22, e22⟩ := hQ22
  have N22 := Fr.app N21 Nq22
  refine Gl.st (g' := (mkF m 18 #[.val (.long p1), .second, .val (.long v18), .second, .val (.long v20), .second, .unset, .unset] [(.long (own_mix (own_unmix p1)))])) st22 ?_
  generalize hv23 : (own_mix (own_unmix p1)) = v23
  refine Gl.st (g' := (mkF m 20 #[.val (.long p1), .second, .val (.long v18), .second, .val (.long v20), .second, .val (.long v23), .second] [])) (fun t k => XS.lstore X22.here hx rfl (hb hby at_18) rfl (l' := #[.val (.long p1), .second, .val (.long v18), .second, .val (.long v20), .second, .val (.long v23), .second]) rfl k) ?_
  refine Gl.st (g' := (mkF m 22 #[.val (.long p1), .second, .val (.long v18), .second, .val (.long v20), .second, .val (.long v23), .second] [(.long v20)])) (fun t k => XS.lload X22.here hx rfl (hb hby at_20) rfl k) ?_
  refine Gl.st (g' := (mkF m 23 #[.val (.long p1), .second, .val (.long v18), .second, .val (.long v20), .second, .val (.long v23), .second] [(.long p1), (.long v20)])) (fun t k => XS.lloadN X22.here hx rfl (hb hby at_22) rfl k) ?_
  refine Gl.st (g' := (mkF m 24 #[.val (.long p1), .second, .val (.long v18), .second, .val (.long v20), .second, .val (.long v23), .second] [(.int (XT.cmpL v20 p1))])) (fun t k => XT.lcmp X22.here hx rfl (hb hby at_23) rfl k) ?_
  refine Gl.st (g' := (mkF m 27 #[.val (.long p1), .second, .val (.long v18), .second, .val (.long v20), .second, .val (.long v23), .second] [])) (fun t k => XS.ifNo X22.here hx rfl (hb hby at_24) rfl (XT.ll_ne_f (own_f1 hv18 hv20)) k) ?_
  refine Gl.st (g' := (mkF m 29 #[.val (.long p1), .second, .val (.long v18), .second, .val (.long v20), .second, .val (.long v23), .second] [(.long v23)])) (fun t k => XS.lload X22.here hx rfl (hb hby at_27) rfl k) ?_
  refine Gl.st (g' := (mkF m 30 #[.val (.long p1), .second, .val (.long v18), .second, .val (.long v20), .second, .val (.long v23), .second] [(.long p1), (.long v23)])) (fun t k => XS.lloadN X22.here hx rfl (hb hby at_29) rfl k) ?_
  refine Gl.st (g' := (mkF m 31 #[.val (.long p1), .second, .val (.long v18), .second, .val (.long v20), .second, .val (.long v23), .second] [(.int (XT.cmpL v23 p1))])) (fun t k => XT.lcmp X22.here hx rfl (hb hby at_30) rfl k) ?_
  refine Gl.st (g' := (mkF m 34 #[.val (.long p1), .second, .val (.long v18), .second, .val (.long v20), .second, .val (.long v23), .second] [])) (fun t k => XS.ifNo X22.here hx rfl (hb hby at_31) rfl (XT.ll_ne_f (own_f2 hv23)) k) ?_
  refine Gl.st (g' := (mkF m 35 #[.val (.long p1), .second, .val (.long v18), .second, .val (.long v20), .second, .val (.long v23), .second] [(.int (1 : Int32))])) (fun t k => XT.iconstV X22.here hx rfl (1 : Int32) (hb hby at_34) rfl k) ?_
  refine Gl.st (g' := (mkF m 39 #[.val (.long p1), .second, .val (.long v18), .second, .val (.long v20), .second, .val (.long v23), .second] [(.int (1 : Int32))])) (fun t k => XS.goto X22.here hx rfl (pc0 := 35) (pc' := 39) rfl (hb hby at_35) (by decide) (by decide) k) ?_
  refine Gl.retZ X22 hx hlk .boolean (by simp) Bd.returns (hb hby at_39) e22 (by decide) (by decide) ?_
  rw [Q0, own_z1]
  exact ⟨rfl, N22⟩
set_option maxRecDepth 65536 in
set_option maxHeartbeats 40000000 in
theorem comes_1 {Post : Tables → Env → Array Value → State → Outcome → State → Prop} (hpost : ∀ tb e args s v u, (limb_1_1.after args s (.returned v) u = true ∧ limb_1_2.after args s (.returned v) u = true ∧ True) → FrameEnd s (.returned v) u (Jvm.fieldLocs frame_1_writes args s ++ Jvm.arrayLocs frame_1_arrays args s ++ Jvm.staticLocs frame_1_statics s) 0 0 → Post tb e args s (.returned v) u) :
    ArmFor flags0 classFile x code maxLocals ret World_1 tables_1 room_1 Calls_1 rest_1 Pre_1 Post := by
  intro l hfl _ _ p e ha hc hk s m args below hf hA hF happ hP
  obtain ⟨hcalls, hrest, hpre⟩ := hP
  obtain ⟨-, -, -, hnamed, -, -, -, hat⟩ := (Spec.applies_iff hf).mp happ
  obtain ⟨hg, hn⟩ := and_e (Cond.before_iff.mp (show (Jvm.Cond.and given_1 narrow_1).before args s = true from hpre))
  obtain ⟨hcount, hk1⟩ := and_e hg
  obtain ⟨w0, rfl⟩ : ∃ w0 : Value, args = #[w0] := by
    have hs : args.size = 1 := by simpa [Cond.value, given_1] using hcount
    obtain ⟨L⟩ := args
    match L, hs with
    | [w0], _ => exact ⟨w0, rfl⟩
  have hw := fun d (hd : d ∈ tables_1) => atoms_spec (ws := Jvm.Cond.code x code maxLocals ret :: tables_1) hat d (List.mem_cons_of_mem _ hd)
  obtain ⟨i0, q0⟩ := isL_v hk1
  obtain rfl : w0 = (.long i0) := Option.some.inj q0
  obtain ⟨n, o, h1, h2, h3, _, L, rfl, ⟨rfl, N⟩, hq⟩ := rm0 l s _ hw tables_1 i0 s.heap s.heap.size (Nat.le_refl _)  p e ha hc hk s m _ below hf ((Spec.applies_iff_loose hf).mp happ).1 ⟨rfl, State.Warmed39.refl s, rfl⟩ trivial
  refine ⟨n, _, h1, h2, h3, hpost _ _ _ _ _ _ ⟨Cond.after_iff.mpr rfl, Cond.after_iff.mpr (eq_i res_at (Term.int_eval (1)) rfl), trivial⟩ ⟨hq.1, hq.2.1, (hq.2.2.sift fun y hy => Or.inr (N y hy)).mono (by decide) (by decide)⟩⟩
theorem main_1_1 : Claimed_1_1 := comes_1 fun _ _ _ _ _ _ h hF => ⟨h.1, hF⟩
theorem main_1_2 : Claimed_1_2 := comes_1 fun _ _ _ _ _ _ h hF => ⟨h.2.1, hF⟩
end Jvm.Pilot.@@N@@
namespace Jvm.Pilot.@@N@@
open Jvm Jvm.ClassFile Sem Op Lib Jvm.Free Jvm.Stand Jvm.Pilot.@@N@@.Jvm.D
/-! MADE BY PROGRAM (witnessworld.py) out of the Statement's table words and the real class files: 9 classes; the members and pool entries that the words name. The judged class is class 1, her method 1. -/
namespace start1
open Jvm.ClassFile
def u (s : String) : CpInfo := .utf8 (stringToUtf16 s)
/-- a pool by its gaps: so many unusable entries, then the entry; so many at the end -/
def gap : Nat → List CpInfo → List CpInfo
  | 0, r => r
  | n + 1, r => .unusable :: gap n r
def poolList (es : List (Nat × CpInfo)) (last : Nat) : List CpInfo := es.foldr (fun e r => gap e.1 (e.2 :: r)) (gap last [])
def pool (es : List (Nat × CpInfo)) (last : Nat) : Array CpInfo := ⟨poolList es last⟩
def fileOf (pool : Array CpInfo) (this : Nat) (attrs : Array Attribute := #[]) (ms : Array MethodInfo := #[]) (fl : Nat := 33) (sup : Nat := 0) (ifs : Array Nat := #[]) (fds : Array FieldInfo := #[]) : ClassFile where
  minorVersion := 0
  majorVersion := 65
  constantPool := pool
  accessFlags := fl
  thisClass := this
  superClass := sup
  interfaces := ifs
  fields := fds
  methods := ms
  attributes := attrs
def plain (name : String) (sup : Option ClassId) : Class where
  name := name
  kind := .ordinary
  loader := none
  accessFlags := 33
  super := sup
  interfaces := #[]
  cf := none
  fields := #[]
  methods := #[]
  instanceTypes := #[]
  staticTypes := #[]
  resolved := #[]
  callSites := []
  init := .initialized
  statics := none
  mirror := none

def pool0 : Array CpInfo := pool [(5, u "<init>"), (0, u "()V"), (1, .class_ 10), (1, u "java/lang/Object")] 113

def k0m0 : Method := { name := "<init>", desc := "()V", sig := { parameters := [], returnType := none }, accessFlags := 1, code := none }
/-- java/lang/Object -/
def k0 : Class := { plain "java/lang/Object" none with
  accessFlags := 33
  interfaces := #[]
  cf := some (fileOf pool0 8 #[] #[{ accessFlags := 1, nameIndex := 5, descriptorIndex := 6, attributes := #[] }] 33 0 #[] #[])
  fields := #[]
  methods := #[k0m0]
  instanceTypes := #[]
  staticTypes := #[]
  resolved := Array.replicate 124 none
  statics := none }

def pool1 : Array CpInfo := pool [(2, .class_ 4), (1, u "java/lang/Object"), (0, u "<init>"), (0, u "()V"), (0, .methodref 8 9), (0, .class_ 10), (0, .nameAndType 11 12), (0, u "com/example/passivation/passivation/StoreIndex"), (0, u "mix"), (0, u "(J)J"), (0, .methodref 14 15), (0, .class_ 16), (0, .nameAndType 17 12), (0, u "com/example/passivation/passivation/StoreIndexMixPinLaw"), (0, u "unmix"), (0, .long 2), (1, .methodref 14 21), (0, .nameAndType 22 12), (0, u "unshift"), (0, .long 14181476777654086739), (1, .methodref 14 26), (0, .nameAndType 27 12), (0, u "inverse"), (0, .long 18397679294719823053), (3, u "law"), (0, u "(J)Z")] 3

def k1m0 : Method := { name := "<init>", desc := "()V", sig := { parameters := [], returnType := none }, accessFlags := 2, code := none }
def k1c1 : Code := { maxStack := 4, maxLocals := 8, code := code, exceptionTable := #[], attributes := #[] }
def k1m1 : Method := { name := "law", desc := "(J)Z", sig := { parameters := [.long], returnType := some .boolean }, accessFlags := 9, code := some k1c1 }
def k1c2 : Code := { maxStack := 8, maxLocals := 4, code := method_3_code, exceptionTable := #[], attributes := #[] }
def k1m2 : Method := { name := "inverse", desc := "(J)J", sig := { parameters := [.long], returnType := some .long }, accessFlags := 10, code := some k1c2 }
def k1c3 : Code := { maxStack := 5, maxLocals := 2, code := method_4_code, exceptionTable := #[], attributes := #[] }
def k1m3 : Method := { name := "unshift", desc := "(J)J", sig := { parameters := [.long], returnType := some .long }, accessFlags := 10, code := some k1c3 }
def k1c4 : Code := { maxStack := 4, maxLocals := 4, code := method_5_code, exceptionTable := #[], attributes := #[] }
def k1m4 : Method := { name := "unmix", desc := "(J)J", sig := { parameters := [.long], returnType := some .long }, accessFlags := 10, code := some k1c4 }
/-- com/example/passivation/passivation/StoreIndexMixPinLaw -/
def k1 : Class := { plain "com/example/passivation/passivation/StoreIndexMixPinLaw" (some 0) with
  accessFlags := 49
  interfaces := #[]
  cf := some (fileOf pool1 14 #[] #[{ accessFlags := 2, nameIndex := 5, descriptorIndex := 6, attributes := #[] }, { accessFlags := 9, nameIndex := 32, descriptorIndex := 33, attributes := #[] }, { accessFlags := 10, nameIndex := 27, descriptorIndex := 12, attributes := #[] }, { accessFlags := 10, nameIndex := 22, descriptorIndex := 12, attributes := #[] }, { accessFlags := 10, nameIndex := 17, descriptorIndex := 12, attributes := #[] }] 49 2 #[] #[])
  fields := #[]
  methods := #[k1m0, k1m1, k1m2, k1m3, k1m4]
  instanceTypes := #[]
  staticTypes := #[]
  resolved := Array.replicate 37 none
  statics := none }

def pool2 : Array CpInfo := pool [(7, .class_ 8), (0, u "com/example/passivation/passivation/StoreIndex"), (1, .class_ 12), (1, u "java/lang/Object"), (4, u "[J"), (2, u "shards"), (0, u "[[J"), (7, u "shared"), (0, u "Ljava/util/BitSet;"), (2, u "NO_ENTRIES"), (0, u "Ljava/nio/LongBuffer;"), (2, u "restored"), (2, u "NO_STARTS"), (0, u "[I"), (2, u "restoredStarts"), (2, u "NONE_LISTED"), (2, u "listed"), (2, u "stride"), (0, u "I"), (2, u "salts"), (0, u "Ljava/util/random/RandomGenerator;"), (8, u "salt"), (0, u "J"), (2, u "NONE"), (14, u "restoredShards"), (2, u "liveBytes"), (32, u "(J)J"), (33, .class_ 158), (1, u "com/example/passivation/passivation/StoreIndex$Found"), (177, .class_ 338), (1, u "com/example/passivation/passivation/StoreIndex$Pick"), (13, u "mix"), (3, .long 18397679294719823053), (1, .long 14181476777654086739), (39, u "PLACE_BITS"), (2, u "SHARDS"), (0, u "HALF_DIGITS"), (1, u "KEY_BITS"), (1, u "LOW_KEY_BITS"), (1, u "LOW_32"), (0, u "LENGTH_BITS"), (1, u "LENGTH_MASK"), (0, u "EXACT_LENGTH"), (0, u "LENGTH_UNIT"), (1, u "NEVER"), (0, u "COMPACT"), (1, u "WITH_ID")] 87

def k2c0 : Code := { maxStack := 5, maxLocals := 4, code := prog_51_method_46_code, exceptionTable := #[], attributes := #[] }
def k2m0 : Method := { name := "mix", desc := "(J)J", sig := { parameters := [.long], returnType := some .long }, accessFlags := 8, code := some k2c0 }
/-- com/example/passivation/passivation/StoreIndex -/
def k2 : Class := { plain "com/example/passivation/passivation/StoreIndex" (some 0) with
  accessFlags := 48
  interfaces := #[]
  cf := some (fileOf pool2 7 #[.nestMembers #[156, 336]] #[{ accessFlags := 8, nameIndex := 352, descriptorIndex := 122, attributes := #[] }] 48 10 #[] #[{ accessFlags := 24, nameIndex := 398, descriptorIndex := 54, attributes := #[] }, { accessFlags := 24, nameIndex := 401, descriptorIndex := 54, attributes := #[] }, { accessFlags := 26, nameIndex := 402, descriptorIndex := 54, attributes := #[] }, { accessFlags := 26, nameIndex := 404, descriptorIndex := 54, attributes := #[] }, { accessFlags := 26, nameIndex := 406, descriptorIndex := 54, attributes := #[] }, { accessFlags := 26, nameIndex := 408, descriptorIndex := 68, attributes := #[] }, { accessFlags := 26, nameIndex := 409, descriptorIndex := 54, attributes := #[] }, { accessFlags := 26, nameIndex := 411, descriptorIndex := 68, attributes := #[] }, { accessFlags := 26, nameIndex := 412, descriptorIndex := 54, attributes := #[] }, { accessFlags := 26, nameIndex := 413, descriptorIndex := 54, attributes := #[] }, { accessFlags := 26, nameIndex := 415, descriptorIndex := 68, attributes := #[] }, { accessFlags := 26, nameIndex := 416, descriptorIndex := 54, attributes := #[] }, { accessFlags := 26, nameIndex := 418, descriptorIndex := 54, attributes := #[] }, { accessFlags := 26, nameIndex := 71, descriptorIndex := 17, attributes := #[] }, { accessFlags := 26, nameIndex := 33, descriptorIndex := 34, attributes := #[] }, { accessFlags := 26, nameIndex := 40, descriptorIndex := 41, attributes := #[] }, { accessFlags := 26, nameIndex := 47, descriptorIndex := 41, attributes := #[] }, { accessFlags := 18, nameIndex := 57, descriptorIndex := 58, attributes := #[] }, { accessFlags := 18, nameIndex := 20, descriptorIndex := 21, attributes := #[] }, { accessFlags := 18, nameIndex := 29, descriptorIndex := 30, attributes := #[] }, { accessFlags := 2, nameIndex := 37, descriptorIndex := 34, attributes := #[] }, { accessFlags := 2, nameIndex := 44, descriptorIndex := 41, attributes := #[] }, { accessFlags := 2, nameIndex := 86, descriptorIndex := 54, attributes := #[] }, { accessFlags := 2, nameIndex := 50, descriptorIndex := 41, attributes := #[] }, { accessFlags := 2, nameIndex := 67, descriptorIndex := 68, attributes := #[] }, { accessFlags := 2, nameIndex := 53, descriptorIndex := 54, attributes := #[] }, { accessFlags := 2, nameIndex := 89, descriptorIndex := 68, attributes := #[] }])
  fields := #[{ name := "PLACE_BITS", type := .int, accessFlags := 24, slot := 0, constantValue := 0 }, { name := "SHARDS", type := .int, accessFlags := 24, slot := 1, constantValue := 0 }, { name := "HALF_DIGITS", type := .int, accessFlags := 26, slot := 2, constantValue := 0 }, { name := "KEY_BITS", type := .int, accessFlags := 26, slot := 3, constantValue := 0 }, { name := "LOW_KEY_BITS", type := .int, accessFlags := 26, slot := 4, constantValue := 0 }, { name := "LOW_32", type := .long, accessFlags := 26, slot := 5, constantValue := 0 }, { name := "LENGTH_BITS", type := .int, accessFlags := 26, slot := 6, constantValue := 0 }, { name := "LENGTH_MASK", type := .long, accessFlags := 26, slot := 7, constantValue := 0 }, { name := "EXACT_LENGTH", type := .int, accessFlags := 26, slot := 8, constantValue := 0 }, { name := "LENGTH_UNIT", type := .int, accessFlags := 26, slot := 9, constantValue := 0 }, { name := "NEVER", type := .long, accessFlags := 26, slot := 10, constantValue := 0 }, { name := "COMPACT", type := .int, accessFlags := 26, slot := 11, constantValue := 0 }, { name := "WITH_ID", type := .int, accessFlags := 26, slot := 12, constantValue := 0 }, { name := "NONE", type := (.array .long), accessFlags := 26, slot := 13, constantValue := 0 }, { name := "NO_ENTRIES", type := (.object "java/nio/LongBuffer"), accessFlags := 26, slot := 14, constantValue := 0 }, { name := "NO_STARTS", type := (.array .int), accessFlags := 26, slot := 15, constantValue := 0 }, { name := "NONE_LISTED", type := (.array .int), accessFlags := 26, slot := 16, constantValue := 0 }, { name := "salts", type := (.object "java/util/random/RandomGenerator"), accessFlags := 18, slot := 0, constantValue := 0 }, { name := "shards", type := (.array (.array .long)), accessFlags := 18, slot := 1, constantValue := 0 }, { name := "shared", type := (.object "java/util/BitSet"), accessFlags := 18, slot := 2, constantValue := 0 }, { name := "restored", type := (.object "java/nio/LongBuffer"), accessFlags := 2, slot := 3, constantValue := 0 }, { name := "restoredStarts", type := (.array .int), accessFlags := 2, slot := 4, constantValue := 0 }, { name := "restoredShards", type := .int, accessFlags := 2, slot := 5, constantValue := 0 }, { name := "listed", type := (.array .int), accessFlags := 2, slot := 6, constantValue := 0 }, { name := "salt", type := .long, accessFlags := 2, slot := 7, constantValue := 0 }, { name := "stride", type := .int, accessFlags := 2, slot := 8, constantValue := 0 }, { name := "liveBytes", type := .long, accessFlags := 2, slot := 9, constantValue := 0 }]
  methods := #[k2m0]
  instanceTypes := #[(.object "java/util/random/RandomGenerator"), (.array (.array .long)), (.object "java/util/BitSet"), (.object "java/nio/LongBuffer"), (.array .int), .int, (.array .int), .long, .int, .long]
  staticTypes := #[.int, .int, .int, .int, .int, .long, .int, .long, .int, .int, .long, .int, .int, (.array .long), (.object "java/nio/LongBuffer"), (.array .int), (.array .int)]
  resolved := Array.replicate 506 none
  statics := none }

def pool3 : Array CpInfo := pool [(1, u "java/lang/Cloneable"), (0, .class_ 1), (0, u "java/lang/Object"), (0, .class_ 3)] 3

/-- java/lang/Cloneable -/
def k3 : Class := { plain "java/lang/Cloneable" (some 0) with
  accessFlags := 1537
  interfaces := #[]
  cf := some (fileOf pool3 2 #[] #[] 1537 4 #[] #[])
  fields := #[]
  methods := #[]
  instanceTypes := #[]
  staticTypes := #[]
  resolved := Array.replicate 8 none
  statics := none }

def pool4 : Array CpInfo := pool [(1, u "java/io/Serializable"), (0, .class_ 1), (0, u "java/lang/Object"), (0, .class_ 3)] 3

/-- java/io/Serializable -/
def k4 : Class := { plain "java/io/Serializable" (some 0) with
  accessFlags := 1537
  interfaces := #[]
  cf := some (fileOf pool4 2 #[] #[] 1537 4 #[] #[])
  fields := #[]
  methods := #[]
  instanceTypes := #[]
  staticTypes := #[]
  resolved := Array.replicate 8 none
  statics := none }

/-- the primitive byte -/
def k5 : Class := { plain "byte" none with kind := .primitive 'B', accessFlags := 0x411 }
/-- [B -/
def k6 : Class := { plain "[B" (some 0) with kind := .array 5 .byte, interfaces := #[3, 4], accessFlags := 1041 }

/-- the primitive int -/
def k7 : Class := { plain "int" none with kind := .primitive 'I', accessFlags := 0x411 }
/-- [I -/
def k8 : Class := { plain "[I" (some 0) with kind := .array 7 .int, interfaces := #[3, 4], accessFlags := 1041 }

def heap : Heap := #[]
def classes : Array Class := #[k0, k1, k2, k3, k4, k5, k6, k7, k8]
def interned : List (Array UInt16 × Addr) := []
def slotsUsed : Nat := 0
def theMethod : MethodId := ⟨1, 1⟩
def args0 : Array Value := #[.long 5]
def aboutOver (below : List Frame) : State where
  vm := { classes := classes, interned := interned.toArray }
  heap := heap
  slotsUsed := slotsUsed
  threads := #[{ frames := .invoking theMethod args0 :: below }]
def below0 : List Frame := [.native { method := ⟨0, 0⟩, args := #[] }]
def about1 : State := aboutOver below0
def p0 : Program := .bare "" "" ""
def e0 : Env := launch0.env 0 0 0
theorem w_frames : about1.frames = Frame.invoking theMethod args0 :: below0 := rfl
set_option maxRecDepth 65536 in
theorem w_args : argsFit about1.vm theMethod args0 = true := by decide +kernel
set_option maxRecDepth 65536 in
theorem w_heap : heapFits about1 = true := by decide +kernel
set_option maxRecDepth 65536 in
theorem w_runnable : about1.curStatus? = some .runnable := by decide +kernel
set_option maxRecDepth 65536 in
theorem w_alone : about1.alone = true := by decide +kernel
set_option maxRecDepth 65536 in
theorem w_named : about1.methodNamed? x = some theMethod := by decide +kernel
set_option maxRecDepth 65536 in
theorem w_hears : about1.hears theMethod below0 = true := by decide +kernel
set_option maxRecDepth 65536 in
theorem w_ripe : about1.ripe theMethod args0 below0 = true := by decide +kernel
theorem w_running : about1.status = .running := rfl
set_option maxRecDepth 65536 in
theorem w_room : about1.hasRoom e0.platform room_1 = true :=
  launch0.hasRoom_least _ room_1 (by decide +kernel) (by decide +kernel) (by decide +kernel) (by decide +kernel) (by decide +kernel) (by decide +kernel)
theorem allAtoms_all (ts : List Jvm.Cond) (a : Array Jvm.Value) (st : Jvm.State) : (allAtoms ts).before a st = ts.all (fun c => c.before a st) := by
  induction ts with
  | nil => rfl
  | cons c t ih =>
    show (Jvm.Cond.and c (allAtoms t)).before a st = _
    rw [Jvm.Cond.before_and, ih, List.all_cons]
def words1 : List Jvm.Cond := Jvm.Cond.code x code maxLocals ret :: tables_1
/-- a 'code' word, met by the world's own term for the bytes: nothing is compared byte by byte -/
theorem code_word {y : MethodName} {bytes : ByteArray} {mx : Nat} {rt : Option FieldType} {a : Array Value} {s : State} {m : MethodId} {meth : Method} {c : Code} (h1 : s.methodNamed? y = some m) (h2 : s.vm.method? m = some meth) (h3 : meth.code = some c) (h4 : c.code = bytes)
    (h5 : (c.maxLocals == mx && c.exceptionTable.isEmpty && decide (c.maxStack ≤ mostOperands) && decide (meth.sig.returnType = rt) && !meth.locks && decide (parseMethodDescriptor y.desc = some meth.sig)) = true) : (Jvm.Cond.code y bytes mx rt).before a s = true := by
  simp only [Bool.and_eq_true, beq_iff_eq, Bool.not_eq_true', decide_eq_true_eq] at h5
  obtain ⟨⟨⟨⟨⟨g1, g2⟩, g3⟩, g4⟩, g5⟩, g6⟩ := h5
  simp [Cond.before, Cond.holds, Cond.value, h1, h2, h3, h4, g1, g2, g3, g4, g5, g6]
def isCode : Jvm.Cond → Bool
  | .code _ _ _ _ => true
  | _ => false
theorem all_split {L : List Jvm.Cond} {P : Jvm.Cond → Bool} (h1 : L.all (fun c => isCode c || P c) = true) (h2 : ∀ c ∈ L.filter isCode, P c = true) : L.all P = true := by
  refine List.all_eq_true.mpr fun c hc => ?_
  have h := List.all_eq_true.mp h1 c hc
  rcases Bool.eq_false_or_eq_true (isCode c) with hi | hi
  · exact h2 c (List.mem_filter.mpr ⟨hc, hi⟩)
  · simpa [hi] using h
set_option maxRecDepth 65536 in
theorem w_c0 : (Jvm.Cond.code x code maxLocals ret).before args0 about1 = true := code_word (m := ⟨1, 1⟩) (meth := k1m1) (c := k1c1) (by decide +kernel) rfl rfl rfl (by decide +kernel)
set_option maxRecDepth 65536 in
theorem w_c1 : (Jvm.Cond.code ({ cls := "com/example/passivation/passivation/StoreIndex", name := "mix", desc := "(J)J" } : Jvm.MethodName) prog_51_method_46_code (4 : Nat) (Option.some Jvm.ClassFile.FieldType.long)).before args0 about1 = true := code_word (m := ⟨2, 0⟩) (meth := k2m0) (c := k2c0) (by decide +kernel) rfl rfl rfl (by decide +kernel)
set_option maxRecDepth 65536 in
theorem w_c2 : (Jvm.Cond.code ({ cls := "com/example/passivation/passivation/StoreIndexMixPinLaw", name := "unmix", desc := "(J)J" } : Jvm.MethodName) method_5_code (4 : Nat) (Option.some Jvm.ClassFile.FieldType.long)).before args0 about1 = true := code_word (m := ⟨1, 4⟩) (meth := k1m4) (c := k1c4) (by decide +kernel) rfl rfl rfl (by decide +kernel)
set_option maxRecDepth 65536 in
theorem w_c3 : (Jvm.Cond.code ({ cls := "com/example/passivation/passivation/StoreIndexMixPinLaw", name := "unshift", desc := "(J)J" } : Jvm.MethodName) method_4_code (2 : Nat) (Option.some Jvm.ClassFile.FieldType.long)).before args0 about1 = true := code_word (m := ⟨1, 3⟩) (meth := k1m3) (c := k1c3) (by decide +kernel) rfl rfl rfl (by decide +kernel)
set_option maxRecDepth 65536 in
theorem w_c4 : (Jvm.Cond.code ({ cls := "com/example/passivation/passivation/StoreIndexMixPinLaw", name := "inverse", desc := "(J)J" } : Jvm.MethodName) method_3_code (4 : Nat) (Option.some Jvm.ClassFile.FieldType.long)).before args0 about1 = true := code_word (m := ⟨1, 2⟩) (meth := k1m2) (c := k1c2) (by decide +kernel) rfl rfl rfl (by decide +kernel)
def codes1 : List Jvm.Cond := [Jvm.Cond.code x code maxLocals ret, Jvm.Cond.code ({ cls := "com/example/passivation/passivation/StoreIndex", name := "mix", desc := "(J)J" } : Jvm.MethodName) prog_51_method_46_code (4 : Nat) (Option.some Jvm.ClassFile.FieldType.long), Jvm.Cond.code ({ cls := "com/example/passivation/passivation/StoreIndexMixPinLaw", name := "unmix", desc := "(J)J" } : Jvm.MethodName) method_5_code (4 : Nat) (Option.some Jvm.ClassFile.FieldType.long), Jvm.Cond.code ({ cls := "com/example/passivation/passivation/StoreIndexMixPinLaw", name := "unshift", desc := "(J)J" } : Jvm.MethodName) method_4_code (2 : Nat) (Option.some Jvm.ClassFile.FieldType.long), Jvm.Cond.code ({ cls := "com/example/passivation/passivation/StoreIndexMixPinLaw", name := "inverse", desc := "(J)J" } : Jvm.MethodName) method_3_code (4 : Nat) (Option.some Jvm.ClassFile.FieldType.long)]
set_option maxRecDepth 65536 in
theorem codes_eq : words1.filter isCode = codes1 := rfl
theorem w_codes : ∀ c ∈ words1.filter isCode, c.before args0 about1 = true := by
  rw [codes_eq]
  intro c hc
  simp only [codes1, List.mem_cons, List.not_mem_nil, or_false] at hc
  rcases hc with rfl | rfl | rfl | rfl | rfl
  · exact w_c0
  · exact w_c1
  · exact w_c2
  · exact w_c3
  · exact w_c4
set_option maxRecDepth 65536 in
theorem w_t1 : words1.all (fun c => isCode c || c.before args0 about1) = true := by decide +kernel
theorem w_tables : (allAtoms (Jvm.Cond.code x code maxLocals ret :: tables_1)).before args0 about1 = true := by
  rw [allAtoms_all]
  show words1.all (fun c => c.before args0 about1) = true
  refine all_split ?_ w_codes
  rw [w_t1]
set_option maxRecDepth 65536 in
theorem w_case : (Jvm.Cond.and given_1 narrow_1).before args0 about1 = true := by decide +kernel
theorem w_applies : (headSpec (Jvm.Cond.code x code maxLocals ret :: tables_1) room_1).applies x e0.platform about1 = true :=
  (Spec.applies_iff w_frames).mpr ⟨w_running, w_runnable, w_alone, w_named, w_hears, w_ripe, w_room, w_tables⟩
theorem atStart : AtStart classFile x code maxLocals ret World_1 tables_1 room_1 Calls_1 rest_1 Pre_1 launch0 p0 e0 about1 theMethod args0 below0 :=
  ⟨lists_1, trivial, launch0.admits_env _ _ _, launch0.least_env, fairChoices_fair.cas, fairChoices_fair.clock, w_frames, w_args, w_heap, w_applies, trivial, trivial, w_case⟩
end start1
theorem witness_1 : WitnessClaimed_1 := ⟨start1.p0, start1.e0, start1.about1, start1.theMethod, start1.args0, start1.below0, start1.atStart⟩
end Jvm.Pilot.@@N@@
