import JvmDerived
import JvmDerived.Pilot.@@N@@Statement
import JvmDerived.Pilot.@@N@@Code
set_option linter.unusedVariables false
set_option linter.unusedSimpArgs false
namespace Jvm.Pilot.@@N@@
open Jvm Jvm.ClassFile Sem Op Lib Jvm.Free Jvm.Stand Jvm.LawKit Jvm.RoadKit Bundle Jvm.Pilot.@@N@@.Jvm.D
section OwnKit
variable {p : Program} {l : Launch} {e : Env} {R : Room} {s : State} {m : MethodId} {args : Array Value} {below : List Frame} {meth : Method} {c : Code} {T T' : State} {locs : List Loc} {cells slots : Nat} {h : Heap} {Q : Option Value → Heap → List Loc → Prop} {kc ks : Nat} {g g' : JFrame}
/-- from this state and frame the method comes to its end, and what it leaves is Q -/
def Gl (p : Program) (e : Env) (below : List Frame) (s : State) (Q : Option Value → Heap → List Loc → Prop) (kc ks : Nat) (T : State) (g : JFrame) : Prop :=
  ∃ s₂ o, Steps p.tables e below (T.setTop g) s₂ ∧ s₂.status = .running ∧ Ended s₂ below o ∧ ∃ v L, o = .returned v ∧ Q v s₂.heap L ∧ FrameEnd s o s₂ L kc ks
theorem Gl.st (h : ∀ t, Steps p.tables e below (T'.setTop g') t → Steps p.tables e below (T.setTop g) t) (k : Gl p e below s Q kc ks T' g') : Gl p e below s Q kc ks T g := by
  obtain ⟨s₂, o, h1, r⟩ := k
  exact ⟨s₂, o, h _ h1, r⟩
theorem Gl.ret (X : Stand p l e R s m args below meth c T locs cells slots) (hlk : meth.locks = false) (v : Option Value) (hv : meth.sig.returnType = none → v = none) (eT : T.heap = h) (hc : cells ≤ kc) (hs : slots ≤ ks)
    (hst : ∀ fs, (∀ (f : JFrame) (acts : List Action), f.method = m → f.locked = none → f.entered = [] → (doReturn e (T.setTop f) acts v).1 = T.setFrames fs) → Steps p.tables e below (T.setTop g) (T.setFrames fs))
    (hq : Q v h locs) : Gl p e below s Q kc ks T g := by
  obtain ⟨fs, hr, hrun, hended, hW, hsame⟩ := X.leave (v := v) hv hlk
  refine ⟨_, _, hst fs hr, hrun, hended, v, locs, rfl, ?_, ⟨_, rfl⟩, hW, hsame.mono hc hs⟩
  show Q v T.heap locs
  rw [eT]; exact hq
theorem Gl.retI (X : Stand p l e R s m args below meth c T locs cells slots) (hx : p.tables.exec = Jvm.exec) (hlk : meth.locks = false) {pc : Nat} {Ls : Array Slot} {z : Int32} {rest : List Value} (hret : meth.sig.returnType = some .int) (hd : decode c.code pc = .ok (.ireturn, 1)) (eT : T.heap = h) (hc : cells ≤ kc) (hs : slots ≤ ks)
    (hq : Q (some (.int z)) h locs) : Gl p e below s Q kc ks T (mkF m pc Ls (.int z :: rest)) := by
  refine Gl.ret X hlk (some (.int z)) (fun q => by rw [hret] at q; cases q) eT hc hs (fun fs hl => ?_) hq
  exact retOut X hx hret (t := .int) rfl (Or.inl ⟨rfl, Or.inl rfl, _, rfl⟩) hd hl
theorem Gl.retZ (X : Stand p l e R s m args below meth c T locs cells slots) (hx : p.tables.exec = Jvm.exec) (hlk : meth.locks = false) {pc : Nat} {Ls : Array Slot} {z : Int32} {rest : List Value} (t : FieldType) (ht : t = .boolean ∨ t = .byte ∨ t = .char ∨ t = .short) (hret : meth.sig.returnType = some t) (hd : decode c.code pc = .ok (.ireturn, 1)) (eT : T.heap = h) (hc : cells ≤ kc) (hs : slots ≤ ks)
    (hq : Q (some (.int (nar t z))) h locs) : Gl p e below s Q kc ks T (mkF m pc Ls (.int z :: rest)) := by
  refine Gl.ret X hlk (some (.int (nar t z))) (fun q => by rw [hret] at q; cases q) eT hc hs (fun fs hl => ?_) hq
  exact retN X hx (t := t) hret ht hd hl
theorem Gl.retL (X : Stand p l e R s m args below meth c T locs cells slots) (hx : p.tables.exec = Jvm.exec) (hlk : meth.locks = false) {pc : Nat} {Ls : Array Slot} {z : Int64} (hret : meth.sig.returnType = some .long) (hd : decode c.code pc = .ok (.lreturn, 1)) (eT : T.heap = h) (hc : cells ≤ kc) (hs : slots ≤ ks)
    (hq : Q (some (.long z)) h locs) : Gl p e below s Q kc ks T (mkF m pc Ls [.long z]) := by
  refine Gl.ret X hlk (some (.long z)) (fun q => by rw [hret] at q; cases q) eT hc hs (fun fs hl => ?_) hq
  exact X.lreturnOut hx hret hd hl
theorem Gl.retV (X : Stand p l e R s m args below meth c T locs cells slots) (hx : p.tables.exec = Jvm.exec) (hlk : meth.locks = false) {pc : Nat} {Ls : Array Slot} (hret : meth.sig.returnType = none) (hd : decode c.code pc = .ok (.return_, 1)) (eT : T.heap = h) (hc : cells ≤ kc) (hs : slots ≤ ks)
    (hq : Q none h locs) : Gl p e below s Q kc ks T (mkF m pc Ls []) := by
  refine Gl.ret X hlk none (fun _ => rfl) eT hc hs (fun fs hl => ?_) hq
  exact X.returnOut hx hret hd hl
end OwnKit

section OwnArr
variable {p : Program} {l : Launch} {e : Env} {R : Room} {s : State} {m : MethodId} {args : Array Value} {below : List Frame} {meth : Method} {c : Code} {T : State} {locs : List Loc} {cells slots : Nat} {Z : State} {h : Heap} {a : Addr} {k : ClassId} {z j x : Int32} {vs : List Value} {dv v : Value} {g : JFrame} {rest : List Value}
theorem own_ldB (X : Stand p l e R s m args below meth c T locs cells slots) (hx : p.tables.exec = Jvm.exec) (hZ : Z.Warmed39 s.vm) (eT : T.heap = h) (F : Arv Z h a k .byte z vs dv) (hj : ¬ j < 0 ∧ j < z) (u : vs.getD j.toNatClampNeg dv = v) (hg : g.method = m) (hs : g.stack = .int j :: .ref a :: rest) (hd : decode c.code g.pc = .ok (.baload, 1)) :
    ∀ t, Steps p.tables e below (T.setTop { g with pc := g.pc + 1, stack := v :: rest }) t → Steps p.tables e below (T.setTop g) t := by
  obtain ⟨cl, A, q1, S, q3, H, G⟩ := F
  have hin := inb_of S hj
  intro t kk
  exact X.baloadBytes hx (by rw [eT]; exact A.1) (State.isArrayOf_alike hZ.alike A.2.1) A.2.2 hin (Has.at H hin u) hg hs hd t kk
theorem own_ldC (X : Stand p l e R s m args below meth c T locs cells slots) (hx : p.tables.exec = Jvm.exec) (hZ : Z.Warmed39 s.vm) (eT : T.heap = h) (F : Arv Z h a k .char z vs dv) (hj : ¬ j < 0 ∧ j < z) (u : vs.getD j.toNatClampNeg dv = v) (hg : g.method = m) (hs : g.stack = .int j :: .ref a :: rest) (hd : decode c.code g.pc = .ok (.caload, 1)) :
    ∀ t, Steps p.tables e below (T.setTop { g with pc := g.pc + 1, stack := v :: rest }) t → Steps p.tables e below (T.setTop g) t := by
  obtain ⟨cl, A, q1, S, q3, H, G⟩ := F
  have hin := inb_of S hj
  intro t kk
  exact X.caload hx (by rw [eT]; exact A.1) (State.isArrayOf_alike hZ.alike A.2.1) A.2.2 hin (Has.at H hin u) hg hs hd t kk
theorem own_len {ty : FieldType} (X : Stand p l e R s m args below meth c T locs cells slots) (hx : p.tables.exec = Jvm.exec) (hZ : Z.Warmed39 s.vm) (eT : T.heap = h) (F : Arv Z h a k ty z vs dv) (hg : g.method = m) (hs : g.stack = .ref a :: rest) (hd : decode c.code g.pc = .ok (.arraylength, 1)) :
    ∀ t, Steps p.tables e below (T.setTop { g with pc := g.pc + 1, stack := .int z :: rest }) t → Steps p.tables e below (T.setTop g) t := by
  obtain ⟨cl, A, q1, S, q3, H, G⟩ := F
  intro t kk
  exact X.arraylength hx (by rw [eT]; exact A.1) (State.isArrayOf_alike hZ.alike A.2.1) hg hs hd t (by rw [len_of S q3]; exact kk)
theorem own_stB (X : Stand p l e R s m args below meth c T locs cells slots) (hx : p.tables.exec = Jvm.exec) (hZ : Z.Warmed39 s.vm) (eT : T.heap = h) (F : Arv Z h a k .byte z vs dv) (hj : ¬ j < 0 ∧ j < z) (i : Nat) (hi : j.toNatClampNeg = i) (hl : i < vs.length) (hg : g.method = m) (hs : g.stack = .int x :: .int j :: .ref a :: rest) (hd : decode c.code g.pc = .ok (.bastore, 1)) :
    ∃ T' h' y, Stand p l e R s m args below meth c T' (locs ++ [⟨a, j.toNatClampNeg⟩]) cells slots ∧ T'.heap = h' ∧ Wr h h' a j.toNatClampNeg (.int y) ∧ y = nar .byte x ∧ Arv Z h' a k .byte z (vs.set i (.int y)) dv ∧
      ∀ t, Steps p.tables e below (T'.setTop { g with pc := g.pc + 1, stack := rest }) t → Steps p.tables e below (T.setTop g) t := by
  obtain ⟨cl, A, q1, S, q3, H, G⟩ := F
  obtain ⟨T', h', X', e', W', st'⟩ := stB X hx hZ eT A (inb_of S hj) hg hs hd
  exact ⟨T', h', _, X', e', W', rfl, Arv.set A q1 S q3 H G (fits_nar_byte _) W' i hi hl, st'⟩
theorem own_stC (X : Stand p l e R s m args below meth c T locs cells slots) (hx : p.tables.exec = Jvm.exec) (hZ : Z.Warmed39 s.vm) (eT : T.heap = h) (F : Arv Z h a k .char z vs dv) (hj : ¬ j < 0 ∧ j < z) (i : Nat) (hi : j.toNatClampNeg = i) (hl : i < vs.length) (hg : g.method = m) (hs : g.stack = .int x :: .int j :: .ref a :: rest) (hd : decode c.code g.pc = .ok (.castore, 1)) :
    ∃ T' h' y, Stand p l e R s m args below meth c T' (locs ++ [⟨a, j.toNatClampNeg⟩]) cells slots ∧ T'.heap = h' ∧ Wr h h' a j.toNatClampNeg (.int y) ∧ y = nar .char x ∧ Arv Z h' a k .char z (vs.set i (.int y)) dv ∧
      ∀ t, Steps p.tables e below (T'.setTop { g with pc := g.pc + 1, stack := rest }) t → Steps p.tables e below (T.setTop g) t := by
  obtain ⟨cl, A, q1, S, q3, H, G⟩ := F
  obtain ⟨T', h', X', e', W', st'⟩ := stC X hx hZ eT A (inb_of S hj) hg hs hd
  exact ⟨T', h', _, X', e', W', rfl, Arv.set A q1 S q3 H G (fits_nar_char _) W' i hi hl, st'⟩
theorem own_stI (X : Stand p l e R s m args below meth c T locs cells slots) (hx : p.tables.exec = Jvm.exec) (hZ : Z.Warmed39 s.vm) (eT : T.heap = h) (F : Arv Z h a k .int z vs dv) (hj : ¬ j < 0 ∧ j < z) (i : Nat) (hi : j.toNatClampNeg = i) (hl : i < vs.length) (hg : g.method = m) (hs : g.stack = .int x :: .int j :: .ref a :: rest) (hd : decode c.code g.pc = .ok (.iastore, 1)) :
    ∃ T' h', Stand p l e R s m args below meth c T' (locs ++ [⟨a, j.toNatClampNeg⟩]) cells slots ∧ T'.heap = h' ∧ Wr h h' a j.toNatClampNeg (.int x) ∧ Arv Z h' a k .int z (vs.set i (.int x)) dv ∧
      ∀ t, Steps p.tables e below (T'.setTop { g with pc := g.pc + 1, stack := rest }) t → Steps p.tables e below (T.setTop g) t := by
  obtain ⟨cl, A, q1, S, q3, H, G⟩ := F
  obtain ⟨T', h', X', e', W', st'⟩ := stI X hx hZ eT A (inb_of S hj) hg hs hd
  exact ⟨T', h', X', e', W', Arv.set A q1 S q3 H G rfl W' i hi hl, st'⟩
end OwnArr

theorem own_z0 : nar .boolean (0 : Int32) = 0 := by decide
theorem own_z1 : nar .boolean (1 : Int32) = 1 := by decide
theorem own_nn (x : Int32) : 0 ≤ (x &&& (2147483647 : Int32)).toInt := by
  rw [c_mask x 2147483647 31 (by decide) (by decide)]
  exact Int.emod_nonneg _ (by decide)
theorem own_lt {x y : Int32} (h : x.toInt < y.toInt) : x < y := Int32.lt_iff_toInt_lt.mpr h
theorem own_nlt {x y : Int32} (h : y.toInt ≤ x.toInt) : ¬ x < y := fun q => by
  have := Int32.lt_iff_toInt_lt.mp q; omega
theorem own_eq {x y : Int32} (h : x.toInt = y.toInt) : x = y := Int32.toInt_inj.mp h
theorem own_ltI {x y : Int32} (h : x < y) : x.toInt < y.toInt := Int32.lt_iff_toInt_lt.mp h
theorem own_nltI {x y : Int32} (h : ¬ x < y) : y.toInt ≤ x.toInt := by
  rcases Int.lt_or_le x.toInt y.toInt with q | q
  · exact absurd (own_lt q) h
  · exact q
theorem own_rem {x y : Int32} (hx : 0 ≤ x.toInt) (hy : 0 < y.toInt) : 0 ≤ (x % y).toInt ∧ (x % y).toInt < y.toInt := by
  have h := (c_irem x y y.toInt rfl).1 hx
  rw [h]; exact ⟨Int.emod_nonneg _ (by omega), Int.emod_lt_of_pos _ hy⟩
theorem own_add {x y : Int32} (h1 : -2147483648 ≤ x.toInt + y.toInt) (h2 : x.toInt + y.toInt < 2147483648) : (x + y).toInt = x.toInt + y.toInt := by
  have a := c_iadd x y; have b := (x + y).toInt_lt; have c := (x + y).le_toInt; omega
theorem own_sub {x y : Int32} (h1 : -2147483648 ≤ x.toInt - y.toInt) (h2 : x.toInt - y.toInt < 2147483648) : (x - y).toInt = x.toInt - y.toInt := by
  have a := c_isub x y; have b := (x - y).toInt_lt; have c := (x - y).le_toInt; omega
theorem own_and (x : Int32) (m : Int32) (k : Nat) (hk : k ≤ 31) (hm : m.toBitVec.toNat = 2 ^ k - 1) : 0 ≤ (x &&& m).toInt ∧ (x &&& m).toInt ≤ m.toInt ∧ (x &&& m).toInt = x.toInt % (2 ^ k : Nat) := by
  have h := c_mask x m k hk hm
  have hm0 : 0 ≤ m.toInt := by
    have e : m.toInt = m.toBitVec.toInt := rfl
    have q : 2 ^ k ≤ 2 ^ 31 := Nat.pow_le_pow_right (by decide) hk
    have l := m.toBitVec.isLt
    rw [e, BitVec.toInt_eq_toNat_cond, hm]; split <;> omega
  exact ⟨(c_and x m hm0).1, (c_and x m hm0).2, h⟩
section OwnWide
variable {p : Program} {l : Launch} {e : Env} {R : Room} {s : State} {m : MethodId} {args : Array Value} {below : List Frame} {meth : Method} {c : Code} {T T' : State} {locs : List Loc} {cells slots : Nat} {h : Heap} {Q : Option Value → Heap → List Loc → Prop} {kc ks : Nat} {g g' : JFrame}
/-- as Gl, with the wide frame -/
def GlW (p : Program) (e : Env) (below : List Frame) (s : State) (Q : Option Value → Heap → List Loc → Prop) (kc ks : Nat) (T : State) (g : JFrame) : Prop :=
  ∃ s₂ o, Steps p.tables e below (T.setTop g) s₂ ∧ s₂.status = .running ∧ Ended s₂ below o ∧ ∃ v L, o = .returned v ∧ Q v s₂.heap L ∧ ReturnedEndW s o s₂ L kc ks
theorem GlW.st (h : ∀ t, Steps p.tables e below (T'.setTop g') t → Steps p.tables e below (T.setTop g) t) (k : GlW p e below s Q kc ks T' g') : GlW p e below s Q kc ks T g := by
  obtain ⟨s₂, o, h1, r⟩ := k
  exact ⟨s₂, o, h _ h1, r⟩
theorem GlW.retZ {vm0 : Vm} {k0 : Nat} (hS : s.Since vm0 k0) (hk : k0 ≤ h.size) (X : Stand p l e R (s.setVm vm0) m args below meth c T locs cells slots) (hx : p.tables.exec = Jvm.exec) (hlk : meth.locks = false) {pc : Nat} {Ls : Array Slot} {z : Int32} {rest : List Value} (t : FieldType) (ht : t = .boolean ∨ t = .byte ∨ t = .char ∨ t = .short) (hret : meth.sig.returnType = some t) (hd : decode c.code pc = .ok (.ireturn, 1)) (eT : T.heap = h) (hc : cells ≤ kc) (hs : slots ≤ ks)
    (hq : Q (some (.int (nar t z))) h locs) : GlW p e below s Q kc ks T (mkF m pc Ls (.int z :: rest)) := by
  obtain ⟨fs, hr, hrun, hended, e1, e2, e3, e4⟩ := X.leaveW hS (by rw [eT]; exact hk) (v := some (.int (nar t z))) (fun q => by rw [hret] at q; cases q) hlk
  refine ⟨_, _, retN X hx (t := t) hret ht hd hr, hrun, hended, _, locs, rfl, ?_, e1, e2, e3, e4.mono hc hs⟩
  show Q _ T.heap locs
  rw [eT]; exact hq
end OwnWide
def own_U : List Int32 := [65, 66, 67, 68, 69, 70, 71, 72, 73, 74, 75, 76, 77, 78, 79, 80, 81, 82, 83, 84, 85, 86, 87, 88, 89, 90]
def own_L : List Int32 := [97, 98, 99, 100, 101, 102, 103, 104, 105, 106, 107, 108, 109, 110, 111, 112, 113, 114, 115, 116, 117, 118, 119, 120, 121, 122]
def own_lc (c : Int32) : Int32 := if c < (65 : Int32) then c else if (90 : Int32) < c then c else (c + (32 : Int32))
def own_c1 (y : Int32) : Int32 := nar .char ((y &&& (255 : Int32)).toUInt32.toUInt16.toUInt32.toInt32)
def own_c (y : Int32) : Int32 := nar .char (own_c1 y)
theorem own_lo {c v : Int32} (e : own_lc c = v) (h : c < (65 : Int32)) : v = c := by rw [← e]; unfold own_lc; rw [if_pos h]
theorem own_hi {c v : Int32} (e : own_lc c = v) (h0 : ¬ c < (65 : Int32)) (h : (90 : Int32) < c) : v = c := by rw [← e]; unfold own_lc; rw [if_neg h0, if_pos h]
theorem own_26 {i : Int32} (h : ¬ i < 0 ∧ i < (26 : Int32)) : ∃ k : Fin 26, i = Int32.ofNat k.1 := by
  have h1 := own_nltI h.1
  have h2 := own_ltI h.2
  have t0 : (0 : Int32).toInt = 0 := by decide
  have t1 : (26 : Int32).toInt = 26 := by decide
  refine ⟨⟨i.toInt.toNat, by omega⟩, ?_⟩
  show i = Int32.ofNat i.toInt.toNat
  rw [← Int32.ofInt_eq_ofNat, Int.toNat_of_nonneg (by omega), Int32.ofInt_toInt]
theorem own_k1 : ∀ k : Fin 26, own_lc (own_c (own_U.getD (Int32.ofNat k.1).toNatClampNeg 0)) = own_c (own_L.getD (Int32.ofNat k.1).toNatClampNeg 0) ∧ own_lc (own_c (own_L.getD (Int32.ofNat k.1).toNatClampNeg 0)) = own_c (own_L.getD (Int32.ofNat k.1).toNatClampNeg 0) ∧ own_lc (Int32.ofNat k.1 + 65) = own_c (own_L.getD (Int32.ofNat k.1).toNatClampNeg 0) ∧ own_lc (own_lc (Int32.ofNat k.1 + 65)) = own_lc (Int32.ofNat k.1 + 65) := by decide +kernel
theorem own_i {x v : Int32} (e : ((x &&& (2147483647 : Int32)) % (26 : Int32)) = v) : ¬ v < 0 ∧ v < (26 : Int32) := by
  have h := own_rem (own_nn x) (y := 26) (by decide)
  rw [e] at h
  exact ⟨own_nlt h.1, own_lt h.2⟩
theorem own_up {i : Int32} (h : ¬ i < 0 ∧ i < (26 : Int32)) : own_lc (own_c (own_U.getD i.toNatClampNeg 0)) = own_c (own_L.getD i.toNatClampNeg 0) := by
  obtain ⟨k, rfl⟩ := own_26 h; exact (own_k1 k).1
theorem own_dn {i : Int32} (h : ¬ i < 0 ∧ i < (26 : Int32)) : own_lc (own_c (own_L.getD i.toNatClampNeg 0)) = own_c (own_L.getD i.toNatClampNeg 0) := by
  obtain ⟨k, rfl⟩ := own_26 h; exact (own_k1 k).2.1
theorem own_in {c : Int32} (h1 : ¬ c < (65 : Int32)) (h2 : ¬ (90 : Int32) < c) : ¬ (c - (65 : Int32)) < 0 ∧ (c - (65 : Int32)) < (26 : Int32) := by
  have g1 := own_nltI h1; have g2 := own_nltI h2
  have t0 : (65 : Int32).toInt = 65 := by decide
  have t1 : (90 : Int32).toInt = 90 := by decide
  have t2 : (26 : Int32).toInt = 26 := by decide
  have t3 : (0 : Int32).toInt = 0 := by decide
  have q := own_sub (x := c) (y := 65) (by omega) (by omega)
  exact ⟨own_nlt (by omega), own_lt (by omega)⟩
theorem own_mid {c v w : Int32} (h1 : ¬ c < (65 : Int32)) (h2 : ¬ (90 : Int32) < c) (e : own_lc c = v) (f : own_c (own_L.getD (c - (65 : Int32)).toNatClampNeg 0) = w) : v = w := by
  obtain ⟨k, hk⟩ := own_26 (own_in h1 h2)
  have q := (own_k1 k).2.2.1
  rw [← hk, Int32.sub_add_cancel] at q
  rw [← e, ← f]; exact q
theorem own_id {c v : Int32} (e : own_lc c = v) : own_lc v = v := by
  by_cases h1 : c < (65 : Int32)
  · have := own_lo e h1; subst this; exact e
  · by_cases h2 : (90 : Int32) < c
    · have := own_hi e h1 h2; subst this; exact e
    · obtain ⟨k, hk⟩ := own_26 (own_in h1 h2)
      have q := (own_k1 k).2.2.2
      rw [← hk, Int32.sub_add_cancel] at q
      rw [← e]; exact q
theorem own_getg (ys : List Int32) (n : Nat) : (ys.map Value.int).getD n (.int (0 : Int32)) = .int (ys.getD n 0) := by
  rw [List.getD_eq_getElem?_getD, List.getD_eq_getElem?_getD, List.getElem?_map]
  cases ys[n]? <;> rfl
theorem d1_0 : decode jdk_41_method_11_code 0 = .ok (.iload_n 0, 1) := by decide +kernel
theorem d1_1 : decode jdk_41_method_11_code 1 = .ok (.ifCond .lt 8, 3) := by decide +kernel
theorem d1_4 : decode jdk_41_method_11_code 4 = .ok (.iload_n 0, 1) := by decide +kernel
theorem d1_5 : decode jdk_41_method_11_code 5 = .ok (.iload_n 1, 1) := by decide +kernel
theorem d1_6 : decode jdk_41_method_11_code 6 = .ok (.if_icmp .lt 10, 3) := by decide +kernel
theorem d1_9 : decode jdk_41_method_11_code 9 = .ok (.aload_n 2, 1) := by decide +kernel
theorem d1_10 : decode jdk_41_method_11_code 10 = .ok (.iload_n 0, 1) := by decide +kernel
theorem d1_11 : decode jdk_41_method_11_code 11 = .ok (.iload_n 1, 1) := by decide +kernel
theorem d1_12 : decode jdk_41_method_11_code 12 = .ok (.invokestatic 95, 3) := by decide +kernel
theorem d1_15 : decode jdk_41_method_11_code 15 = .ok (.athrow, 1) := by decide +kernel
theorem d1_16 : decode jdk_41_method_11_code 16 = .ok (.iload_n 0, 1) := by decide +kernel
theorem d1_17 : decode jdk_41_method_11_code 17 = .ok (.ireturn, 1) := by decide +kernel
theorem pn_0 : plainName "jdk/internal/util/Preconditions" = true := by first | (simp [plainName, overriddenIn]; done) | decide +kernel
theorem ef_1 (m : MethodId) (p1 : Int32) (p2 : Int32) (p3 : Value) (hr_p3 : p3.isRef = true) : entryFrame m #[(.int p1), (.int p2), p3] 3 = mkF m 0 #[.val (.int p1), .val (.int p2), .val p3] [] := by rcases XT.refc hr_p3 with rfl | ⟨r_p3, rfl⟩ <;> first | (simp [entryFrame, mkF, argsToLocals, Value.category]; done) | rfl
def Q1 (Z : State) (p1 : Int32) (p2 : Int32) (p3 : Value)  (h0 : Heap) (n0 : Nat) (v : Option Value) (h : Heap) (L : List Loc) : Prop := v = some (.int (p1)) ∧ Fr n0 L ∧ h = h0
set_option maxRecDepth 65536 in
set_option maxHeartbeats 40000000 in
theorem rm1 (l : Launch) (Z : State) (a0 : Array Value) (hw : ∀ d ∈ tables_1, d.before a0 Z = true) (p1 : Int32) (p2 : Int32) (p3 : Value)  (h0 : Heap) (n0 : Nat) (Z0 : n0 ≤ h0.size) (hr_p3 : p3.isRef = true) (hA : ¬ p1 < (0 : Int32)) (hB : p1 < p2) :
    MetFree l (⟨"jdk/internal/util/Preconditions", "checkIndex", "(IILjava/util/function/BiFunction;)I"⟩ : MethodName) (head1 [Jvm.Cond.code (⟨"jdk/internal/util/Preconditions", "checkIndex", "(IILjava/util/function/BiFunction;)I"⟩ : MethodName) jdk_41_method_11_code 3 (some .int)] ({ frames := 0, cells := 0, slots := 0, locals := 0 } : Room)) (fun a U => a = #[(.int p1), (.int p2), p3] ∧ Z.Warmed39 U.vm ∧ U.heap = h0) (fun _ _ _ _ _ => True) (fun _ U o U' => ∃ v L, o = .returned v ∧ Q1 Z p1 p2 p3  h0 n0 v U'.heap L ∧ FrameEnd U o U' L ({ frames := 0, cells := 0, slots := 0, locals := 0 } : Room).cells ({ frames := 0, cells := 0, slots := 0, locals := 0 } : Room).slots) := by
  refine MetFree.of_bodySF (plainFor_of_name pn_0) hisR ?_
  intro p e s m args below meth c s₁ Bd hml0 hP hK
  obtain ⟨rfl, hZ, hh⟩ := hP
  have hx := Bd.exec
  have hby := Bd.bytes
  have hlk : meth.locks = false := Bd.notSynchronized
  have hml : c.maxLocals = 3 := hml0
  have hown : s.vm.findClass "jdk/internal/util/Preconditions" = some m.cls := findClass_of_methodNamed Bd.named
  have hnm := (name_of_methodNamed Bd.named Bd.method).1
  have X0 : Stand p l e ({ frames := 0, cells := 0, slots := 0, locals := 0 } : Room) s m #[(.int p1), (.int p2), p3] below meth c s₁ [] 0 0 := Stand.of_body Bd
  have e0 : s₁.heap = h0 := by rw [← hh, Bd.state]; rfl
  have N0 := Fr.nil n0
  show Gl p e below s (Q1 Z p1 p2 p3  h0 n0) 0 0 s₁ (entryFrame m #[(.int p1), (.int p2), p3] 3)
  rw [ef_1 m p1 p2 p3 hr_p3]
  refine Gl.st (g' := (mkF m 1 #[.val (.int p1), .val (.int p2), .val p3] [(.int p1)])) (fun t k => XS.iloadN X0.here hx rfl (hb hby d1_0) rfl k) ?_
  refine Gl.st (g' := (mkF m 4 #[.val (.int p1), .val (.int p2), .val p3] [])) (fun t k => XS.ifNo X0.here hx rfl (hb hby d1_1) rfl (XT.i0_lt_f hA) k) ?_
  refine Gl.st (g' := (mkF m 5 #[.val (.int p1), .val (.int p2), .val p3] [(.int p1)])) (fun t k => XS.iloadN X0.here hx rfl (hb hby d1_4) rfl k) ?_
  refine Gl.st (g' := (mkF m 6 #[.val (.int p1), .val (.int p2), .val p3] [(.int p2), (.int p1)])) (fun t k => XS.iloadN X0.here hx rfl (hb hby d1_5) rfl k) ?_
  refine Gl.st (g' := (mkF m 16 #[.val (.int p1), .val (.int p2), .val p3] [])) (fun t k => XS.icmpYes X0.here hx rfl (pc0 := 6) (pc' := 16) rfl (hb hby d1_6) rfl (XT.ii_lt_t hB) (by decide) (by decide) k) ?_
  refine Gl.st (g' := (mkF m 17 #[.val (.int p1), .val (.int p2), .val p3] [(.int p1)])) (fun t k => XS.iloadN X0.here hx rfl (hb hby d1_16) rfl k) ?_
  refine Gl.retI X0 hx hlk Bd.returns (hb hby d1_17) e0 (by decide) (by decide) ?_
  exact ⟨rfl, N0, rfl⟩
theorem pd_0 : parseMethodDescriptor "(IILjava/util/function/BiFunction;)I" = some ⟨[.int, .int, (.object "java/util/function/BiFunction")], some .int⟩ := by decide +kernel
theorem d2_0 : decode jdk_42_method_155_code 0 = .ok (.iload_n 0, 1) := by decide +kernel
theorem d2_1 : decode jdk_42_method_155_code 1 = .ok (.iload_n 1, 1) := by decide +kernel
theorem d2_2 : decode jdk_42_method_155_code 2 = .ok (.getstatic 1053, 3) := by decide +kernel
theorem d2_5 : decode jdk_42_method_155_code 5 = .ok (.invokestatic 1059, 3) := by decide +kernel
theorem d2_8 : decode jdk_42_method_155_code 8 = .ok (.pop, 1) := by decide +kernel
theorem d2_9 : decode jdk_42_method_155_code 9 = .ok (.return_, 1) := by decide +kernel
theorem pn_1 : plainName "java/lang/String" = true := by first | (simp [plainName, overriddenIn]; done) | decide +kernel
theorem ef_2 (m : MethodId) (p1 : Int32) (p2 : Int32) : entryFrame m #[(.int p1), (.int p2)] 2 = mkF m 0 #[.val (.int p1), .val (.int p2)] [] := by first | (simp [entryFrame, mkF, argsToLocals, Value.category]; done) | rfl
def Q2 (Z : State) (p1 : Int32) (p2 : Int32) (fm : Value) (h0 : Heap) (n0 : Nat) (v : Option Value) (h : Heap) (L : List Loc) : Prop := v = none ∧ Fr n0 L ∧ h = h0
set_option maxRecDepth 65536 in
set_option maxHeartbeats 40000000 in
theorem rm2 (l : Launch) (Z : State) (a0 : Array Value) (hw : ∀ d ∈ tables_1, d.before a0 Z = true) (p1 : Int32) (p2 : Int32) (fm : Value) (h0 : Heap) (n0 : Nat) (Z0 : n0 ≤ h0.size) (SF : Sta Z h0 "jdk/internal/util/Preconditions" "SIOOBE_FORMATTER" "Ljava/util/function/BiFunction;" fm) (hfm : fm.isRef = true) (hA : ¬ p1 < (0 : Int32)) (hB : p1 < p2) :
    MetFree l (⟨"java/lang/String", "checkIndex", "(II)V"⟩ : MethodName) (head1 [Jvm.Cond.code (⟨"java/lang/String", "checkIndex", "(II)V"⟩ : MethodName) jdk_42_method_155_code 2 none] ({ frames := 1, cells := 0, slots := 0, locals := 14 } : Room)) (fun a U => a = #[(.int p1), (.int p2)] ∧ Z.Warmed39 U.vm ∧ U.heap = h0) (fun _ _ _ _ _ => True) (fun _ U o U' => ∃ v L, o = .returned v ∧ Q2 Z p1 p2 fm h0 n0 v U'.heap L ∧ FrameEnd U o U' L ({ frames := 1, cells := 0, slots := 0, locals := 14 } : Room).cells ({ frames := 1, cells := 0, slots := 0, locals := 14 } : Room).slots) := by
  refine MetFree.of_bodySF (plainFor_of_name pn_1) hisR ?_
  intro p e s m args below meth c s₁ Bd hml0 hP hK
  obtain ⟨rfl, hZ, hh⟩ := hP
  have hx := Bd.exec
  have hby := Bd.bytes
  have hlk : meth.locks = false := Bd.notSynchronized
  have hml : c.maxLocals = 2 := hml0
  have hown : s.vm.findClass "java/lang/String" = some m.cls := findClass_of_methodNamed Bd.named
  have hnm := (name_of_methodNamed Bd.named Bd.method).1
  have X0 : Stand p l e ({ frames := 1, cells := 0, slots := 0, locals := 14 } : Room) s m #[(.int p1), (.int p2)] below meth c s₁ [] 0 0 := Stand.of_body Bd
  have e0 : s₁.heap = h0 := by rw [← hh, Bd.state]; rfl
  have N0 := Fr.nil n0
  show Gl p e below s (Q2 Z p1 p2 fm h0 n0) 0 0 s₁ (entryFrame m #[(.int p1), (.int p2)] 2)
  rw [ef_2 m p1 p2]
  refine Gl.st (g' := (mkF m 1 #[.val (.int p1), .val (.int p2)] [(.int p1)])) (fun t k => XS.iloadN X0.here hx rfl (hb hby d2_0) rfl k) ?_
  refine Gl.st (g' := (mkF m 2 #[.val (.int p1), .val (.int p2)] [(.int p2), (.int p1)])) (fun t k => XS.iloadN X0.here hx rfl (hb hby d2_1) rfl k) ?_
  obtain ⟨T1, X1, e1, st1⟩ := getS X0 hx hZ hown (host := "") (hw _ (List.mem_of_getElem? (i := 34) rfl)) Via.refl e0 SF (g := (mkF m 2 #[.val (.int p1), .val (.int p2)] [(.int p2), (.int p1)])) rfl (hb hby d2_2)
  refine Gl.st (g' := (mkF m 5 #[.val (.int p1), .val (.int p2)] [fm, (.int p2), (.int p1)])) st1 ?_
  obtain ⟨_, _, ⟨T2, L2, k2, n2⟩, -, X2, ⟨Lc2, hQ2, l2, y2, z2⟩, st2⟩ := Jvm.LawKit.callS X1 hx (y := (⟨"jdk/internal/util/Preconditions", "checkIndex", "(IILjava/util/function/BiFunction;)I"⟩ : MethodName)) hown (mvT hZ (hw _ (List.mem_of_getElem? (i := 36) rfl))) (mvT hZ (hw _ (List.mem_of_getElem? (i := 37) rfl))) (mvT hZ (hw _ (List.mem_of_getElem? (i := 35) rfl))) (mvT hZ (hw _ (List.mem_of_getElem? (i := 38) rfl))) (by decide) (backOf (W := 0) (rm1 l Z a0 hw p1 p2 fm  h0 n0 Z0 hfm hA hB) hZ (hw _ (List.mem_of_getElem? (i := 38) rfl)) (hw _ (List.mem_of_getElem? (i := 35) rfl)) (by decide) (by decide)) (g := (mkF m 5 #[.val (.int p1), .val (.int p2)] [fm, (.int p2), (.int p1)])) rfl (by rw [hml]; rfl) (argsL := [(.int p1), (.int p2), fm]) (rest := []) (lenOf pd_0 rfl) rfl (by show 2 * 0 + _ ≤ _; exact Nat.le_of_eq rfl) (hb hby d2_5) (fun _ _ => ⟨rfl, e1, (by decide : 0 + 0 ≤ _), (by decide : 0 + 0 ≤ _)⟩)
  dsimp only [Pt.U, Pt.locs, Pt.cells, Pt.slots] at X2 l2 y2 z2 st2 hQ2
  subst l2 y2 z2
  obtain ⟨rfl, Nq2, e2⟩ := hQ2
  have N2 := Fr.app N0 Nq2
  refine Gl.st (g' := (mkF m 8 #[.val (.int p1), .val (.int p2)] [(.int p1)])) st2 ?_
  refine Gl.st (g' := (mkF m 9 #[.val (.int p1), .val (.int p2)] [])) (fun t k => XS.pop X2.here hx rfl (hb hby d2_8) rfl rfl k) ?_
  refine Gl.retV X2 hx hlk Bd.returns (hb hby d2_9) e2 (by decide) (by decide) ?_
  exact ⟨rfl, N2, rfl⟩
theorem pd_1 : parseMethodDescriptor "(II)V" = some ⟨[.int, .int], none⟩ := by decide +kernel
theorem d3_0 : decode jdk_43_method_2_code 0 = .ok (.iload_n 1, 1) := by decide +kernel
theorem d3_1 : decode jdk_43_method_2_code 1 = .ok (.aload_n 0, 1) := by decide +kernel
theorem d3_2 : decode jdk_43_method_2_code 2 = .ok (.arraylength, 1) := by decide +kernel
theorem d3_3 : decode jdk_43_method_2_code 3 = .ok (.invokestatic 9, 3) := by decide +kernel
theorem d3_6 : decode jdk_43_method_2_code 6 = .ok (.aload_n 0, 1) := by decide +kernel
theorem d3_7 : decode jdk_43_method_2_code 7 = .ok (.iload_n 1, 1) := by decide +kernel
theorem d3_8 : decode jdk_43_method_2_code 8 = .ok (.baload, 1) := by decide +kernel
theorem d3_9 : decode jdk_43_method_2_code 9 = .ok (.sipush 255, 3) := by decide +kernel
theorem d3_12 : decode jdk_43_method_2_code 12 = .ok (.iand, 1) := by decide +kernel
theorem d3_13 : decode jdk_43_method_2_code 13 = .ok (.i2c, 1) := by decide +kernel
theorem d3_14 : decode jdk_43_method_2_code 14 = .ok (.ireturn, 1) := by decide +kernel
theorem pn_2 : plainName "java/lang/StringLatin1" = true := by first | (simp [plainName, overriddenIn]; done) | decide +kernel
theorem ef_3 (m : MethodId) (a1 : Addr) (p1 : Int32) : entryFrame m #[(.ref a1), (.int p1)] 2 = mkF m 0 #[.val (.ref a1), .val (.int p1)] [] := by first | (simp [entryFrame, mkF, argsToLocals, Value.category]; done) | rfl
def Q3 (Z : State) (a1 : Addr) (p1 : Int32) (kb : ClassId) (zz : Int32) (ys : List Int32) (fm : Value) (h0 : Heap) (n0 : Nat) (v : Option Value) (h : Heap) (L : List Loc) : Prop := v = some (.int (own_c1 (ys.getD p1.toNatClampNeg 0))) ∧ Fr n0 L ∧ h = h0
set_option maxRecDepth 65536 in
set_option maxHeartbeats 40000000 in
theorem rm3 (l : Launch) (Z : State) (a0 : Array Value) (hw : ∀ d ∈ tables_1, d.before a0 Z = true) (a1 : Addr) (p1 : Int32) (kb : ClassId) (zz : Int32) (ys : List Int32) (fm : Value) (h0 : Heap) (n0 : Nat) (Z0 : n0 ≤ h0.size) (V : Arv Z h0 a1 kb .byte zz (ys.map Value.int) (.int (0 : Int32))) (hj : ¬ p1 < 0 ∧ p1 < zz) (SF : Sta Z h0 "jdk/internal/util/Preconditions" "SIOOBE_FORMATTER" "Ljava/util/function/BiFunction;" fm) (hfm : fm.isRef = true) :
    MetFree l (⟨"java/lang/StringLatin1", "charAt", "([BI)C"⟩ : MethodName) (head1 [Jvm.Cond.code (⟨"java/lang/StringLatin1", "charAt", "([BI)C"⟩ : MethodName) jdk_43_method_2_code 2 (some .char)] ({ frames := 2, cells := 0, slots := 0, locals := 27 } : Room)) (fun a U => a = #[(.ref a1), (.int p1)] ∧ Z.Warmed39 U.vm ∧ U.heap = h0) (fun _ _ _ _ _ => True) (fun _ U o U' => ∃ v L, o = .returned v ∧ Q3 Z a1 p1 kb zz ys fm h0 n0 v U'.heap L ∧ FrameEnd U o U' L ({ frames := 2, cells := 0, slots := 0, locals := 27 } : Room).cells ({ frames := 2, cells := 0, slots := 0, locals := 27 } : Room).slots) := by
  refine MetFree.of_bodySF (plainFor_of_name pn_2) hisR ?_
  intro p e s m args below meth c s₁ Bd hml0 hP hK
  obtain ⟨rfl, hZ, hh⟩ := hP
  have hx := Bd.exec
  have hby := Bd.bytes
  have hlk : meth.locks = false := Bd.notSynchronized
  have hml : c.maxLocals = 2 := hml0
  have hown : s.vm.findClass "java/lang/StringLatin1" = some m.cls := findClass_of_methodNamed Bd.named
  have hnm := (name_of_methodNamed Bd.named Bd.method).1
  have X0 : Stand p l e ({ frames := 2, cells := 0, slots := 0, locals := 27 } : Room) s m #[(.ref a1), (.int p1)] below meth c s₁ [] 0 0 := Stand.of_body Bd
  have e0 : s₁.heap = h0 := by rw [← hh, Bd.state]; rfl
  have N0 := Fr.nil n0
  show Gl p e below s (Q3 Z a1 p1 kb zz ys fm h0 n0) 0 0 s₁ (entryFrame m #[(.ref a1), (.int p1)] 2)
  rw [ef_3 m a1 p1]
  refine Gl.st (g' := (mkF m 1 #[.val (.ref a1), .val (.int p1)] [(.int p1)])) (fun t k => XS.iloadN X0.here hx rfl (hb hby d3_0) rfl k) ?_
  refine Gl.st (g' := (mkF m 2 #[.val (.ref a1), .val (.int p1)] [(.ref a1), (.int p1)])) (fun t k => XS.aloadN X0.here hx rfl (hb hby d3_1) rfl rfl k) ?_
  refine Gl.st (g' := (mkF m 3 #[.val (.ref a1), .val (.int p1)] [(.int zz), (.int p1)])) (own_len X0 hx hZ e0 V (g := (mkF m 2 #[.val (.ref a1), .val (.int p1)] [(.ref a1), (.int p1)])) rfl rfl (hb hby d3_2)) ?_
  obtain ⟨_, _, ⟨T3, L3, k3, n3⟩, -, X3, ⟨Lc3, hQ3, l3, y3, z3⟩, st3⟩ := Jvm.LawKit.callS X0 hx (y := (⟨"java/lang/String", "checkIndex", "(II)V"⟩ : MethodName)) hown (mvT hZ (hw _ (List.mem_of_getElem? (i := 31) rfl))) (mvT hZ (hw _ (List.mem_of_getElem? (i := 32) rfl))) (mvT hZ (hw _ (List.mem_of_getElem? (i := 1) rfl))) (mvT hZ (hw _ (List.mem_of_getElem? (i := 33) rfl))) (by decide) (backOf (W := 0) (rm2 l Z a0 hw p1 zz fm h0 n0 Z0 SF hfm hj.1 hj.2) hZ (hw _ (List.mem_of_getElem? (i := 33) rfl)) (hw _ (List.mem_of_getElem? (i := 1) rfl)) (by decide) (by decide)) (g := (mkF m 3 #[.val (.ref a1), .val (.int p1)] [(.int zz), (.int p1)])) rfl (by rw [hml]; rfl) (argsL := [(.int p1), (.int zz)]) (rest := []) (lenOf pd_1 rfl) rfl (by show 2 * 0 + _ ≤ _; exact Nat.le_of_eq rfl) (hb hby d3_3) (fun _ _ => ⟨rfl, e0, (by decide : 0 + 0 ≤ _), (by decide : 0 + 0 ≤ _)⟩)
  dsimp only [Pt.U, Pt.locs, Pt.cells, Pt.slots] at X3 l3 y3 z3 st3 hQ3
  subst l3 y3 z3
  obtain ⟨rfl, Nq3, e3⟩ := hQ3
  have N3 := Fr.app N0 Nq3
  refine Gl.st (g' := (mkF m 6 #[.val (.ref a1), .val (.int p1)] [])) st3 ?_
  refine Gl.st (g' := (mkF m 7 #[.val (.ref a1), .val (.int p1)] [(.ref a1)])) (fun t k => XS.aloadN X3.here hx rfl (hb hby d3_6) rfl rfl k) ?_
  refine Gl.st (g' := (mkF m 8 #[.val (.ref a1), .val (.int p1)] [(.int p1), (.ref a1)])) (fun t k => XS.iloadN X3.here hx rfl (hb hby d3_7) rfl k) ?_
  refine Gl.st (g' := (mkF m 9 #[.val (.ref a1), .val (.int p1)] [(.int (ys.getD p1.toNatClampNeg 0))])) (own_ldB X3 hx hZ e3 V (j := p1) (v := (.int (ys.getD p1.toNatClampNeg 0))) hj (own_getg ys _) (g := (mkF m 8 #[.val (.ref a1), .val (.int p1)] [(.int p1), (.ref a1)])) rfl rfl (hb hby d3_8)) ?_
  refine Gl.st (g' := (mkF m 12 #[.val (.ref a1), .val (.int p1)] [(.int (255 : Int32)), (.int (ys.getD p1.toNatClampNeg 0))])) (fun t k => XT.sipushV X3.here hx rfl (255 : Int32) (hb hby d3_9) rfl k) ?_
  refine Gl.st (g' := (mkF m 13 #[.val (.ref a1), .val (.int p1)] [(.int ((ys.getD p1.toNatClampNeg 0) &&& (255 : Int32)))])) (fun t k => XS.iand X3.here hx rfl (hb hby d3_12) rfl k) ?_
  refine Gl.st (g' := (mkF m 14 #[.val (.ref a1), .val (.int p1)] [(.int (((ys.getD p1.toNatClampNeg 0) &&& (255 : Int32)).toUInt32.toUInt16.toUInt32.toInt32))])) (fun t k => XS.i2c X3.here hx rfl (hb hby d3_13) rfl k) ?_
  refine Gl.retZ X3 hx hlk .char (by simp) Bd.returns (hb hby d3_14) e3 (by decide) (by decide) ?_
  exact ⟨rfl, N3, rfl⟩
theorem d4_0 : decode jdk_42_method_154_code 0 = .ok (.getstatic 38, 3) := by decide +kernel
theorem d4_3 : decode jdk_42_method_154_code 3 = .ok (.ifCond .eq 14, 3) := by decide +kernel
theorem d4_6 : decode jdk_42_method_154_code 6 = .ok (.aload_n 0, 1) := by decide +kernel
theorem d4_7 : decode jdk_42_method_154_code 7 = .ok (.getfield 15, 3) := by decide +kernel
theorem d4_10 : decode jdk_42_method_154_code 10 = .ok (.ifCond .ne 7, 3) := by decide +kernel
theorem d4_13 : decode jdk_42_method_154_code 13 = .ok (.iconst 1, 1) := by decide +kernel
theorem d4_14 : decode jdk_42_method_154_code 14 = .ok (.goto 4, 3) := by decide +kernel
theorem d4_17 : decode jdk_42_method_154_code 17 = .ok (.iconst 0, 1) := by decide +kernel
theorem d4_18 : decode jdk_42_method_154_code 18 = .ok (.ireturn, 1) := by decide +kernel
theorem ef_4 (m : MethodId) (a1 : Addr) : entryFrame m #[(.ref a1)] 1 = mkF m 0 #[.val (.ref a1)] [] := by first | (simp [entryFrame, mkF, argsToLocals, Value.category]; done) | rfl
def Q4 (Z : State) (a1 : Addr) (cs : Int32) (h0 : Heap) (n0 : Nat) (v : Option Value) (h : Heap) (L : List Loc) : Prop := v = some (.int ((1 : Int32))) ∧ Fr n0 L ∧ h = h0
set_option maxRecDepth 65536 in
set_option maxHeartbeats 40000000 in
theorem rm4 (l : Launch) (Z : State) (a0 : Array Value) (hw : ∀ d ∈ tables_1, d.before a0 Z = true) (a1 : Addr) (cs : Int32) (h0 : Heap) (n0 : Nat) (Z0 : n0 ≤ h0.size) (FC : Fld Z h0 a1 "java/lang/String" "coder" "B" (.int (0 : Int32))) (SC : Sta Z h0 "java/lang/String" "COMPACT_STRINGS" "Z" (.int cs)) (hcs : ¬ cs = (0 : Int32)) :
    MetFree l (⟨"java/lang/String", "isLatin1", "()Z"⟩ : MethodName) (head1 [Jvm.Cond.code (⟨"java/lang/String", "isLatin1", "()Z"⟩ : MethodName) jdk_42_method_154_code 1 (some .boolean)] ({ frames := 0, cells := 0, slots := 0, locals := 0 } : Room)) (fun a U => a = #[(.ref a1)] ∧ Z.Warmed39 U.vm ∧ U.heap = h0) (fun _ _ _ _ _ => True) (fun _ U o U' => ∃ v L, o = .returned v ∧ Q4 Z a1 cs h0 n0 v U'.heap L ∧ FrameEnd U o U' L ({ frames := 0, cells := 0, slots := 0, locals := 0 } : Room).cells ({ frames := 0, cells := 0, slots := 0, locals := 0 } : Room).slots) := by
  refine MetFree.of_bodySF (plainFor_of_name pn_1) hisR ?_
  intro p e s m args below meth c s₁ Bd hml0 hP hK
  obtain ⟨rfl, hZ, hh⟩ := hP
  have hx := Bd.exec
  have hby := Bd.bytes
  have hlk : meth.locks = false := Bd.notSynchronized
  have hml : c.maxLocals = 1 := hml0
  have hown : s.vm.findClass "java/lang/String" = some m.cls := findClass_of_methodNamed Bd.named
  have hnm := (name_of_methodNamed Bd.named Bd.method).1
  have X0 : Stand p l e ({ frames := 0, cells := 0, slots := 0, locals := 0 } : Room) s m #[(.ref a1)] below meth c s₁ [] 0 0 := Stand.of_body Bd
  have e0 : s₁.heap = h0 := by rw [← hh, Bd.state]; rfl
  have N0 := Fr.nil n0
  show Gl p e below s (Q4 Z a1 cs h0 n0) 0 0 s₁ (entryFrame m #[(.ref a1)] 1)
  rw [ef_4 m a1]
  obtain ⟨T4, X4, e4, st4⟩ := getS X0 hx hZ hown (host := "") (hw _ (List.mem_of_getElem? (i := 24) rfl)) Via.refl e0 SC (g := (mkF m 0 #[.val (.ref a1)] [])) rfl (hb hby d4_0)
  refine Gl.st (g' := (mkF m 3 #[.val (.ref a1)] [(.int cs)])) st4 ?_
  refine Gl.st (g' := (mkF m 6 #[.val (.ref a1)] [])) (fun t k => XS.ifNo X4.here hx rfl (hb hby d4_3) rfl (XT.i0_eq_f hcs) k) ?_
  refine Gl.st (g' := (mkF m 7 #[.val (.ref a1)] [(.ref a1)])) (fun t k => XS.aloadN X4.here hx rfl (hb hby d4_6) rfl rfl k) ?_
  obtain ⟨T5, X5, e5, st5⟩ := getF X4 hx hZ hown (host := "") (Or.inl (hw _ (List.mem_of_getElem? (i := 25) rfl))) Via.refl e4 FC (g := (mkF m 7 #[.val (.ref a1)] [(.ref a1)])) rfl rfl (hb hby d4_7)
  refine Gl.st (g' := (mkF m 10 #[.val (.ref a1)] [(.int (0 : Int32))])) st5 ?_
  refine Gl.st (g' := (mkF m 13 #[.val (.ref a1)] [])) (fun t k => XS.ifNo X5.here hx rfl (hb hby d4_10) rfl (XT.i0_ne_f (by decide)) k) ?_
  refine Gl.st (g' := (mkF m 14 #[.val (.ref a1)] [(.int (1 : Int32))])) (fun t k => XT.iconstV X5.here hx rfl (1 : Int32) (hb hby d4_13) rfl k) ?_
  refine Gl.st (g' := (mkF m 18 #[.val (.ref a1)] [(.int (1 : Int32))])) (fun t k => XS.goto X5.here hx rfl (pc0 := 14) (pc' := 18) rfl (hb hby d4_14) (by decide) (by decide) k) ?_
  refine Gl.retZ X5 hx hlk .boolean (by simp) Bd.returns (hb hby d4_18) e5 (by decide) (by decide) ?_
  rw [Q4, own_z1]
  exact ⟨rfl, N0, rfl⟩
theorem pd_2 : parseMethodDescriptor "()Z" = some ⟨[], some .boolean⟩ := by decide +kernel
theorem pd_3 : parseMethodDescriptor "([BI)C" = some ⟨[(.array .byte), .int], some .char⟩ := by decide +kernel
theorem d5_0 : decode jdk_42_method_56_code 0 = .ok (.aload_n 0, 1) := by decide +kernel
theorem d5_1 : decode jdk_42_method_56_code 1 = .ok (.invokevirtual 492, 3) := by decide +kernel
theorem d5_4 : decode jdk_42_method_56_code 4 = .ok (.ifCond .eq 12, 3) := by decide +kernel
theorem d5_7 : decode jdk_42_method_56_code 7 = .ok (.aload_n 0, 1) := by decide +kernel
theorem d5_8 : decode jdk_42_method_56_code 8 = .ok (.getfield 9, 3) := by decide +kernel
theorem d5_11 : decode jdk_42_method_56_code 11 = .ok (.iload_n 1, 1) := by decide +kernel
theorem d5_12 : decode jdk_42_method_56_code 12 = .ok (.invokestatic 495, 3) := by decide +kernel
theorem d5_15 : decode jdk_42_method_56_code 15 = .ok (.ireturn, 1) := by decide +kernel
theorem d5_16 : decode jdk_42_method_56_code 16 = .ok (.aload_n 0, 1) := by decide +kernel
theorem d5_17 : decode jdk_42_method_56_code 17 = .ok (.getfield 9, 3) := by decide +kernel
theorem d5_20 : decode jdk_42_method_56_code 20 = .ok (.iload_n 1, 1) := by decide +kernel
theorem d5_21 : decode jdk_42_method_56_code 21 = .ok (.invokestatic 498, 3) := by decide +kernel
theorem d5_24 : decode jdk_42_method_56_code 24 = .ok (.ireturn, 1) := by decide +kernel
theorem ef_5 (m : MethodId) (a1 : Addr) (p1 : Int32) : entryFrame m #[(.ref a1), (.int p1)] 2 = mkF m 0 #[.val (.ref a1), .val (.int p1)] [] := by first | (simp [entryFrame, mkF, argsToLocals, Value.category]; done) | rfl
def Q5 (Z : State) (a1 : Addr) (p1 : Int32) (b : Addr) (kb : ClassId) (zz : Int32) (ys : List Int32) (fm : Value) (cs : Int32) (h0 : Heap) (n0 : Nat) (v : Option Value) (h : Heap) (L : List Loc) : Prop := v = some (.int (own_c (ys.getD p1.toNatClampNeg 0))) ∧ Fr n0 L ∧ h = h0
set_option maxRecDepth 65536 in
set_option maxHeartbeats 40000000 in
theorem rm5 (l : Launch) (Z : State) (a0 : Array Value) (hw : ∀ d ∈ tables_1, d.before a0 Z = true) (a1 : Addr) (p1 : Int32) (b : Addr) (kb : ClassId) (zz : Int32) (ys : List Int32) (fm : Value) (cs : Int32) (h0 : Heap) (n0 : Nat) (Z0 : n0 ≤ h0.size) (EX : Exa Z h0 a1 "java/lang/String") (FC : Fld Z h0 a1 "java/lang/String" "coder" "B" (.int (0 : Int32))) (FV : Fld Z h0 a1 "java/lang/String" "value" "[B" (.ref b)) (V : Arv Z h0 b kb .byte zz (ys.map Value.int) (.int (0 : Int32))) (hj : ¬ p1 < 0 ∧ p1 < zz) (SF : Sta Z h0 "jdk/internal/util/Preconditions" "SIOOBE_FORMATTER" "Ljava/util/function/BiFunction;" fm) (hfm : fm.isRef = true) (SC : Sta Z h0 "java/lang/String" "COMPACT_STRINGS" "Z" (.int cs)) (hcs : ¬ cs = (0 : Int32)) :
    MetFree l (⟨"java/lang/String", "charAt", "(I)C"⟩ : MethodName) (head1 [Jvm.Cond.code (⟨"java/lang/String", "charAt", "(I)C"⟩ : MethodName) jdk_42_method_56_code 2 (some .char)] ({ frames := 3, cells := 0, slots := 0, locals := 40 } : Room)) (fun a U => a = #[(.ref a1), (.int p1)] ∧ Z.Warmed39 U.vm ∧ U.heap = h0) (fun _ _ _ _ _ => True) (fun _ U o U' => ∃ v L, o = .returned v ∧ Q5 Z a1 p1 b kb zz ys fm cs h0 n0 v U'.heap L ∧ FrameEnd U o U' L ({ frames := 3, cells := 0, slots := 0, locals := 40 } : Room).cells ({ frames := 3, cells := 0, slots := 0, locals := 40 } : Room).slots) := by
  refine MetFree.of_bodySF (plainFor_of_name pn_1) hisR ?_
  intro p e s m args below meth c s₁ Bd hml0 hP hK
  obtain ⟨rfl, hZ, hh⟩ := hP
  have hx := Bd.exec
  have hby := Bd.bytes
  have hlk : meth.locks = false := Bd.notSynchronized
  have hml : c.maxLocals = 2 := hml0
  have hown : s.vm.findClass "java/lang/String" = some m.cls := findClass_of_methodNamed Bd.named
  have hnm := (name_of_methodNamed Bd.named Bd.method).1
  have X0 : Stand p l e ({ frames := 3, cells := 0, slots := 0, locals := 40 } : Room) s m #[(.ref a1), (.int p1)] below meth c s₁ [] 0 0 := Stand.of_body Bd
  have e0 : s₁.heap = h0 := by rw [← hh, Bd.state]; rfl
  have N0 := Fr.nil n0
  show Gl p e below s (Q5 Z a1 p1 b kb zz ys fm cs h0 n0) 0 0 s₁ (entryFrame m #[(.ref a1), (.int p1)] 2)
  rw [ef_5 m a1 p1]
  refine Gl.st (g' := (mkF m 1 #[.val (.ref a1), .val (.int p1)] [(.ref a1)])) (fun t k => XS.aloadN X0.here hx rfl (hb hby d5_0) rfl rfl k) ?_
  obtain ⟨cq6, kq6, qa6, qb6, qc6⟩ := isOf hZ e0 EX
  obtain ⟨_, _, ⟨T6, L6, k6, n6⟩, -, X6, ⟨Lc6, hQ6, l6, y6, z6⟩, st6⟩ := X0.virtualBack hx (y := (⟨"java/lang/String", "isLatin1", "()Z"⟩ : MethodName)) (z := (⟨"java/lang/String", "isLatin1", "()Z"⟩ : MethodName)) hown (mvT hZ (hw _ (List.mem_of_getElem? (i := 19) rfl))) (mvT hZ (hw _ (List.mem_of_getElem? (i := 20) rfl))) (notFace_of_selects (args := #[]) (mvT hZ (hw _ (List.mem_of_getElem? (i := 22) rfl)))) (mvT hZ (hw _ (List.mem_of_getElem? (i := 22) rfl))) (mvT hZ (hw _ (List.mem_of_getElem? (i := 21) rfl))) (by decide) (backOf (W := 0) (rm4 l Z a0 hw a1 cs h0 n0 Z0 FC SC hcs) hZ (hw _ (List.mem_of_getElem? (i := 23) rfl)) (hw _ (List.mem_of_getElem? (i := 1) rfl)) (by decide) (by decide)) qa6 qc6 (g := (mkF m 1 #[.val (.ref a1), .val (.int p1)] [(.ref a1)])) rfl (by rw [hml]; rfl) (Steps.refl _) (argsL := []) (rest := []) (lenOf pd_2 rfl) rfl (by show 2 * 0 + _ ≤ _; exact Nat.le_of_eq rfl) (hb hby d5_1) (fun _ _ => ⟨rfl, e0, (by decide : 0 + 0 ≤ _), (by decide : 0 + 0 ≤ _)⟩)
  dsimp only [Pt.U, Pt.locs, Pt.cells, Pt.slots] at X6 l6 y6 z6 st6 hQ6
  subst l6 y6 z6
  obtain ⟨rfl, Nq6, e6⟩ := hQ6
  have N6 := Fr.app N0 Nq6
  refine Gl.st (g' := (mkF m 4 #[.val (.ref a1), .val (.int p1)] [(.int (1 : Int32))])) (fun t k => st6.trans k) ?_
  refine Gl.st (g' := (mkF m 7 #[.val (.ref a1), .val (.int p1)] [])) (fun t k => XS.ifNo X6.here hx rfl (hb hby d5_4) rfl (XT.i0_eq_f (by decide)) k) ?_
  refine Gl.st (g' := (mkF m 8 #[.val (.ref a1), .val (.int p1)] [(.ref a1)])) (fun t k => XS.aloadN X6.here hx rfl (hb hby d5_7) rfl rfl k) ?_
  obtain ⟨T7, X7, e7, st7⟩ := getF X6 hx hZ hown (host := "") (Or.inl (hw _ (List.mem_of_getElem? (i := 26) rfl))) Via.refl e6 FV (g := (mkF m 8 #[.val (.ref a1), .val (.int p1)] [(.ref a1)])) rfl rfl (hb hby d5_8)
  refine Gl.st (g' := (mkF m 11 #[.val (.ref a1), .val (.int p1)] [(.ref b)])) st7 ?_
  refine Gl.st (g' := (mkF m 12 #[.val (.ref a1), .val (.int p1)] [(.int p1), (.ref b)])) (fun t k => XS.iloadN X7.here hx rfl (hb hby d5_11) rfl k) ?_
  obtain ⟨_, _, ⟨T8, L8, k8, n8⟩, -, X8, ⟨Lc8, hQ8, l8, y8, z8⟩, st8⟩ := Jvm.LawKit.callS X7 hx (y := (⟨"java/lang/StringLatin1", "charAt", "([BI)C"⟩ : MethodName)) hown (mvT hZ (hw _ (List.mem_of_getElem? (i := 27) rfl))) (mvT hZ (hw _ (List.mem_of_getElem? (i := 28) rfl))) (mvT hZ (hw _ (List.mem_of_getElem? (i := 29) rfl))) (mvT hZ (hw _ (List.mem_of_getElem? (i := 30) rfl))) (by decide) (backOf (W := 0) (rm3 l Z a0 hw b p1 kb zz ys fm h0 n0 Z0 V hj SF hfm) hZ (hw _ (List.mem_of_getElem? (i := 30) rfl)) (hw _ (List.mem_of_getElem? (i := 29) rfl)) (by decide) (by decide)) (g := (mkF m 12 #[.val (.ref a1), .val (.int p1)] [(.int p1), (.ref b)])) rfl (by rw [hml]; rfl) (argsL := [(.ref b), (.int p1)]) (rest := []) (lenOf pd_3 rfl) rfl (by show 2 * 0 + _ ≤ _; exact Nat.le_of_eq rfl) (hb hby d5_12) (fun _ _ => ⟨rfl, e7, (by decide : 0 + 0 + 0 ≤ _), (by decide : 0 + 0 + 0 ≤ _)⟩)
  dsimp only [Pt.U, Pt.locs, Pt.cells, Pt.slots] at X8 l8 y8 z8 st8 hQ8
  subst l8 y8 z8
  obtain ⟨rfl, Nq8, e8⟩ := hQ8
  have N8 := Fr.app N6 Nq8
  refine Gl.st (g' := (mkF m 15 #[.val (.ref a1), .val (.int p1)] [(.int (own_c1 (ys.getD p1.toNatClampNeg 0)))])) st8 ?_
  refine Gl.retZ X8 hx hlk .char (by simp) Bd.returns (hb hby d5_15) e8 (by decide) (by decide) ?_
  exact ⟨rfl, N8, rfl⟩
theorem d6_0 : decode prog_64_method_10_code 0 = .ok (.iload_n 0, 1) := by decide +kernel
theorem d6_1 : decode prog_64_method_10_code 1 = .ok (.bipush 65, 2) := by decide +kernel
theorem d6_3 : decode prog_64_method_10_code 3 = .ok (.if_icmp .lt 16, 3) := by decide +kernel
theorem d6_6 : decode prog_64_method_10_code 6 = .ok (.iload_n 0, 1) := by decide +kernel
theorem d6_7 : decode prog_64_method_10_code 7 = .ok (.bipush 90, 2) := by decide +kernel
theorem d6_9 : decode prog_64_method_10_code 9 = .ok (.if_icmp .gt 10, 3) := by decide +kernel
theorem d6_12 : decode prog_64_method_10_code 12 = .ok (.iload_n 0, 1) := by decide +kernel
theorem d6_13 : decode prog_64_method_10_code 13 = .ok (.bipush 32, 2) := by decide +kernel
theorem d6_15 : decode prog_64_method_10_code 15 = .ok (.iadd, 1) := by decide +kernel
theorem d6_16 : decode prog_64_method_10_code 16 = .ok (.goto 4, 3) := by decide +kernel
theorem d6_19 : decode prog_64_method_10_code 19 = .ok (.iload_n 0, 1) := by decide +kernel
theorem d6_20 : decode prog_64_method_10_code 20 = .ok (.ireturn, 1) := by decide +kernel
theorem pn_3 : plainName "com/example/outlier/outlier/http/FieldName" = true := by first | (simp [plainName, overriddenIn]; done) | decide +kernel
theorem ef_6 (m : MethodId) (p1 : Int32) : entryFrame m #[(.int p1)] 1 = mkF m 0 #[.val (.int p1)] [] := by first | (simp [entryFrame, mkF, argsToLocals, Value.category]; done) | rfl
def Q6 (Z : State) (p1 : Int32)  (h0 : Heap) (n0 : Nat) (v : Option Value) (h : Heap) (L : List Loc) : Prop := v = some (.int (own_lc p1)) ∧ Fr n0 L ∧ h = h0
set_option maxRecDepth 65536 in
set_option maxHeartbeats 40000000 in
theorem rm6 (l : Launch) (Z : State) (a0 : Array Value) (hw : ∀ d ∈ tables_1, d.before a0 Z = true) (p1 : Int32)  (h0 : Heap) (n0 : Nat) (Z0 : n0 ≤ h0.size)  :
    MetFree l (⟨"com/example/outlier/outlier/http/FieldName", "toLowerCase", "(I)I"⟩ : MethodName) (head1 [Jvm.Cond.code (⟨"com/example/outlier/outlier/http/FieldName", "toLowerCase", "(I)I"⟩ : MethodName) prog_64_method_10_code 1 (some .int)] ({ frames := 0, cells := 0, slots := 0, locals := 0 } : Room)) (fun a U => a = #[(.int p1)] ∧ Z.Warmed39 U.vm ∧ U.heap = h0) (fun _ _ _ _ _ => True) (fun _ U o U' => ∃ v L, o = .returned v ∧ Q6 Z p1  h0 n0 v U'.heap L ∧ FrameEnd U o U' L ({ frames := 0, cells := 0, slots := 0, locals := 0 } : Room).cells ({ frames := 0, cells := 0, slots := 0, locals := 0 } : Room).slots) := by
  refine MetFree.of_bodySF (plainFor_of_name pn_3) hisR ?_
  intro p e s m args below meth c s₁ Bd hml0 hP hK
  obtain ⟨rfl, hZ, hh⟩ := hP
  have hx := Bd.exec
  have hby := Bd.bytes
  have hlk : meth.locks = false := Bd.notSynchronized
  have hml : c.maxLocals = 1 := hml0
  have hown : s.vm.findClass "com/example/outlier/outlier/http/FieldName" = some m.cls := findClass_of_methodNamed Bd.named
  have hnm := (name_of_methodNamed Bd.named Bd.method).1
  have X0 : Stand p l e ({ frames := 0, cells := 0, slots := 0, locals := 0 } : Room) s m #[(.int p1)] below meth c s₁ [] 0 0 := Stand.of_body Bd
  have e0 : s₁.heap = h0 := by rw [← hh, Bd.state]; rfl
  have N0 := Fr.nil n0
  show Gl p e below s (Q6 Z p1  h0 n0) 0 0 s₁ (entryFrame m #[(.int p1)] 1)
  rw [ef_6 m p1]
  refine Gl.st (g' := (mkF m 1 #[.val (.int p1)] [(.int p1)])) (fun t k => XS.iloadN X0.here hx rfl (hb hby d6_0) rfl k) ?_
  refine Gl.st (g' := (mkF m 3 #[.val (.int p1)] [(.int (65 : Int32)), (.int p1)])) (fun t k => XT.bipushV X0.here hx rfl (65 : Int32) (hb hby d6_1) rfl k) ?_
  by_cases c9 : p1 < (65 : Int32)
  · skip
    refine Gl.st (g' := (mkF m 19 #[.val (.int p1)] [])) (fun t k => XS.icmpYes X0.here hx rfl (pc0 := 3) (pc' := 19) rfl (hb hby d6_3) rfl (XT.ii_lt_t c9) (by decide) (by decide) k) ?_
    refine Gl.st (g' := (mkF m 20 #[.val (.int p1)] [(.int p1)])) (fun t k => XS.iloadN X0.here hx rfl (hb hby d6_19) rfl k) ?_
    refine Gl.retI X0 hx hlk Bd.returns (hb hby d6_20) e0 (by decide) (by decide) ?_
    refine ⟨?_, N0, rfl⟩
    unfold own_lc
    rw [if_pos c9]
  · skip
    refine Gl.st (g' := (mkF m 6 #[.val (.int p1)] [])) (fun t k => XS.icmpNo X0.here hx rfl (hb hby d6_3) rfl (XT.ii_lt_f c9) k) ?_
    refine Gl.st (g' := (mkF m 7 #[.val (.int p1)] [(.int p1)])) (fun t k => XS.iloadN X0.here hx rfl (hb hby d6_6) rfl k) ?_
    refine Gl.st (g' := (mkF m 9 #[.val (.int p1)] [(.int (90 : Int32)), (.int p1)])) (fun t k => XT.bipushV X0.here hx rfl (90 : Int32) (hb hby d6_7) rfl k) ?_
    by_cases c10 : (90 : Int32) < p1
    · skip
      refine Gl.st (g' := (mkF m 19 #[.val (.int p1)] [])) (fun t k => XS.icmpYes X0.here hx rfl (pc0 := 9) (pc' := 19) rfl (hb hby d6_9) rfl (XT.ii_gt_t c10) (by decide) (by decide) k) ?_
      refine Gl.st (g' := (mkF m 20 #[.val (.int p1)] [(.int p1)])) (fun t k => XS.iloadN X0.here hx rfl (hb hby d6_19) rfl k) ?_
      refine Gl.retI X0 hx hlk Bd.returns (hb hby d6_20) e0 (by decide) (by decide) ?_
      refine ⟨?_, N0, rfl⟩
      unfold own_lc
      rw [if_neg c9, if_pos c10]
    · skip
      refine Gl.st (g' := (mkF m 12 #[.val (.int p1)] [])) (fun t k => XS.icmpNo X0.here hx rfl (hb hby d6_9) rfl (XT.ii_gt_f c10) k) ?_
      refine Gl.st (g' := (mkF m 13 #[.val (.int p1)] [(.int p1)])) (fun t k => XS.iloadN X0.here hx rfl (hb hby d6_12) rfl k) ?_
      refine Gl.st (g' := (mkF m 15 #[.val (.int p1)] [(.int (32 : Int32)), (.int p1)])) (fun t k => XT.bipushV X0.here hx rfl (32 : Int32) (hb hby d6_13) rfl k) ?_
      refine Gl.st (g' := (mkF m 16 #[.val (.int p1)] [(.int (p1 + (32 : Int32)))])) (fun t k => XS.iadd X0.here hx rfl (hb hby d6_15) rfl k) ?_
      refine Gl.st (g' := (mkF m 20 #[.val (.int p1)] [(.int (p1 + (32 : Int32)))])) (fun t k => XS.goto X0.here hx rfl (pc0 := 16) (pc' := 20) rfl (hb hby d6_16) (by decide) (by decide) k) ?_
      refine Gl.retI X0 hx hlk Bd.returns (hb hby d6_20) e0 (by decide) (by decide) ?_
      refine ⟨?_, N0, rfl⟩
      unfold own_lc
      rw [if_neg c9, if_neg c10]
theorem pd_4 : parseMethodDescriptor "(I)C" = some ⟨[.int], some .char⟩ := by decide +kernel
theorem pd_5 : parseMethodDescriptor "(I)I" = some ⟨[.int], some .int⟩ := by decide +kernel
theorem pn_4 : plainName "com/example/outlier/outlier/http/FieldNameToLowerCasePinLaw" = true := by first | (simp [plainName, overriddenIn]; done) | decide +kernel
theorem ef_0 (m : MethodId) (p1 p2 : Int32) : entryFrame m #[(.int p1), (.int p2)] maxLocals = mkF m 0 #[.val (.int p1), .val (.int p2), .unset, .unset, .unset, .unset, .unset, .unset] [] := by first | (simp [entryFrame, mkF, argsToLocals, Value.category, maxLocals]; done) | rfl
def Q0 (n0 : Nat) (v : Option Value) (h : Heap) (L : List Loc) : Prop := v = some (.int 1) ∧ Fr n0 L
set_option maxRecDepth 65536 in
set_option maxHeartbeats 40000000 in
theorem rm0 (l : Launch) (Z : State) (a0 : Array Value) (hw : ∀ d ∈ tables_1, d.before a0 Z = true) (ws : List Jvm.Cond) (p1 p2 cs : Int32) (fm : Value) (n0 : Nat) (hn0 : Z.heap.size = n0) (hh7 : Jvm.Lit.constHeld Z "com/example/outlier/outlier/http/FieldNameToLowerCasePinLaw" 7) (hh9 : Jvm.Lit.constHeld Z "com/example/outlier/outlier/http/FieldNameToLowerCasePinLaw" 9) (hcw : Jvm.Lit.compactW.before a0 Z = true)
    (SC : Sta Z Z.heap "java/lang/String" "COMPACT_STRINGS" "Z" (.int cs)) (hcs : ¬ cs = (0 : Int32)) (SF : Sta Z Z.heap "jdk/internal/util/Preconditions" "SIOOBE_FORMATTER" "Ljava/util/function/BiFunction;" fm) (hfm : fm.isRef = true) :
    MetFree l x (head1 (Jvm.Cond.code x code maxLocals ret :: ws) room_1) (fun a U => a = #[(.int p1), (.int p2)] ∧ U = Z) (fun _ _ _ _ _ => True) (fun _ U o U' => ∃ v L, o = .returned v ∧ Q0 n0 v U'.heap L ∧ ReturnedEndW U o U' L 8 2112) := by
  refine MetFree.of_bodySF (plainFor_of_name pn_4) hisR ?_
  intro p e s m args below meth c s₁ Bd hml0 hP hK
  obtain ⟨rfl, hU⟩ := hP
  have hx := Bd.exec
  have hby := Bd.bytes
  have hlk : meth.locks = false := Bd.notSynchronized
  have hml : c.maxLocals = 8 := hml0
  have hown0 : s.vm.findClass "com/example/outlier/outlier/http/FieldNameToLowerCasePinLaw" = some m.cls := findClass_of_methodNamed Bd.named
  have hZ0 : Z.Warmed39 s.vm := by rw [hU]; exact State.Warmed39.refl Z
  have I0 : IB Z s.vm [] := by rw [hU]; exact IB.start
  have hkeep : ∀ (b : Addr) (cl : Cell), Z.heap[b]? = some cl → s.heap[b]? = some cl := by rw [hU]; exact fun _ _ q => q
  have Xs : Stand p l e room_1 s m #[(.int p1), (.int p2)] below meth c s₁ [] 0 0 := Stand.of_body Bd
  have X0 : Stand p l e room_1 (s.setVm s.vm) m #[(.int p1), (.int p2)] below meth c s₁ [] 0 0 := Xs
  have e0 : s₁.heap = Z.heap := by rw [← hU, Bd.state]; rfl
  have hS0 : s.Since s.vm s.heap.size := (State.WarmedH.refl s).since _
  have hk0 : s.heap.size ≤ Z.heap.size := by rw [hU]; exact Nat.le_refl _
  have Zz : n0 ≤ Z.heap.size := Nat.le_of_eq hn0.symm
  have N0 := Fr.nil n0
  have wS : ∀ a ∈ Bundle.stringAtoms, a.before a0 Z = true := fun a ha => hw a (by revert a; decide +kernel)
  show GlW p e below s (Q0 n0) 8 2112 s₁ (entryFrame m #[(.int p1), (.int p2)] maxLocals)
  rw [ef_0 m p1 p2]
  obtain ⟨a11, T11, h11, k11, b11, kb11, X11, e11, E11, hS11, hk11, hZ, hown, EX11, FC11, FV11, V11, la11, lb11, I11, st11⟩ := ldcSV (a0 := a0) X0 hx hZ0 hown0 (hw _ (List.mem_of_getElem? (i := 0) rfl)) wS e0 hS0 hk0 (Fr.nil _) hkeep I0 (by decide) hh7 hcw (vs := own_U.map Value.int) (z := (26 : Int32)) ⟨by decide, by rfl⟩ (by decide) (by rfl) (g := (mkF m 0 #[.val (.int p1), .val (.int p2), .unset, .unset, .unset, .unset, .unset, .unset] [])) rfl (hb hby at_0) (n := 104) (by decide) (by decide) (by decide) (by decide)
  have Z11 : n0 ≤ h11.size := Nat.le_trans Zz E11.1
  have SC11 := SC.ext E11
  have SF11 := SF.ext E11
  refine GlW.st (g' := (mkF m 2 #[.val (.int p1), .val (.int p2), .unset, .unset, .unset, .unset, .unset, .unset] [(.ref a11)])) st11 ?_
  refine GlW.st (g' := (mkF m 3 #[.val (.int p1), .val (.int p2), .val (.ref a11), .unset, .unset, .unset, .unset, .unset] [])) (fun t k => XS.astoreN X11.here hx rfl (hb hby at_2) rfl rfl (l' := #[.val (.int p1), .val (.int p2), .val (.ref a11), .unset, .unset, .unset, .unset, .unset]) rfl k) ?_
  obtain ⟨a12, T12, h12, k12, b12, kb12, X12, e12, E12, hS12, hk12, hZ, hown, EX12, FC12, FV12, V12, la12, lb12, I12, st12⟩ := ldcSV (a0 := a0) X11 hx hZ hown (hw _ (List.mem_of_getElem? (i := 8) rfl)) wS e11 hS11 hk11 (Fr.nil _) hkeep I11 (by decide) hh9 hcw (vs := own_L.map Value.int) (z := (26 : Int32)) ⟨by decide, by rfl⟩ (by decide) (by rfl) (g := (mkF m 3 #[.val (.int p1), .val (.int p2), .val (.ref a11), .unset, .unset, .unset, .unset, .unset] [])) rfl (hb hby at_3) (n := 104) (by decide) (by decide) (by decide) (by decide)
  have Z12 : n0 ≤ h12.size := Nat.le_trans Z11 E12.1
  have SC12 := SC11.ext E12
  have SF12 := SF11.ext E12
  have EXa11_12 := EX11.ext E12
  have FCa11_12 := FC11.ext E12
  have FVa11_12 := FV11.ext E12
  have Va11_12 := V11.ext E12
  refine GlW.st (g' := (mkF m 5 #[.val (.int p1), .val (.int p2), .val (.ref a11), .unset, .unset, .unset, .unset, .unset] [(.ref a12)])) st12 ?_
  refine GlW.st (g' := (mkF m 6 #[.val (.int p1), .val (.int p2), .val (.ref a11), .val (.ref a12), .unset, .unset, .unset, .unset] [])) (fun t k => XS.astoreN X12.here hx rfl (hb hby at_5) rfl rfl (l' := #[.val (.int p1), .val (.int p2), .val (.ref a11), .val (.ref a12), .unset, .unset, .unset, .unset]) rfl k) ?_
  refine GlW.st (g' := (mkF m 7 #[.val (.int p1), .val (.int p2), .val (.ref a11), .val (.ref a12), .unset, .unset, .unset, .unset] [(.int p1)])) (fun t k => XS.iloadN X12.here hx rfl (hb hby at_6) rfl k) ?_
  obtain ⟨_, _, ⟨T13, L13, k13, n13⟩, -, X13, ⟨Lc13, hQ13, l13, y13, z13⟩, st13⟩ := Jvm.LawKit.callS X12 hx (y := (⟨"com/example/outlier/outlier/http/FieldName", "toLowerCase", "(I)I"⟩ : MethodName)) hown (mvT hZ (hw _ (List.mem_of_getElem? (i := 9) rfl))) (mvT hZ (hw _ (List.mem_of_getElem? (i := 10) rfl))) (mvT hZ (hw _ (List.mem_of_getElem? (i := 11) rfl))) (mvT hZ (hw _ (List.mem_of_getElem? (i := 12) rfl))) (by decide) (backOf (W := 0) (rm6 l Z a0 hw p1  h12 n0 Z12 ) hZ (hw _ (List.mem_of_getElem? (i := 12) rfl)) (hw _ (List.mem_of_getElem? (i := 11) rfl)) (by decide) (by decide)) (g := (mkF m 7 #[.val (.int p1), .val (.int p2), .val (.ref a11), .val (.ref a12), .unset, .unset, .unset, .unset] [(.int p1)])) rfl (by rw [hml]; rfl) (argsL := [(.int p1)]) (rest := []) (lenOf pd_5 rfl) rfl (by show 2 * 0 + _ ≤ _; exact Nat.le_of_eq rfl) (hb hby at_7) (fun _ _ => ⟨rfl, e12, (by decide : 0 + 2 + 2 + 0 ≤ _), (by decide : 0 + (104 + 4) + (104 + 4) + 0 ≤ _)⟩)
  dsimp only [Pt.U, Pt.locs, Pt.cells, Pt.slots] at X13 l13 y13 z13 st13 hQ13
  subst l13 y13 z13
  obtain ⟨rfl, Nq13, e13⟩ := hQ13
  have N13 := Fr.app N0 Nq13
  refine GlW.st (g' := (mkF m 10 #[.val (.int p1), .val (.int p2), .val (.ref a11), .val (.ref a12), .unset, .unset, .unset, .unset] [(.int (own_lc p1))])) st13 ?_
  generalize hv14 : (own_lc p1) = v14
  refine GlW.st (g' := (mkF m 12 #[.val (.int p1), .val (.int p2), .val (.ref a11), .val (.ref a12), .val (.int v14), .unset, .unset, .unset] [])) (fun t k => XS.istore X13.here hx rfl (hb hby at_10) rfl (l' := #[.val (.int p1), .val (.int p2), .val (.ref a11), .val (.ref a12), .val (.int v14), .unset, .unset, .unset]) rfl k) ?_
  refine GlW.st (g' := (mkF m 13 #[.val (.int p1), .val (.int p2), .val (.ref a11), .val (.ref a12), .val (.int v14), .unset, .unset, .unset] [(.int p1)])) (fun t k => XS.iloadN X13.here hx rfl (hb hby at_12) rfl k) ?_
  refine GlW.st (g' := (mkF m 15 #[.val (.int p1), .val (.int p2), .val (.ref a11), .val (.ref a12), .val (.int v14), .unset, .unset, .unset] [(.int (65 : Int32)), (.int p1)])) (fun t k => XT.bipushV X13.here hx rfl (65 : Int32) (hb hby at_13) rfl k) ?_
  by_cases c15 : p1 < (65 : Int32)
  · skip
    refine GlW.st (g' := (mkF m 37 #[.val (.int p1), .val (.int p2), .val (.ref a11), .val (.ref a12), .val (.int v14), .unset, .unset, .unset] [])) (fun t k => XS.icmpYes X13.here hx rfl (pc0 := 15) (pc' := 37) rfl (hb hby at_15) rfl (XT.ii_lt_t c15) (by decide) (by decide) k) ?_
    refine GlW.st (g' := (mkF m 38 #[.val (.int p1), .val (.int p2), .val (.ref a11), .val (.ref a12), .val (.int v14), .unset, .unset, .unset] [(.int p1)])) (fun t k => XS.iloadN X13.here hx rfl (hb hby at_37) rfl k) ?_
    refine GlW.st (g' := (mkF m 40 #[.val (.int p1), .val (.int p2), .val (.ref a11), .val (.ref a12), .val (.int v14), .val (.int p1), .unset, .unset] [])) (fun t k => XS.istore X13.here hx rfl (hb hby at_38) rfl (l' := #[.val (.int p1), .val (.int p2), .val (.ref a11), .val (.ref a12), .val (.int v14), .val (.int p1), .unset, .unset]) rfl k) ?_
    refine GlW.st (g' := (mkF m 42 #[.val (.int p1), .val (.int p2), .val (.ref a11), .val (.ref a12), .val (.int v14), .val (.int p1), .unset, .unset] [(.int v14)])) (fun t k => XS.iload X13.here hx rfl (hb hby at_40) rfl k) ?_
    refine GlW.st (g' := (mkF m 44 #[.val (.int p1), .val (.int p2), .val (.ref a11), .val (.ref a12), .val (.int v14), .val (.int p1), .unset, .unset] [(.int p1), (.int v14)])) (fun t k => XS.iload X13.here hx rfl (hb hby at_42) rfl k) ?_
    refine GlW.st (g' := (mkF m 47 #[.val (.int p1), .val (.int p2), .val (.ref a11), .val (.ref a12), .val (.int v14), .val (.int p1), .unset, .unset] [])) (fun t k => XS.icmpNo X13.here hx rfl (hb hby at_44) rfl (XT.ii_ne_f (own_lo hv14 c15)) k) ?_
    refine GlW.st (g' := (mkF m 48 #[.val (.int p1), .val (.int p2), .val (.ref a11), .val (.ref a12), .val (.int v14), .val (.int p1), .unset, .unset] [(.int (1 : Int32))])) (fun t k => XT.iconstV X13.here hx rfl (1 : Int32) (hb hby at_47) rfl k) ?_
    refine GlW.st (g' := (mkF m 52 #[.val (.int p1), .val (.int p2), .val (.ref a11), .val (.ref a12), .val (.int v14), .val (.int p1), .unset, .unset] [(.int (1 : Int32))])) (fun t k => XS.goto X13.here hx rfl (pc0 := 48) (pc' := 52) rfl (hb hby at_48) (by decide) (by decide) k) ?_
    refine GlW.st (g' := (mkF m 54 #[.val (.int p1), .val (.int p2), .val (.ref a11), .val (.ref a12), .val (.int v14), .val (.int p1), .val (.int (1 : Int32)), .unset] [])) (fun t k => XS.istore X13.here hx rfl (hb hby at_52) rfl (l' := #[.val (.int p1), .val (.int p2), .val (.ref a11), .val (.ref a12), .val (.int v14), .val (.int p1), .val (.int (1 : Int32)), .unset]) rfl k) ?_
    refine GlW.st (g' := (mkF m 55 #[.val (.int p1), .val (.int p2), .val (.ref a11), .val (.ref a12), .val (.int v14), .val (.int p1), .val (.int (1 : Int32)), .unset] [(.int p2)])) (fun t k => XS.iloadN X13.here hx rfl (hb hby at_54) rfl k) ?_
    refine GlW.st (g' := (mkF m 57 #[.val (.int p1), .val (.int p2), .val (.ref a11), .val (.ref a12), .val (.int v14), .val (.int p1), .val (.int (1 : Int32)), .unset] [(.int (2147483647 : Int32)), (.int p2)])) (fun t k => X13.ldcI hx hown (mvT hZ (hw _ (List.mem_of_getElem? (i := 13) rfl))) rfl (hb hby at_55) k) ?_
    refine GlW.st (g' := (mkF m 58 #[.val (.int p1), .val (.int p2), .val (.ref a11), .val (.ref a12), .val (.int v14), .val (.int p1), .val (.int (1 : Int32)), .unset] [(.int (p2 &&& (2147483647 : Int32)))])) (fun t k => XS.iand X13.here hx rfl (hb hby at_57) rfl k) ?_
    refine GlW.st (g' := (mkF m 60 #[.val (.int p1), .val (.int p2), .val (.ref a11), .val (.ref a12), .val (.int v14), .val (.int p1), .val (.int (1 : Int32)), .unset] [(.int (26 : Int32)), (.int (p2 &&& (2147483647 : Int32)))])) (fun t k => XT.bipushV X13.here hx rfl (26 : Int32) (hb hby at_58) rfl k) ?_
    refine GlW.st (g' := (mkF m 61 #[.val (.int p1), .val (.int p2), .val (.ref a11), .val (.ref a12), .val (.int v14), .val (.int p1), .val (.int (1 : Int32)), .unset] [(.int ((p2 &&& (2147483647 : Int32)) % (26 : Int32)))])) (fun t k => iremM X13 hx rfl (hb hby at_60) rfl (by decide) k) ?_
    generalize hv16 : ((p2 &&& (2147483647 : Int32)) % (26 : Int32)) = v16
    refine GlW.st (g' := (mkF m 63 #[.val (.int p1), .val (.int p2), .val (.ref a11), .val (.ref a12), .val (.int v14), .val (.int p1), .val (.int (1 : Int32)), .val (.int v16)] [])) (fun t k => XS.istore X13.here hx rfl (hb hby at_61) rfl (l' := #[.val (.int p1), .val (.int p2), .val (.ref a11), .val (.ref a12), .val (.int v14), .val (.int p1), .val (.int (1 : Int32)), .val (.int v16)]) rfl k) ?_
    have hI := own_i hv16
    refine GlW.st (g' := (mkF m 65 #[.val (.int p1), .val (.int p2), .val (.ref a11), .val (.ref a12), .val (.int v14), .val (.int p1), .val (.int (1 : Int32)), .val (.int v16)] [(.int (1 : Int32))])) (fun t k => XS.iload X13.here hx rfl (hb hby at_63) rfl k) ?_
    refine GlW.st (g' := (mkF m 68 #[.val (.int p1), .val (.int p2), .val (.ref a11), .val (.ref a12), .val (.int v14), .val (.int p1), .val (.int (1 : Int32)), .val (.int v16)] [])) (fun t k => XS.ifNo X13.here hx rfl (hb hby at_65) rfl (XT.i0_eq_f (by decide)) k) ?_
    refine GlW.st (g' := (mkF m 69 #[.val (.int p1), .val (.int p2), .val (.ref a11), .val (.ref a12), .val (.int v14), .val (.int p1), .val (.int (1 : Int32)), .val (.int v16)] [(.ref a11)])) (fun t k => XS.aloadN X13.here hx rfl (hb hby at_68) rfl rfl k) ?_
    refine GlW.st (g' := (mkF m 71 #[.val (.int p1), .val (.int p2), .val (.ref a11), .val (.ref a12), .val (.int v14), .val (.int p1), .val (.int (1 : Int32)), .val (.int v16)] [(.int v16), (.ref a11)])) (fun t k => XS.iload X13.here hx rfl (hb hby at_69) rfl k) ?_
    obtain ⟨cq17, kq17, qa17, qb17, qc17⟩ := isOf hZ e13 EXa11_12
    obtain ⟨_, _, ⟨T17, L17, k17, n17⟩, -, X17, ⟨Lc17, hQ17, l17, y17, z17⟩, st17⟩ := X13.virtualBack hx (y := (⟨"java/lang/String", "charAt", "(I)C"⟩ : MethodName)) (z := (⟨"java/lang/String", "charAt", "(I)C"⟩ : MethodName)) hown (mvT hZ (hw _ (List.mem_of_getElem? (i := 14) rfl))) (mvT hZ (hw _ (List.mem_of_getElem? (i := 15) rfl))) (notFace_of_selects (args := #[]) (mvT hZ (hw _ (List.mem_of_getElem? (i := 17) rfl)))) (mvT hZ (hw _ (List.mem_of_getElem? (i := 17) rfl))) (mvT hZ (hw _ (List.mem_of_getElem? (i := 16) rfl))) (by decide) (backOf (W := 0) (rm5 l Z a0 hw a11 v16 b11 kb11 (26 : Int32) own_U fm cs h12 n0 Z12 EXa11_12 FCa11_12 FVa11_12 Va11_12 hI SF12 hfm SC12 hcs) hZ (hw _ (List.mem_of_getElem? (i := 18) rfl)) (hw _ (List.mem_of_getElem? (i := 1) rfl)) (by decide) (by decide)) qa17 qc17 (g := (mkF m 71 #[.val (.int p1), .val (.int p2), .val (.ref a11), .val (.ref a12), .val (.int v14), .val (.int p1), .val (.int (1 : Int32)), .val (.int v16)] [(.int v16), (.ref a11)])) rfl (by rw [hml]; rfl) (Steps.refl _) (argsL := [(.int v16)]) (rest := []) (lenOf pd_4 rfl) rfl (by show 2 * 0 + _ ≤ _; exact Nat.le_of_eq rfl) (hb hby at_71) (fun _ _ => ⟨rfl, e13, (by decide : 0 + 2 + 2 + 0 + 0 ≤ _), (by decide : 0 + (104 + 4) + (104 + 4) + 0 + 0 ≤ _)⟩)
    dsimp only [Pt.U, Pt.locs, Pt.cells, Pt.slots] at X17 l17 y17 z17 st17 hQ17
    subst l17 y17 z17
    obtain ⟨rfl, Nq17, e17⟩ := hQ17
    have N17 := Fr.app N13 Nq17
    refine GlW.st (g' := (mkF m 74 #[.val (.int p1), .val (.int p2), .val (.ref a11), .val (.ref a12), .val (.int v14), .val (.int p1), .val (.int (1 : Int32)), .val (.int v16)] [(.int (own_c (List.getD own_U v16.toNatClampNeg 0)))])) (fun t k => st17.trans k) ?_
    obtain ⟨_, _, ⟨T18, L18, k18, n18⟩, -, X18, ⟨Lc18, hQ18, l18, y18, z18⟩, st18⟩ := Jvm.LawKit.callS X17 hx (y := (⟨"com/example/outlier/outlier/http/FieldName", "toLowerCase", "(I)I"⟩ : MethodName)) hown (mvT hZ (hw _ (List.mem_of_getElem? (i := 9) rfl))) (mvT hZ (hw _ (List.mem_of_getElem? (i := 10) rfl))) (mvT hZ (hw _ (List.mem_of_getElem? (i := 11) rfl))) (mvT hZ (hw _ (List.mem_of_getElem? (i := 12) rfl))) (by decide) (backOf (W := 0) (rm6 l Z a0 hw (own_c (List.getD own_U v16.toNatClampNeg 0))  h12 n0 Z12 ) hZ (hw _ (List.mem_of_getElem? (i := 12) rfl)) (hw _ (List.mem_of_getElem? (i := 11) rfl)) (by decide) (by decide)) (g := (mkF m 74 #[.val (.int p1), .val (.int p2), .val (.ref a11), .val (.ref a12), .val (.int v14), .val (.int p1), .val (.int (1 : Int32)), .val (.int v16)] [(.int (own_c (List.getD own_U v16.toNatClampNeg 0)))])) rfl (by rw [hml]; rfl) (argsL := [(.int (own_c (List.getD own_U v16.toNatClampNeg 0)))]) (rest := []) (lenOf pd_5 rfl) rfl (by show 2 * 0 + _ ≤ _; exact Nat.le_of_eq rfl) (hb hby at_74) (fun _ _ => ⟨rfl, e17, (by decide : 0 + 2 + 2 + 0 + 0 + 0 ≤ _), (by decide : 0 + (104 + 4) + (104 + 4) + 0 + 0 + 0 ≤ _)⟩)
    dsimp only [Pt.U, Pt.locs, Pt.cells, Pt.slots] at X18 l18 y18 z18 st18 hQ18
    subst l18 y18 z18
    obtain ⟨rfl, Nq18, e18⟩ := hQ18
    have N18 := Fr.app N17 Nq18
    refine GlW.st (g' := (mkF m 77 #[.val (.int p1), .val (.int p2), .val (.ref a11), .val (.ref a12), .val (.int v14), .val (.int p1), .val (.int (1 : Int32)), .val (.int v16)] [(.int (own_lc (own_c (List.getD own_U v16.toNatClampNeg 0))))])) st18 ?_
    refine GlW.st (g' := (mkF m 78 #[.val (.int p1), .val (.int p2), .val (.ref a11), .val (.ref a12), .val (.int v14), .val (.int p1), .val (.int (1 : Int32)), .val (.int v16)] [(.ref a12), (.int (own_lc (own_c (List.getD own_U v16.toNatClampNeg 0))))])) (fun t k => XS.aloadN X18.here hx rfl (hb hby at_77) rfl rfl k) ?_
    refine GlW.st (g' := (mkF m 80 #[.val (.int p1), .val (.int p2), .val (.ref a11), .val (.ref a12), .val (.int v14), .val (.int p1), .val (.int (1 : Int32)), .val (.int v16)] [(.int v16), (.ref a12), (.int (own_lc (own_c (List.getD own_U v16.toNatClampNeg 0))))])) (fun t k => XS.iload X18.here hx rfl (hb hby at_78) rfl k) ?_
    obtain ⟨cq19, kq19, qa19, qb19, qc19⟩ := isOf hZ e18 EX12
    obtain ⟨_, _, ⟨T19, L19, k19, n19⟩, -, X19, ⟨Lc19, hQ19, l19, y19, z19⟩, st19⟩ := X18.virtualBack hx (y := (⟨"java/lang/String", "charAt", "(I)C"⟩ : MethodName)) (z := (⟨"java/lang/String", "charAt", "(I)C"⟩ : MethodName)) hown (mvT hZ (hw _ (List.mem_of_getElem? (i := 14) rfl))) (mvT hZ (hw _ (List.mem_of_getElem? (i := 15) rfl))) (notFace_of_selects (args := #[]) (mvT hZ (hw _ (List.mem_of_getElem? (i := 17) rfl)))) (mvT hZ (hw _ (List.mem_of_getElem? (i := 17) rfl))) (mvT hZ (hw _ (List.mem_of_getElem? (i := 16) rfl))) (by decide) (backOf (W := 1) (rm5 l Z a0 hw a12 v16 b12 kb12 (26 : Int32) own_L fm cs h12 n0 Z12 EX12 FC12 FV12 V12 hI SF12 hfm SC12 hcs) hZ (hw _ (List.mem_of_getElem? (i := 18) rfl)) (hw _ (List.mem_of_getElem? (i := 1) rfl)) (by decide) (by decide)) qa19 qc19 (g := (mkF m 80 #[.val (.int p1), .val (.int p2), .val (.ref a11), .val (.ref a12), .val (.int v14), .val (.int p1), .val (.int (1 : Int32)), .val (.int v16)] [(.int v16), (.ref a12), (.int (own_lc (own_c (List.getD own_U v16.toNatClampNeg 0))))])) rfl (by rw [hml]; rfl) (Steps.refl _) (argsL := [(.int v16)]) (rest := [(.int (own_lc (own_c (List.getD own_U v16.toNatClampNeg 0))))]) (lenOf pd_4 rfl) rfl (by show 2 * 0 + _ ≤ _; exact Nat.le_of_eq rfl) (hb hby at_80) (fun _ _ => ⟨rfl, e18, (by decide : 0 + 2 + 2 + 0 + 0 + 0 + 0 ≤ _), (by decide : 0 + (104 + 4) + (104 + 4) + 0 + 0 + 0 + 0 ≤ _)⟩)
    dsimp only [Pt.U, Pt.locs, Pt.cells, Pt.slots] at X19 l19 y19 z19 st19 hQ19
    subst l19 y19 z19
    obtain ⟨rfl, Nq19, e19⟩ := hQ19
    have N19 := Fr.app N18 Nq19
    refine GlW.st (g' := (mkF m 83 #[.val (.int p1), .val (.int p2), .val (.ref a11), .val (.ref a12), .val (.int v14), .val (.int p1), .val (.int (1 : Int32)), .val (.int v16)] [(.int (own_c (List.getD own_L v16.toNatClampNeg 0))), (.int (own_lc (own_c (List.getD own_U v16.toNatClampNeg 0))))])) (fun t k => st19.trans k) ?_
    refine GlW.st (g' := (mkF m 86 #[.val (.int p1), .val (.int p2), .val (.ref a11), .val (.ref a12), .val (.int v14), .val (.int p1), .val (.int (1 : Int32)), .val (.int v16)] [])) (fun t k => XS.icmpNo X19.here hx rfl (hb hby at_83) rfl (XT.ii_ne_f (own_up hI)) k) ?_
    refine GlW.st (g' := (mkF m 87 #[.val (.int p1), .val (.int p2), .val (.ref a11), .val (.ref a12), .val (.int v14), .val (.int p1), .val (.int (1 : Int32)), .val (.int v16)] [(.int (1 : Int32))])) (fun t k => XT.iconstV X19.here hx rfl (1 : Int32) (hb hby at_86) rfl k) ?_
    refine GlW.st (g' := (mkF m 91 #[.val (.int p1), .val (.int p2), .val (.ref a11), .val (.ref a12), .val (.int v14), .val (.int p1), .val (.int (1 : Int32)), .val (.int v16)] [(.int (1 : Int32))])) (fun t k => XS.goto X19.here hx rfl (pc0 := 87) (pc' := 91) rfl (hb hby at_87) (by decide) (by decide) k) ?_
    refine GlW.st (g' := (mkF m 93 #[.val (.int p1), .val (.int p2), .val (.ref a11), .val (.ref a12), .val (.int v14), .val (.int p1), .val (.int (1 : Int32)), .val (.int v16)] [])) (fun t k => XS.istore X19.here hx rfl (hb hby at_91) rfl (l' := #[.val (.int p1), .val (.int p2), .val (.ref a11), .val (.ref a12), .val (.int v14), .val (.int p1), .val (.int (1 : Int32)), .val (.int v16)]) rfl k) ?_
    refine GlW.st (g' := (mkF m 95 #[.val (.int p1), .val (.int p2), .val (.ref a11), .val (.ref a12), .val (.int v14), .val (.int p1), .val (.int (1 : Int32)), .val (.int v16)] [(.int (1 : Int32))])) (fun t k => XS.iload X19.here hx rfl (hb hby at_93) rfl k) ?_
    refine GlW.st (g' := (mkF m 98 #[.val (.int p1), .val (.int p2), .val (.ref a11), .val (.ref a12), .val (.int v14), .val (.int p1), .val (.int (1 : Int32)), .val (.int v16)] [])) (fun t k => XS.ifNo X19.here hx rfl (hb hby at_95) rfl (XT.i0_eq_f (by decide)) k) ?_
    refine GlW.st (g' := (mkF m 99 #[.val (.int p1), .val (.int p2), .val (.ref a11), .val (.ref a12), .val (.int v14), .val (.int p1), .val (.int (1 : Int32)), .val (.int v16)] [(.ref a12)])) (fun t k => XS.aloadN X19.here hx rfl (hb hby at_98) rfl rfl k) ?_
    refine GlW.st (g' := (mkF m 101 #[.val (.int p1), .val (.int p2), .val (.ref a11), .val (.ref a12), .val (.int v14), .val (.int p1), .val (.int (1 : Int32)), .val (.int v16)] [(.int v16), (.ref a12)])) (fun t k => XS.iload X19.here hx rfl (hb hby at_99) rfl k) ?_
    obtain ⟨cq20, kq20, qa20, qb20, qc20⟩ := isOf hZ e19 EX12
    obtain ⟨_, _, ⟨T20, L20, k20, n20⟩, -, X20, ⟨Lc20, hQ20, l20, y20, z20⟩, st20⟩ := X19.virtualBack hx (y := (⟨"java/lang/String", "charAt", "(I)C"⟩ : MethodName)) (z := (⟨"java/lang/String", "charAt", "(I)C"⟩ : MethodName)) hown (mvT hZ (hw _ (List.mem_of_getElem? (i := 14) rfl))) (mvT hZ (hw _ (List.mem_of_getElem? (i := 15) rfl))) (notFace_of_selects (args := #[]) (mvT hZ (hw _ (List.mem_of_getElem? (i := 17) rfl)))) (mvT hZ (hw _ (List.mem_of_getElem? (i := 17) rfl))) (mvT hZ (hw _ (List.mem_of_getElem? (i := 16) rfl))) (by decide) (backOf (W := 0) (rm5 l Z a0 hw a12 v16 b12 kb12 (26 : Int32) own_L fm cs h12 n0 Z12 EX12 FC12 FV12 V12 hI SF12 hfm SC12 hcs) hZ (hw _ (List.mem_of_getElem? (i := 18) rfl)) (hw _ (List.mem_of_getElem? (i := 1) rfl)) (by decide) (by decide)) qa20 qc20 (g := (mkF m 101 #[.val (.int p1), .val (.int p2), .val (.ref a11), .val (.ref a12), .val (.int v14), .val (.int p1), .val (.int (1 : Int32)), .val (.int v16)] [(.int v16), (.ref a12)])) rfl (by rw [hml]; rfl) (Steps.refl _) (argsL := [(.int v16)]) (rest := []) (lenOf pd_4 rfl) rfl (by show 2 * 0 + _ ≤ _; exact Nat.le_of_eq rfl) (hb hby at_101) (fun _ _ => ⟨rfl, e19, (by decide : 0 + 2 + 2 + 0 + 0 + 0 + 0 + 0 ≤ _), (by decide : 0 + (104 + 4) + (104 + 4) + 0 + 0 + 0 + 0 + 0 ≤ _)⟩)
    dsimp only [Pt.U, Pt.locs, Pt.cells, Pt.slots] at X20 l20 y20 z20 st20 hQ20
    subst l20 y20 z20
    obtain ⟨rfl, Nq20, e20⟩ := hQ20
    have N20 := Fr.app N19 Nq20
    refine GlW.st (g' := (mkF m 104 #[.val (.int p1), .val (.int p2), .val (.ref a11), .val (.ref a12), .val (.int v14), .val (.int p1), .val (.int (1 : Int32)), .val (.int v16)] [(.int (own_c (List.getD own_L v16.toNatClampNeg 0)))])) (fun t k => st20.trans k) ?_
    obtain ⟨_, _, ⟨T21, L21, k21, n21⟩, -, X21, ⟨Lc21, hQ21, l21, y21, z21⟩, st21⟩ := Jvm.LawKit.callS X20 hx (y := (⟨"com/example/outlier/outlier/http/FieldName", "toLowerCase", "(I)I"⟩ : MethodName)) hown (mvT hZ (hw _ (List.mem_of_getElem? (i := 9) rfl))) (mvT hZ (hw _ (List.mem_of_getElem? (i := 10) rfl))) (mvT hZ (hw _ (List.mem_of_getElem? (i := 11) rfl))) (mvT hZ (hw _ (List.mem_of_getElem? (i := 12) rfl))) (by decide) (backOf (W := 0) (rm6 l Z a0 hw (own_c (List.getD own_L v16.toNatClampNeg 0))  h12 n0 Z12 ) hZ (hw _ (List.mem_of_getElem? (i := 12) rfl)) (hw _ (List.mem_of_getElem? (i := 11) rfl)) (by decide) (by decide)) (g := (mkF m 104 #[.val (.int p1), .val (.int p2), .val (.ref a11), .val (.ref a12), .val (.int v14), .val (.int p1), .val (.int (1 : Int32)), .val (.int v16)] [(.int (own_c (List.getD own_L v16.toNatClampNeg 0)))])) rfl (by rw [hml]; rfl) (argsL := [(.int (own_c (List.getD own_L v16.toNatClampNeg 0)))]) (rest := []) (lenOf pd_5 rfl) rfl (by show 2 * 0 + _ ≤ _; exact Nat.le_of_eq rfl) (hb hby at_104) (fun _ _ => ⟨rfl, e20, (by decide : 0 + 2 + 2 + 0 + 0 + 0 + 0 + 0 + 0 ≤ _), (by decide : 0 + (104 + 4) + (104 + 4) + 0 + 0 + 0 + 0 + 0 + 0 ≤ _)⟩)
    dsimp only [Pt.U, Pt.locs, Pt.cells, Pt.slots] at X21 l21 y21 z21 st21 hQ21
    subst l21 y21 z21
    obtain ⟨rfl, Nq21, e21⟩ := hQ21
    have N21 := Fr.app N20 Nq21
    refine GlW.st (g' := (mkF m 107 #[.val (.int p1), .val (.int p2), .val (.ref a11), .val (.ref a12), .val (.int v14), .val (.int p1), .val (.int (1 : Int32)), .val (.int v16)] [(.int (own_lc (own_c (List.getD own_L v16.toNatClampNeg 0))))])) st21 ?_
    refine GlW.st (g' := (mkF m 108 #[.val (.int p1), .val (.int p2), .val (.ref a11), .val (.ref a12), .val (.int v14), .val (.int p1), .val (.int (1 : Int32)), .val (.int v16)] [(.ref a12), (.int (own_lc (own_c (List.getD own_L v16.toNatClampNeg 0))))])) (fun t k => XS.aloadN X21.here hx rfl (hb hby at_107) rfl rfl k) ?_
    refine GlW.st (g' := (mkF m 110 #[.val (.int p1), .val (.int p2), .val (.ref a11), .val (.ref a12), .val (.int v14), .val (.int p1), .val (.int (1 : Int32)), .val (.int v16)] [(.int v16), (.ref a12), (.int (own_lc (own_c (List.getD own_L v16.toNatClampNeg 0))))])) (fun t k => XS.iload X21.here hx rfl (hb hby at_108) rfl k) ?_
    obtain ⟨cq22, kq22, qa22, qb22, qc22⟩ := isOf hZ e21 EX12
    obtain ⟨_, _, ⟨T22, L22, k22, n22⟩, -, X22, ⟨Lc22, hQ22, l22, y22, z22⟩, st22⟩ := X21.virtualBack hx (y := (⟨"java/lang/String", "charAt", "(I)C"⟩ : MethodName)) (z := (⟨"java/lang/String", "charAt", "(I)C"⟩ : MethodName)) hown (mvT hZ (hw _ (List.mem_of_getElem? (i := 14) rfl))) (mvT hZ (hw _ (List.mem_of_getElem? (i := 15) rfl))) (notFace_of_selects (args := #[]) (mvT hZ (hw _ (List.mem_of_getElem? (i := 17) rfl)))) (mvT hZ (hw _ (List.mem_of_getElem? (i := 17) rfl))) (mvT hZ (hw _ (List.mem_of_getElem? (i := 16) rfl))) (by decide) (backOf (W := 1) (rm5 l Z a0 hw a12 v16 b12 kb12 (26 : Int32) own_L fm cs h12 n0 Z12 EX12 FC12 FV12 V12 hI SF12 hfm SC12 hcs) hZ (hw _ (List.mem_of_getElem? (i := 18) rfl)) (hw _ (List.mem_of_getElem? (i := 1) rfl)) (by decide) (by decide)) qa22 qc22 (g := (mkF m 110 #[.val (.int p1), .val (.int p2), .val (.ref a11), .val (.ref a12), .val (.int v14), .val (.int p1), .val (.int (1 : Int32)), .val (.int v16)] [(.int v16), (.ref a12), (.int (own_lc (own_c (List.getD own_L v16.toNatClampNeg 0))))])) rfl (by rw [hml]; rfl) (Steps.refl _) (argsL := [(.int v16)]) (rest := [(.int (own_lc (own_c (List.getD own_L v16.toNatClampNeg 0))))]) (lenOf pd_4 rfl) rfl (by show 2 * 0 + _ ≤ _; exact Nat.le_of_eq rfl) (hb hby at_110) (fun _ _ => ⟨rfl, e21, (by decide : 0 + 2 + 2 + 0 + 0 + 0 + 0 + 0 + 0 + 0 ≤ _), (by decide : 0 + (104 + 4) + (104 + 4) + 0 + 0 + 0 + 0 + 0 + 0 + 0 ≤ _)⟩)
    dsimp only [Pt.U, Pt.locs, Pt.cells, Pt.slots] at X22 l22 y22 z22 st22 hQ22
    subst l22 y22 z22
    obtain ⟨rfl, Nq22, e22⟩ := hQ22
    have N22 := Fr.app N21 Nq22
    refine GlW.st (g' := (mkF m 113 #[.val (.int p1), .val (.int p2), .val (.ref a11), .val (.ref a12), .val (.int v14), .val (.int p1), .val (.int (1 : Int32)), .val (.int v16)] [(.int (own_c (List.getD own_L v16.toNatClampNeg 0))), (.int (own_lc (own_c (List.getD own_L v16.toNatClampNeg 0))))])) (fun t k => st22.trans k) ?_
    refine GlW.st (g' := (mkF m 116 #[.val (.int p1), .val (.int p2), .val (.ref a11), .val (.ref a12), .val (.int v14), .val (.int p1), .val (.int (1 : Int32)), .val (.int v16)] [])) (fun t k => XS.icmpNo X22.here hx rfl (hb hby at_113) rfl (XT.ii_ne_f (own_dn hI)) k) ?_
    refine GlW.st (g' := (mkF m 117 #[.val (.int p1), .val (.int p2), .val (.ref a11), .val (.ref a12), .val (.int v14), .val (.int p1), .val (.int (1 : Int32)), .val (.int v16)] [(.int (1 : Int32))])) (fun t k => XT.iconstV X22.here hx rfl (1 : Int32) (hb hby at_116) rfl k) ?_
    refine GlW.st (g' := (mkF m 121 #[.val (.int p1), .val (.int p2), .val (.ref a11), .val (.ref a12), .val (.int v14), .val (.int p1), .val (.int (1 : Int32)), .val (.int v16)] [(.int (1 : Int32))])) (fun t k => XS.goto X22.here hx rfl (pc0 := 117) (pc' := 121) rfl (hb hby at_117) (by decide) (by decide) k) ?_
    refine GlW.st (g' := (mkF m 123 #[.val (.int p1), .val (.int p2), .val (.ref a11), .val (.ref a12), .val (.int v14), .val (.int p1), .val (.int (1 : Int32)), .val (.int v16)] [])) (fun t k => XS.istore X22.here hx rfl (hb hby at_121) rfl (l' := #[.val (.int p1), .val (.int p2), .val (.ref a11), .val (.ref a12), .val (.int v14), .val (.int p1), .val (.int (1 : Int32)), .val (.int v16)]) rfl k) ?_
    refine GlW.st (g' := (mkF m 125 #[.val (.int p1), .val (.int p2), .val (.ref a11), .val (.ref a12), .val (.int v14), .val (.int p1), .val (.int (1 : Int32)), .val (.int v16)] [(.int (1 : Int32))])) (fun t k => XS.iload X22.here hx rfl (hb hby at_123) rfl k) ?_
    refine GlW.st (g' := (mkF m 128 #[.val (.int p1), .val (.int p2), .val (.ref a11), .val (.ref a12), .val (.int v14), .val (.int p1), .val (.int (1 : Int32)), .val (.int v16)] [])) (fun t k => XS.ifNo X22.here hx rfl (hb hby at_125) rfl (XT.i0_eq_f (by decide)) k) ?_
    refine GlW.st (g' := (mkF m 130 #[.val (.int p1), .val (.int p2), .val (.ref a11), .val (.ref a12), .val (.int v14), .val (.int p1), .val (.int (1 : Int32)), .val (.int v16)] [(.int v14)])) (fun t k => XS.iload X22.here hx rfl (hb hby at_128) rfl k) ?_
    obtain ⟨_, _, ⟨T23, L23, k23, n23⟩, -, X23, ⟨Lc23, hQ23, l23, y23, z23⟩, st23⟩ := Jvm.LawKit.callS X22 hx (y := (⟨"com/example/outlier/outlier/http/FieldName", "toLowerCase", "(I)I"⟩ : MethodName)) hown (mvT hZ (hw _ (List.mem_of_getElem? (i := 9) rfl))) (mvT hZ (hw _ (List.mem_of_getElem? (i := 10) rfl))) (mvT hZ (hw _ (List.mem_of_getElem? (i := 11) rfl))) (mvT hZ (hw _ (List.mem_of_getElem? (i := 12) rfl))) (by decide) (backOf (W := 0) (rm6 l Z a0 hw v14  h12 n0 Z12 ) hZ (hw _ (List.mem_of_getElem? (i := 12) rfl)) (hw _ (List.mem_of_getElem? (i := 11) rfl)) (by decide) (by decide)) (g := (mkF m 130 #[.val (.int p1), .val (.int p2), .val (.ref a11), .val (.ref a12), .val (.int v14), .val (.int p1), .val (.int (1 : Int32)), .val (.int v16)] [(.int v14)])) rfl (by rw [hml]; rfl) (argsL := [(.int v14)]) (rest := []) (lenOf pd_5 rfl) rfl (by show 2 * 0 + _ ≤ _; exact Nat.le_of_eq rfl) (hb hby at_130) (fun _ _ => ⟨rfl, e22, (by decide : 0 + 2 + 2 + 0 + 0 + 0 + 0 + 0 + 0 + 0 + 0 ≤ _), (by decide : 0 + (104 + 4) + (104 + 4) + 0 + 0 + 0 + 0 + 0 + 0 + 0 + 0 ≤ _)⟩)
    dsimp only [Pt.U, Pt.locs, Pt.cells, Pt.slots] at X23 l23 y23 z23 st23 hQ23
    subst l23 y23 z23
    obtain ⟨rfl, Nq23, e23⟩ := hQ23
    have N23 := Fr.app N22 Nq23
    refine GlW.st (g' := (mkF m 133 #[.val (.int p1), .val (.int p2), .val (.ref a11), .val (.ref a12), .val (.int v14), .val (.int p1), .val (.int (1 : Int32)), .val (.int v16)] [(.int (own_lc v14))])) st23 ?_
    refine GlW.st (g' := (mkF m 135 #[.val (.int p1), .val (.int p2), .val (.ref a11), .val (.ref a12), .val (.int v14), .val (.int p1), .val (.int (1 : Int32)), .val (.int v16)] [(.int v14), (.int (own_lc v14))])) (fun t k => XS.iload X23.here hx rfl (hb hby at_133) rfl k) ?_
    refine GlW.st (g' := (mkF m 138 #[.val (.int p1), .val (.int p2), .val (.ref a11), .val (.ref a12), .val (.int v14), .val (.int p1), .val (.int (1 : Int32)), .val (.int v16)] [])) (fun t k => XS.icmpNo X23.here hx rfl (hb hby at_135) rfl (XT.ii_ne_f (own_id hv14)) k) ?_
    refine GlW.st (g' := (mkF m 139 #[.val (.int p1), .val (.int p2), .val (.ref a11), .val (.ref a12), .val (.int v14), .val (.int p1), .val (.int (1 : Int32)), .val (.int v16)] [(.int (1 : Int32))])) (fun t k => XT.iconstV X23.here hx rfl (1 : Int32) (hb hby at_138) rfl k) ?_
    refine GlW.st (g' := (mkF m 143 #[.val (.int p1), .val (.int p2), .val (.ref a11), .val (.ref a12), .val (.int v14), .val (.int p1), .val (.int (1 : Int32)), .val (.int v16)] [(.int (1 : Int32))])) (fun t k => XS.goto X23.here hx rfl (pc0 := 139) (pc' := 143) rfl (hb hby at_139) (by decide) (by decide) k) ?_
    refine GlW.st (g' := (mkF m 145 #[.val (.int p1), .val (.int p2), .val (.ref a11), .val (.ref a12), .val (.int v14), .val (.int p1), .val (.int (1 : Int32)), .val (.int v16)] [])) (fun t k => XS.istore X23.here hx rfl (hb hby at_143) rfl (l' := #[.val (.int p1), .val (.int p2), .val (.ref a11), .val (.ref a12), .val (.int v14), .val (.int p1), .val (.int (1 : Int32)), .val (.int v16)]) rfl k) ?_
    refine GlW.st (g' := (mkF m 147 #[.val (.int p1), .val (.int p2), .val (.ref a11), .val (.ref a12), .val (.int v14), .val (.int p1), .val (.int (1 : Int32)), .val (.int v16)] [(.int (1 : Int32))])) (fun t k => XS.iload X23.here hx rfl (hb hby at_145) rfl k) ?_
    refine GlW.retZ hS12 hk12 X23 hx hlk .boolean (by simp) Bd.returns (hb hby at_147) e23 (by decide) (by decide) ?_
    rw [Q0, own_z1]
    exact ⟨rfl, N23⟩
  · skip
    refine GlW.st (g' := (mkF m 18 #[.val (.int p1), .val (.int p2), .val (.ref a11), .val (.ref a12), .val (.int v14), .unset, .unset, .unset] [])) (fun t k => XS.icmpNo X13.here hx rfl (hb hby at_15) rfl (XT.ii_lt_f c15) k) ?_
    refine GlW.st (g' := (mkF m 19 #[.val (.int p1), .val (.int p2), .val (.ref a11), .val (.ref a12), .val (.int v14), .unset, .unset, .unset] [(.int p1)])) (fun t k => XS.iloadN X13.here hx rfl (hb hby at_18) rfl k) ?_
    refine GlW.st (g' := (mkF m 21 #[.val (.int p1), .val (.int p2), .val (.ref a11), .val (.ref a12), .val (.int v14), .unset, .unset, .unset] [(.int (90 : Int32)), (.int p1)])) (fun t k => XT.bipushV X13.here hx rfl (90 : Int32) (hb hby at_19) rfl k) ?_
    by_cases c24 : (90 : Int32) < p1
    · skip
      refine GlW.st (g' := (mkF m 37 #[.val (.int p1), .val (.int p2), .val (.ref a11), .val (.ref a12), .val (.int v14), .unset, .unset, .unset] [])) (fun t k => XS.icmpYes X13.here hx rfl (pc0 := 21) (pc' := 37) rfl (hb hby at_21) rfl (XT.ii_gt_t c24) (by decide) (by decide) k) ?_
      refine GlW.st (g' := (mkF m 38 #[.val (.int p1), .val (.int p2), .val (.ref a11), .val (.ref a12), .val (.int v14), .unset, .unset, .unset] [(.int p1)])) (fun t k => XS.iloadN X13.here hx rfl (hb hby at_37) rfl k) ?_
      refine GlW.st (g' := (mkF m 40 #[.val (.int p1), .val (.int p2), .val (.ref a11), .val (.ref a12), .val (.int v14), .val (.int p1), .unset, .unset] [])) (fun t k => XS.istore X13.here hx rfl (hb hby at_38) rfl (l' := #[.val (.int p1), .val (.int p2), .val (.ref a11), .val (.ref a12), .val (.int v14), .val (.int p1), .unset, .unset]) rfl k) ?_
      refine GlW.st (g' := (mkF m 42 #[.val (.int p1), .val (.int p2), .val (.ref a11), .val (.ref a12), .val (.int v14), .val (.int p1), .unset, .unset] [(.int v14)])) (fun t k => XS.iload X13.here hx rfl (hb hby at_40) rfl k) ?_
      refine GlW.st (g' := (mkF m 44 #[.val (.int p1), .val (.int p2), .val (.ref a11), .val (.ref a12), .val (.int v14), .val (.int p1), .unset, .unset] [(.int p1), (.int v14)])) (fun t k => XS.iload X13.here hx rfl (hb hby at_42) rfl k) ?_
      refine GlW.st (g' := (mkF m 47 #[.val (.int p1), .val (.int p2), .val (.ref a11), .val (.ref a12), .val (.int v14), .val (.int p1), .unset, .unset] [])) (fun t k => XS.icmpNo X13.here hx rfl (hb hby at_44) rfl (XT.ii_ne_f (own_hi hv14 c15 c24)) k) ?_
      refine GlW.st (g' := (mkF m 48 #[.val (.int p1), .val (.int p2), .val (.ref a11), .val (.ref a12), .val (.int v14), .val (.int p1), .unset, .unset] [(.int (1 : Int32))])) (fun t k => XT.iconstV X13.here hx rfl (1 : Int32) (hb hby at_47) rfl k) ?_
      refine GlW.st (g' := (mkF m 52 #[.val (.int p1), .val (.int p2), .val (.ref a11), .val (.ref a12), .val (.int v14), .val (.int p1), .unset, .unset] [(.int (1 : Int32))])) (fun t k => XS.goto X13.here hx rfl (pc0 := 48) (pc' := 52) rfl (hb hby at_48) (by decide) (by decide) k) ?_
      refine GlW.st (g' := (mkF m 54 #[.val (.int p1), .val (.int p2), .val (.ref a11), .val (.ref a12), .val (.int v14), .val (.int p1), .val (.int (1 : Int32)), .unset] [])) (fun t k => XS.istore X13.here hx rfl (hb hby at_52) rfl (l' := #[.val (.int p1), .val (.int p2), .val (.ref a11), .val (.ref a12), .val (.int v14), .val (.int p1), .val (.int (1 : Int32)), .unset]) rfl k) ?_
      refine GlW.st (g' := (mkF m 55 #[.val (.int p1), .val (.int p2), .val (.ref a11), .val (.ref a12), .val (.int v14), .val (.int p1), .val (.int (1 : Int32)), .unset] [(.int p2)])) (fun t k => XS.iloadN X13.here hx rfl (hb hby at_54) rfl k) ?_
      refine GlW.st (g' := (mkF m 57 #[.val (.int p1), .val (.int p2), .val (.ref a11), .val (.ref a12), .val (.int v14), .val (.int p1), .val (.int (1 : Int32)), .unset] [(.int (2147483647 : Int32)), (.int p2)])) (fun t k => X13.ldcI hx hown (mvT hZ (hw _ (List.mem_of_getElem? (i := 13) rfl))) rfl (hb hby at_55) k) ?_
      refine GlW.st (g' := (mkF m 58 #[.val (.int p1), .val (.int p2), .val (.ref a11), .val (.ref a12), .val (.int v14), .val (.int p1), .val (.int (1 : Int32)), .unset] [(.int (p2 &&& (2147483647 : Int32)))])) (fun t k => XS.iand X13.here hx rfl (hb hby at_57) rfl k) ?_
      refine GlW.st (g' := (mkF m 60 #[.val (.int p1), .val (.int p2), .val (.ref a11), .val (.ref a12), .val (.int v14), .val (.int p1), .val (.int (1 : Int32)), .unset] [(.int (26 : Int32)), (.int (p2 &&& (2147483647 : Int32)))])) (fun t k => XT.bipushV X13.here hx rfl (26 : Int32) (hb hby at_58) rfl k) ?_
      refine GlW.st (g' := (mkF m 61 #[.val (.int p1), .val (.int p2), .val (.ref a11), .val (.ref a12), .val (.int v14), .val (.int p1), .val (.int (1 : Int32)), .unset] [(.int ((p2 &&& (2147483647 : Int32)) % (26 : Int32)))])) (fun t k => iremM X13 hx rfl (hb hby at_60) rfl (by decide) k) ?_
      generalize hv25 : ((p2 &&& (2147483647 : Int32)) % (26 : Int32)) = v25
      refine GlW.st (g' := (mkF m 63 #[.val (.int p1), .val (.int p2), .val (.ref a11), .val (.ref a12), .val (.int v14), .val (.int p1), .val (.int (1 : Int32)), .val (.int v25)] [])) (fun t k => XS.istore X13.here hx rfl (hb hby at_61) rfl (l' := #[.val (.int p1), .val (.int p2), .val (.ref a11), .val (.ref a12), .val (.int v14), .val (.int p1), .val (.int (1 : Int32)), .val (.int v25)]) rfl k) ?_
      have hI := own_i hv25
      refine GlW.st (g' := (mkF m 65 #[.val (.int p1), .val (.int p2), .val (.ref a11), .val (.ref a12), .val (.int v14), .val (.int p1), .val (.int (1 : Int32)), .val (.int v25)] [(.int (1 : Int32))])) (fun t k => XS.iload X13.here hx rfl (hb hby at_63) rfl k) ?_
      refine GlW.st (g' := (mkF m 68 #[.val (.int p1), .val (.int p2), .val (.ref a11), .val (.ref a12), .val (.int v14), .val (.int p1), .val (.int (1 : Int32)), .val (.int v25)] [])) (fun t k => XS.ifNo X13.here hx rfl (hb hby at_65) rfl (XT.i0_eq_f (by decide)) k) ?_
      refine GlW.st (g' := (mkF m 69 #[.val (.int p1), .val (.int p2), .val (.ref a11), .val (.ref a12), .val (.int v14), .val (.int p1), .val (.int (1 : Int32)), .val (.int v25)] [(.ref a11)])) (fun t k => XS.aloadN X13.here hx rfl (hb hby at_68) rfl rfl k) ?_
      refine GlW.st (g' := (mkF m 71 #[.val (.int p1), .val (.int p2), .val (.ref a11), .val (.ref a12), .val (.int v14), .val (.int p1), .val (.int (1 : Int32)), .val (.int v25)] [(.int v25), (.ref a11)])) (fun t k => XS.iload X13.here hx rfl (hb hby at_69) rfl k) ?_
      obtain ⟨cq26, kq26, qa26, qb26, qc26⟩ := isOf hZ e13 EXa11_12
      obtain ⟨_, _, ⟨T26, L26, k26, n26⟩, -, X26, ⟨Lc26, hQ26, l26, y26, z26⟩, st26⟩ := X13.virtualBack hx (y := (⟨"java/lang/String", "charAt", "(I)C"⟩ : MethodName)) (z := (⟨"java/lang/String", "charAt", "(I)C"⟩ : MethodName)) hown (mvT hZ (hw _ (List.mem_of_getElem? (i := 14) rfl))) (mvT hZ (hw _ (List.mem_of_getElem? (i := 15) rfl))) (notFace_of_selects (args := #[]) (mvT hZ (hw _ (List.mem_of_getElem? (i := 17) rfl)))) (mvT hZ (hw _ (List.mem_of_getElem? (i := 17) rfl))) (mvT hZ (hw _ (List.mem_of_getElem? (i := 16) rfl))) (by decide) (backOf (W := 0) (rm5 l Z a0 hw a11 v25 b11 kb11 (26 : Int32) own_U fm cs h12 n0 Z12 EXa11_12 FCa11_12 FVa11_12 Va11_12 hI SF12 hfm SC12 hcs) hZ (hw _ (List.mem_of_getElem? (i := 18) rfl)) (hw _ (List.mem_of_getElem? (i := 1) rfl)) (by decide) (by decide)) qa26 qc26 (g := (mkF m 71 #[.val (.int p1), .val (.int p2), .val (.ref a11), .val (.ref a12), .val (.int v14), .val (.int p1), .val (.int (1 : Int32)), .val (.int v25)] [(.int v25), (.ref a11)])) rfl (by rw [hml]; rfl) (Steps.refl _) (argsL := [(.int v25)]) (rest := []) (lenOf pd_4 rfl) rfl (by show 2 * 0 + _ ≤ _; exact Nat.le_of_eq rfl) (hb hby at_71) (fun _ _ => ⟨rfl, e13, (by decide : 0 + 2 + 2 + 0 + 0 ≤ _), (by decide : 0 + (104 + 4) + (104 + 4) + 0 + 0 ≤ _)⟩)
      dsimp only [Pt.U, Pt.locs, Pt.cells, Pt.slots] at X26 l26 y26 z26 st26 hQ26
      subst l26 y26 z26
      obtain ⟨rfl, Nq26, e26⟩ := hQ26
      have N26 := Fr.app N13 Nq26
      refine GlW.st (g' := (mkF m 74 #[.val (.int p1), .val (.int p2), .val (.ref a11), .val (.ref a12), .val (.int v14), .val (.int p1), .val (.int (1 : Int32)), .val (.int v25)] [(.int (own_c (List.getD own_U v25.toNatClampNeg 0)))])) (fun t k => st26.trans k) ?_
      obtain ⟨_, _, ⟨T27, L27, k27, n27⟩, -, X27, ⟨Lc27, hQ27, l27, y27, z27⟩, st27⟩ := Jvm.LawKit.callS X26 hx (y := (⟨"com/example/outlier/outlier/http/FieldName", "toLowerCase", "(I)I"⟩ : MethodName)) hown (mvT hZ (hw _ (List.mem_of_getElem? (i := 9) rfl))) (mvT hZ (hw _ (List.mem_of_getElem? (i := 10) rfl))) (mvT hZ (hw _ (List.mem_of_getElem? (i := 11) rfl))) (mvT hZ (hw _ (List.mem_of_getElem? (i := 12) rfl))) (by decide) (backOf (W := 0) (rm6 l Z a0 hw (own_c (List.getD own_U v25.toNatClampNeg 0))  h12 n0 Z12 ) hZ (hw _ (List.mem_of_getElem? (i := 12) rfl)) (hw _ (List.mem_of_getElem? (i := 11) rfl)) (by decide) (by decide)) (g := (mkF m 74 #[.val (.int p1), .val (.int p2), .val (.ref a11), .val (.ref a12), .val (.int v14), .val (.int p1), .val (.int (1 : Int32)), .val (.int v25)] [(.int (own_c (List.getD own_U v25.toNatClampNeg 0)))])) rfl (by rw [hml]; rfl) (argsL := [(.int (own_c (List.getD own_U v25.toNatClampNeg 0)))]) (rest := []) (lenOf pd_5 rfl) rfl (by show 2 * 0 + _ ≤ _; exact Nat.le_of_eq rfl) (hb hby at_74) (fun _ _ => ⟨rfl, e26, (by decide : 0 + 2 + 2 + 0 + 0 + 0 ≤ _), (by decide : 0 + (104 + 4) + (104 + 4) + 0 + 0 + 0 ≤ _)⟩)
      dsimp only [Pt.U, Pt.locs, Pt.cells, Pt.slots] at X27 l27 y27 z27 st27 hQ27
      subst l27 y27 z27
      obtain ⟨rfl, Nq27, e27⟩ := hQ27
      have N27 := Fr.app N26 Nq27
      refine GlW.st (g' := (mkF m 77 #[.val (.int p1), .val (.int p2), .val (.ref a11), .val (.ref a12), .val (.int v14), .val (.int p1), .val (.int (1 : Int32)), .val (.int v25)] [(.int (own_lc (own_c (List.getD own_U v25.toNatClampNeg 0))))])) st27 ?_
      refine GlW.st (g' := (mkF m 78 #[.val (.int p1), .val (.int p2), .val (.ref a11), .val (.ref a12), .val (.int v14), .val (.int p1), .val (.int (1 : Int32)), .val (.int v25)] [(.ref a12), (.int (own_lc (own_c (List.getD own_U v25.toNatClampNeg 0))))])) (fun t k => XS.aloadN X27.here hx rfl (hb hby at_77) rfl rfl k) ?_
      refine GlW.st (g' := (mkF m 80 #[.val (.int p1), .val (.int p2), .val (.ref a11), .val (.ref a12), .val (.int v14), .val (.int p1), .val (.int (1 : Int32)), .val (.int v25)] [(.int v25), (.ref a12), (.int (own_lc (own_c (List.getD own_U v25.toNatClampNeg 0))))])) (fun t k => XS.iload X27.here hx rfl (hb hby at_78) rfl k) ?_
      obtain ⟨cq28, kq28, qa28, qb28, qc28⟩ := isOf hZ e27 EX12
      obtain ⟨_, _, ⟨T28, L28, k28, n28⟩, -, X28, ⟨Lc28, hQ28, l28, y28, z28⟩, st28⟩ := X27.virtualBack hx (y := (⟨"java/lang/String", "charAt", "(I)C"⟩ : MethodName)) (z := (⟨"java/lang/String", "charAt", "(I)C"⟩ : MethodName)) hown (mvT hZ (hw _ (List.mem_of_getElem? (i := 14) rfl))) (mvT hZ (hw _ (List.mem_of_getElem? (i := 15) rfl))) (notFace_of_selects (args := #[]) (mvT hZ (hw _ (List.mem_of_getElem? (i := 17) rfl)))) (mvT hZ (hw _ (List.mem_of_getElem? (i := 17) rfl))) (mvT hZ (hw _ (List.mem_of_getElem? (i := 16) rfl))) (by decide) (backOf (W := 1) (rm5 l Z a0 hw a12 v25 b12 kb12 (26 : Int32) own_L fm cs h12 n0 Z12 EX12 FC12 FV12 V12 hI SF12 hfm SC12 hcs) hZ (hw _ (List.mem_of_getElem? (i := 18) rfl)) (hw _ (List.mem_of_getElem? (i := 1) rfl)) (by decide) (by decide)) qa28 qc28 (g := (mkF m 80 #[.val (.int p1), .val (.int p2), .val (.ref a11), .val (.ref a12), .val (.int v14), .val (.int p1), .val (.int (1 : Int32)), .val (.int v25)] [(.int v25), (.ref a12), (.int (own_lc (own_c (List.getD own_U v25.toNatClampNeg 0))))])) rfl (by rw [hml]; rfl) (Steps.refl _) (argsL := [(.int v25)]) (rest := [(.int (own_lc (own_c (List.getD own_U v25.toNatClampNeg 0))))]) (lenOf pd_4 rfl) rfl (by show 2 * 0 + _ ≤ _; exact Nat.le_of_eq rfl) (hb hby at_80) (fun _ _ => ⟨rfl, e27, (by decide : 0 + 2 + 2 + 0 + 0 + 0 + 0 ≤ _), (by decide : 0 + (104 + 4) + (104 + 4) + 0 + 0 + 0 + 0 ≤ _)⟩)
      dsimp only [Pt.U, Pt.locs, Pt.cells, Pt.slots] at X28 l28 y28 z28 st28 hQ28
      subst l28 y28 z28
      obtain ⟨rfl, Nq28, e28⟩ := hQ28
      have N28 := Fr.app N27 Nq28
      refine GlW.st (g' := (mkF m 83 #[.val (.int p1), .val (.int p2), .val (.ref a11), .val (.ref a12), .val (.int v14), .val (.int p1), .val (.int (1 : Int32)), .val (.int v25)] [(.int (own_c (List.getD own_L v25.toNatClampNeg 0))), (.int (own_lc (own_c (List.getD own_U v25.toNatClampNeg 0))))])) (fun t k => st28.trans k) ?_
      refine GlW.st (g' := (mkF m 86 #[.val (.int p1), .val (.int p2), .val (.ref a11), .val (.ref a12), .val (.int v14), .val (.int p1), .val (.int (1 : Int32)), .val (.int v25)] [])) (fun t k => XS.icmpNo X28.here hx rfl (hb hby at_83) rfl (XT.ii_ne_f (own_up hI)) k) ?_
      refine GlW.st (g' := (mkF m 87 #[.val (.int p1), .val (.int p2), .val (.ref a11), .val (.ref a12), .val (.int v14), .val (.int p1), .val (.int (1 : Int32)), .val (.int v25)] [(.int (1 : Int32))])) (fun t k => XT.iconstV X28.here hx rfl (1 : Int32) (hb hby at_86) rfl k) ?_
      refine GlW.st (g' := (mkF m 91 #[.val (.int p1), .val (.int p2), .val (.ref a11), .val (.ref a12), .val (.int v14), .val (.int p1), .val (.int (1 : Int32)), .val (.int v25)] [(.int (1 : Int32))])) (fun t k => XS.goto X28.here hx rfl (pc0 := 87) (pc' := 91) rfl (hb hby at_87) (by decide) (by decide) k) ?_
      refine GlW.st (g' := (mkF m 93 #[.val (.int p1), .val (.int p2), .val (.ref a11), .val (.ref a12), .val (.int v14), .val (.int p1), .val (.int (1 : Int32)), .val (.int v25)] [])) (fun t k => XS.istore X28.here hx rfl (hb hby at_91) rfl (l' := #[.val (.int p1), .val (.int p2), .val (.ref a11), .val (.ref a12), .val (.int v14), .val (.int p1), .val (.int (1 : Int32)), .val (.int v25)]) rfl k) ?_
      refine GlW.st (g' := (mkF m 95 #[.val (.int p1), .val (.int p2), .val (.ref a11), .val (.ref a12), .val (.int v14), .val (.int p1), .val (.int (1 : Int32)), .val (.int v25)] [(.int (1 : Int32))])) (fun t k => XS.iload X28.here hx rfl (hb hby at_93) rfl k) ?_
      refine GlW.st (g' := (mkF m 98 #[.val (.int p1), .val (.int p2), .val (.ref a11), .val (.ref a12), .val (.int v14), .val (.int p1), .val (.int (1 : Int32)), .val (.int v25)] [])) (fun t k => XS.ifNo X28.here hx rfl (hb hby at_95) rfl (XT.i0_eq_f (by decide)) k) ?_
      refine GlW.st (g' := (mkF m 99 #[.val (.int p1), .val (.int p2), .val (.ref a11), .val (.ref a12), .val (.int v14), .val (.int p1), .val (.int (1 : Int32)), .val (.int v25)] [(.ref a12)])) (fun t k => XS.aloadN X28.here hx rfl (hb hby at_98) rfl rfl k) ?_
      refine GlW.st (g' := (mkF m 101 #[.val (.int p1), .val (.int p2), .val (.ref a11), .val (.ref a12), .val (.int v14), .val (.int p1), .val (.int (1 : Int32)), .val (.int v25)] [(.int v25), (.ref a12)])) (fun t k => XS.iload X28.here hx rfl (hb hby at_99) rfl k) ?_
      obtain ⟨cq29, kq29, qa29, qb29, qc29⟩ := isOf hZ e28 EX12
      obtain ⟨_, _, ⟨T29, L29, k29, n29⟩, -, X29, ⟨Lc29, hQ29, l29, y29, z29⟩, st29⟩ := X28.virtualBack hx (y := (⟨"java/lang/String", "charAt", "(I)C"⟩ : MethodName)) (z := (⟨"java/lang/String", "charAt", "(I)C"⟩ : MethodName)) hown (mvT hZ (hw _ (List.mem_of_getElem? (i := 14) rfl))) (mvT hZ (hw _ (List.mem_of_getElem? (i := 15) rfl))) (notFace_of_selects (args := #[]) (mvT hZ (hw _ (List.mem_of_getElem? (i := 17) rfl)))) (mvT hZ (hw _ (List.mem_of_getElem? (i := 17) rfl))) (mvT hZ (hw _ (List.mem_of_getElem? (i := 16) rfl))) (by decide) (backOf (W := 0) (rm5 l Z a0 hw a12 v25 b12 kb12 (26 : Int32) own_L fm cs h12 n0 Z12 EX12 FC12 FV12 V12 hI SF12 hfm SC12 hcs) hZ (hw _ (List.mem_of_getElem? (i := 18) rfl)) (hw _ (List.mem_of_getElem? (i := 1) rfl)) (by decide) (by decide)) qa29 qc29 (g := (mkF m 101 #[.val (.int p1), .val (.int p2), .val (.ref a11), .val (.ref a12), .val (.int v14), .val (.int p1), .val (.int (1 : Int32)), .val (.int v25)] [(.int v25), (.ref a12)])) rfl (by rw [hml]; rfl) (Steps.refl _) (argsL := [(.int v25)]) (rest := []) (lenOf pd_4 rfl) rfl (by show 2 * 0 + _ ≤ _; exact Nat.le_of_eq rfl) (hb hby at_101) (fun _ _ => ⟨rfl, e28, (by decide : 0 + 2 + 2 + 0 + 0 + 0 + 0 + 0 ≤ _), (by decide : 0 + (104 + 4) + (104 + 4) + 0 + 0 + 0 + 0 + 0 ≤ _)⟩)
      dsimp only [Pt.U, Pt.locs, Pt.cells, Pt.slots] at X29 l29 y29 z29 st29 hQ29
      subst l29 y29 z29
      obtain ⟨rfl, Nq29, e29⟩ := hQ29
      have N29 := Fr.app N28 Nq29
      refine GlW.st (g' := (mkF m 104 #[.val (.int p1), .val (.int p2), .val (.ref a11), .val (.ref a12), .val (.int v14), .val (.int p1), .val (.int (1 : Int32)), .val (.int v25)] [(.int (own_c (List.getD own_L v25.toNatClampNeg 0)))])) (fun t k => st29.trans k) ?_
      obtain ⟨_, _, ⟨T30, L30, k30, n30⟩, -, X30, ⟨Lc30, hQ30, l30, y30, z30⟩, st30⟩ := Jvm.LawKit.callS X29 hx (y := (⟨"com/example/outlier/outlier/http/FieldName", "toLowerCase", "(I)I"⟩ : MethodName)) hown (mvT hZ (hw _ (List.mem_of_getElem? (i := 9) rfl))) (mvT hZ (hw _ (List.mem_of_getElem? (i := 10) rfl))) (mvT hZ (hw _ (List.mem_of_getElem? (i := 11) rfl))) (mvT hZ (hw _ (List.mem_of_getElem? (i := 12) rfl))) (by decide) (backOf (W := 0) (rm6 l Z a0 hw (own_c (List.getD own_L v25.toNatClampNeg 0))  h12 n0 Z12 ) hZ (hw _ (List.mem_of_getElem? (i := 12) rfl)) (hw _ (List.mem_of_getElem? (i := 11) rfl)) (by decide) (by decide)) (g := (mkF m 104 #[.val (.int p1), .val (.int p2), .val (.ref a11), .val (.ref a12), .val (.int v14), .val (.int p1), .val (.int (1 : Int32)), .val (.int v25)] [(.int (own_c (List.getD own_L v25.toNatClampNeg 0)))])) rfl (by rw [hml]; rfl) (argsL := [(.int (own_c (List.getD own_L v25.toNatClampNeg 0)))]) (rest := []) (lenOf pd_5 rfl) rfl (by show 2 * 0 + _ ≤ _; exact Nat.le_of_eq rfl) (hb hby at_104) (fun _ _ => ⟨rfl, e29, (by decide : 0 + 2 + 2 + 0 + 0 + 0 + 0 + 0 + 0 ≤ _), (by decide : 0 + (104 + 4) + (104 + 4) + 0 + 0 + 0 + 0 + 0 + 0 ≤ _)⟩)
      dsimp only [Pt.U, Pt.locs, Pt.cells, Pt.slots] at X30 l30 y30 z30 st30 hQ30
      subst l30 y30 z30
      obtain ⟨rfl, Nq30, e30⟩ := hQ30
      have N30 := Fr.app N29 Nq30
      refine GlW.st (g' := (mkF m 107 #[.val (.int p1), .val (.int p2), .val (.ref a11), .val (.ref a12), .val (.int v14), .val (.int p1), .val (.int (1 : Int32)), .val (.int v25)] [(.int (own_lc (own_c (List.getD own_L v25.toNatClampNeg 0))))])) st30 ?_
      refine GlW.st (g' := (mkF m 108 #[.val (.int p1), .val (.int p2), .val (.ref a11), .val (.ref a12), .val (.int v14), .val (.int p1), .val (.int (1 : Int32)), .val (.int v25)] [(.ref a12), (.int (own_lc (own_c (List.getD own_L v25.toNatClampNeg 0))))])) (fun t k => XS.aloadN X30.here hx rfl (hb hby at_107) rfl rfl k) ?_
      refine GlW.st (g' := (mkF m 110 #[.val (.int p1), .val (.int p2), .val (.ref a11), .val (.ref a12), .val (.int v14), .val (.int p1), .val (.int (1 : Int32)), .val (.int v25)] [(.int v25), (.ref a12), (.int (own_lc (own_c (List.getD own_L v25.toNatClampNeg 0))))])) (fun t k => XS.iload X30.here hx rfl (hb hby at_108) rfl k) ?_
      obtain ⟨cq31, kq31, qa31, qb31, qc31⟩ := isOf hZ e30 EX12
      obtain ⟨_, _, ⟨T31, L31, k31, n31⟩, -, X31, ⟨Lc31, hQ31, l31, y31, z31⟩, st31⟩ := X30.virtualBack hx (y := (⟨"java/lang/String", "charAt", "(I)C"⟩ : MethodName)) (z := (⟨"java/lang/String", "charAt", "(I)C"⟩ : MethodName)) hown (mvT hZ (hw _ (List.mem_of_getElem? (i := 14) rfl))) (mvT hZ (hw _ (List.mem_of_getElem? (i := 15) rfl))) (notFace_of_selects (args := #[]) (mvT hZ (hw _ (List.mem_of_getElem? (i := 17) rfl)))) (mvT hZ (hw _ (List.mem_of_getElem? (i := 17) rfl))) (mvT hZ (hw _ (List.mem_of_getElem? (i := 16) rfl))) (by decide) (backOf (W := 1) (rm5 l Z a0 hw a12 v25 b12 kb12 (26 : Int32) own_L fm cs h12 n0 Z12 EX12 FC12 FV12 V12 hI SF12 hfm SC12 hcs) hZ (hw _ (List.mem_of_getElem? (i := 18) rfl)) (hw _ (List.mem_of_getElem? (i := 1) rfl)) (by decide) (by decide)) qa31 qc31 (g := (mkF m 110 #[.val (.int p1), .val (.int p2), .val (.ref a11), .val (.ref a12), .val (.int v14), .val (.int p1), .val (.int (1 : Int32)), .val (.int v25)] [(.int v25), (.ref a12), (.int (own_lc (own_c (List.getD own_L v25.toNatClampNeg 0))))])) rfl (by rw [hml]; rfl) (Steps.refl _) (argsL := [(.int v25)]) (rest := [(.int (own_lc (own_c (List.getD own_L v25.toNatClampNeg 0))))]) (lenOf pd_4 rfl) rfl (by show 2 * 0 + _ ≤ _; exact Nat.le_of_eq rfl) (hb hby at_110) (fun _ _ => ⟨rfl, e30, (by decide : 0 + 2 + 2 + 0 + 0 + 0 + 0 + 0 + 0 + 0 ≤ _), (by decide : 0 + (104 + 4) + (104 + 4) + 0 + 0 + 0 + 0 + 0 + 0 + 0 ≤ _)⟩)
      dsimp only [Pt.U, Pt.locs, Pt.cells, Pt.slots] at X31 l31 y31 z31 st31 hQ31
      subst l31 y31 z31
      obtain ⟨rfl, Nq31, e31⟩ := hQ31
      have N31 := Fr.app N30 Nq31
      refine GlW.st (g' := (mkF m 113 #[.val (.int p1), .val (.int p2), .val (.ref a11), .val (.ref a12), .val (.int v14), .val (.int p1), .val (.int (1 : Int32)), .val (.int v25)] [(.int (own_c (List.getD own_L v25.toNatClampNeg 0))), (.int (own_lc (own_c (List.getD own_L v25.toNatClampNeg 0))))])) (fun t k => st31.trans k) ?_
      refine GlW.st (g' := (mkF m 116 #[.val (.int p1), .val (.int p2), .val (.ref a11), .val (.ref a12), .val (.int v14), .val (.int p1), .val (.int (1 : Int32)), .val (.int v25)] [])) (fun t k => XS.icmpNo X31.here hx rfl (hb hby at_113) rfl (XT.ii_ne_f (own_dn hI)) k) ?_
      refine GlW.st (g' := (mkF m 117 #[.val (.int p1), .val (.int p2), .val (.ref a11), .val (.ref a12), .val (.int v14), .val (.int p1), .val (.int (1 : Int32)), .val (.int v25)] [(.int (1 : Int32))])) (fun t k => XT.iconstV X31.here hx rfl (1 : Int32) (hb hby at_116) rfl k) ?_
      refine GlW.st (g' := (mkF m 121 #[.val (.int p1), .val (.int p2), .val (.ref a11), .val (.ref a12), .val (.int v14), .val (.int p1), .val (.int (1 : Int32)), .val (.int v25)] [(.int (1 : Int32))])) (fun t k => XS.goto X31.here hx rfl (pc0 := 117) (pc' := 121) rfl (hb hby at_117) (by decide) (by decide) k) ?_
      refine GlW.st (g' := (mkF m 123 #[.val (.int p1), .val (.int p2), .val (.ref a11), .val (.ref a12), .val (.int v14), .val (.int p1), .val (.int (1 : Int32)), .val (.int v25)] [])) (fun t k => XS.istore X31.here hx rfl (hb hby at_121) rfl (l' := #[.val (.int p1), .val (.int p2), .val (.ref a11), .val (.ref a12), .val (.int v14), .val (.int p1), .val (.int (1 : Int32)), .val (.int v25)]) rfl k) ?_
      refine GlW.st (g' := (mkF m 125 #[.val (.int p1), .val (.int p2), .val (.ref a11), .val (.ref a12), .val (.int v14), .val (.int p1), .val (.int (1 : Int32)), .val (.int v25)] [(.int (1 : Int32))])) (fun t k => XS.iload X31.here hx rfl (hb hby at_123) rfl k) ?_
      refine GlW.st (g' := (mkF m 128 #[.val (.int p1), .val (.int p2), .val (.ref a11), .val (.ref a12), .val (.int v14), .val (.int p1), .val (.int (1 : Int32)), .val (.int v25)] [])) (fun t k => XS.ifNo X31.here hx rfl (hb hby at_125) rfl (XT.i0_eq_f (by decide)) k) ?_
      refine GlW.st (g' := (mkF m 130 #[.val (.int p1), .val (.int p2), .val (.ref a11), .val (.ref a12), .val (.int v14), .val (.int p1), .val (.int (1 : Int32)), .val (.int v25)] [(.int v14)])) (fun t k => XS.iload X31.here hx rfl (hb hby at_128) rfl k) ?_
      obtain ⟨_, _, ⟨T32, L32, k32, n32⟩, -, X32, ⟨Lc32, hQ32, l32, y32, z32⟩, st32⟩ := Jvm.LawKit.callS X31 hx (y := (⟨"com/example/outlier/outlier/http/FieldName", "toLowerCase", "(I)I"⟩ : MethodName)) hown (mvT hZ (hw _ (List.mem_of_getElem? (i := 9) rfl))) (mvT hZ (hw _ (List.mem_of_getElem? (i := 10) rfl))) (mvT hZ (hw _ (List.mem_of_getElem? (i := 11) rfl))) (mvT hZ (hw _ (List.mem_of_getElem? (i := 12) rfl))) (by decide) (backOf (W := 0) (rm6 l Z a0 hw v14  h12 n0 Z12 ) hZ (hw _ (List.mem_of_getElem? (i := 12) rfl)) (hw _ (List.mem_of_getElem? (i := 11) rfl)) (by decide) (by decide)) (g := (mkF m 130 #[.val (.int p1), .val (.int p2), .val (.ref a11), .val (.ref a12), .val (.int v14), .val (.int p1), .val (.int (1 : Int32)), .val (.int v25)] [(.int v14)])) rfl (by rw [hml]; rfl) (argsL := [(.int v14)]) (rest := []) (lenOf pd_5 rfl) rfl (by show 2 * 0 + _ ≤ _; exact Nat.le_of_eq rfl) (hb hby at_130) (fun _ _ => ⟨rfl, e31, (by decide : 0 + 2 + 2 + 0 + 0 + 0 + 0 + 0 + 0 + 0 + 0 ≤ _), (by decide : 0 + (104 + 4) + (104 + 4) + 0 + 0 + 0 + 0 + 0 + 0 + 0 + 0 ≤ _)⟩)
      dsimp only [Pt.U, Pt.locs, Pt.cells, Pt.slots] at X32 l32 y32 z32 st32 hQ32
      subst l32 y32 z32
      obtain ⟨rfl, Nq32, e32⟩ := hQ32
      have N32 := Fr.app N31 Nq32
      refine GlW.st (g' := (mkF m 133 #[.val (.int p1), .val (.int p2), .val (.ref a11), .val (.ref a12), .val (.int v14), .val (.int p1), .val (.int (1 : Int32)), .val (.int v25)] [(.int (own_lc v14))])) st32 ?_
      refine GlW.st (g' := (mkF m 135 #[.val (.int p1), .val (.int p2), .val (.ref a11), .val (.ref a12), .val (.int v14), .val (.int p1), .val (.int (1 : Int32)), .val (.int v25)] [(.int v14), (.int (own_lc v14))])) (fun t k => XS.iload X32.here hx rfl (hb hby at_133) rfl k) ?_
      refine GlW.st (g' := (mkF m 138 #[.val (.int p1), .val (.int p2), .val (.ref a11), .val (.ref a12), .val (.int v14), .val (.int p1), .val (.int (1 : Int32)), .val (.int v25)] [])) (fun t k => XS.icmpNo X32.here hx rfl (hb hby at_135) rfl (XT.ii_ne_f (own_id hv14)) k) ?_
      refine GlW.st (g' := (mkF m 139 #[.val (.int p1), .val (.int p2), .val (.ref a11), .val (.ref a12), .val (.int v14), .val (.int p1), .val (.int (1 : Int32)), .val (.int v25)] [(.int (1 : Int32))])) (fun t k => XT.iconstV X32.here hx rfl (1 : Int32) (hb hby at_138) rfl k) ?_
      refine GlW.st (g' := (mkF m 143 #[.val (.int p1), .val (.int p2), .val (.ref a11), .val (.ref a12), .val (.int v14), .val (.int p1), .val (.int (1 : Int32)), .val (.int v25)] [(.int (1 : Int32))])) (fun t k => XS.goto X32.here hx rfl (pc0 := 139) (pc' := 143) rfl (hb hby at_139) (by decide) (by decide) k) ?_
      refine GlW.st (g' := (mkF m 145 #[.val (.int p1), .val (.int p2), .val (.ref a11), .val (.ref a12), .val (.int v14), .val (.int p1), .val (.int (1 : Int32)), .val (.int v25)] [])) (fun t k => XS.istore X32.here hx rfl (hb hby at_143) rfl (l' := #[.val (.int p1), .val (.int p2), .val (.ref a11), .val (.ref a12), .val (.int v14), .val (.int p1), .val (.int (1 : Int32)), .val (.int v25)]) rfl k) ?_
      refine GlW.st (g' := (mkF m 147 #[.val (.int p1), .val (.int p2), .val (.ref a11), .val (.ref a12), .val (.int v14), .val (.int p1), .val (.int (1 : Int32)), .val (.int v25)] [(.int (1 : Int32))])) (fun t k => XS.iload X32.here hx rfl (hb hby at_145) rfl k) ?_
      refine GlW.retZ hS12 hk12 X32 hx hlk .boolean (by simp) Bd.returns (hb hby at_147) e32 (by decide) (by decide) ?_
      rw [Q0, own_z1]
      exact ⟨rfl, N32⟩
    · skip
      refine GlW.st (g' := (mkF m 24 #[.val (.int p1), .val (.int p2), .val (.ref a11), .val (.ref a12), .val (.int v14), .unset, .unset, .unset] [])) (fun t k => XS.icmpNo X13.here hx rfl (hb hby at_21) rfl (XT.ii_gt_f c24) k) ?_
      refine GlW.st (g' := (mkF m 25 #[.val (.int p1), .val (.int p2), .val (.ref a11), .val (.ref a12), .val (.int v14), .unset, .unset, .unset] [(.ref a12)])) (fun t k => XS.aloadN X13.here hx rfl (hb hby at_24) rfl rfl k) ?_
      refine GlW.st (g' := (mkF m 26 #[.val (.int p1), .val (.int p2), .val (.ref a11), .val (.ref a12), .val (.int v14), .unset, .unset, .unset] [(.int p1), (.ref a12)])) (fun t k => XS.iloadN X13.here hx rfl (hb hby at_25) rfl k) ?_
      refine GlW.st (g' := (mkF m 28 #[.val (.int p1), .val (.int p2), .val (.ref a11), .val (.ref a12), .val (.int v14), .unset, .unset, .unset] [(.int (65 : Int32)), (.int p1), (.ref a12)])) (fun t k => XT.bipushV X13.here hx rfl (65 : Int32) (hb hby at_26) rfl k) ?_
      refine GlW.st (g' := (mkF m 29 #[.val (.int p1), .val (.int p2), .val (.ref a11), .val (.ref a12), .val (.int v14), .unset, .unset, .unset] [(.int (p1 - (65 : Int32))), (.ref a12)])) (fun t k => XS.isub X13.here hx rfl (hb hby at_28) rfl k) ?_
      obtain ⟨cq33, kq33, qa33, qb33, qc33⟩ := isOf hZ e13 EX12
      obtain ⟨_, _, ⟨T33, L33, k33, n33⟩, -, X33, ⟨Lc33, hQ33, l33, y33, z33⟩, st33⟩ := X13.virtualBack hx (y := (⟨"java/lang/String", "charAt", "(I)C"⟩ : MethodName)) (z := (⟨"java/lang/String", "charAt", "(I)C"⟩ : MethodName)) hown (mvT hZ (hw _ (List.mem_of_getElem? (i := 14) rfl))) (mvT hZ (hw _ (List.mem_of_getElem? (i := 15) rfl))) (notFace_of_selects (args := #[]) (mvT hZ (hw _ (List.mem_of_getElem? (i := 17) rfl)))) (mvT hZ (hw _ (List.mem_of_getElem? (i := 17) rfl))) (mvT hZ (hw _ (List.mem_of_getElem? (i := 16) rfl))) (by decide) (backOf (W := 0) (rm5 l Z a0 hw a12 (p1 - (65 : Int32)) b12 kb12 (26 : Int32) own_L fm cs h12 n0 Z12 EX12 FC12 FV12 V12 (own_in c15 c24) SF12 hfm SC12 hcs) hZ (hw _ (List.mem_of_getElem? (i := 18) rfl)) (hw _ (List.mem_of_getElem? (i := 1) rfl)) (by decide) (by decide)) qa33 qc33 (g := (mkF m 29 #[.val (.int p1), .val (.int p2), .val (.ref a11), .val (.ref a12), .val (.int v14), .unset, .unset, .unset] [(.int (p1 - (65 : Int32))), (.ref a12)])) rfl (by rw [hml]; rfl) (Steps.refl _) (argsL := [(.int (p1 - (65 : Int32)))]) (rest := []) (lenOf pd_4 rfl) rfl (by show 2 * 0 + _ ≤ _; exact Nat.le_of_eq rfl) (hb hby at_29) (fun _ _ => ⟨rfl, e13, (by decide : 0 + 2 + 2 + 0 + 0 ≤ _), (by decide : 0 + (104 + 4) + (104 + 4) + 0 + 0 ≤ _)⟩)
      dsimp only [Pt.U, Pt.locs, Pt.cells, Pt.slots] at X33 l33 y33 z33 st33 hQ33
      subst l33 y33 z33
      obtain ⟨rfl, Nq33, e33⟩ := hQ33
      have N33 := Fr.app N13 Nq33
      refine GlW.st (g' := (mkF m 32 #[.val (.int p1), .val (.int p2), .val (.ref a11), .val (.ref a12), .val (.int v14), .unset, .unset, .unset] [(.int (own_c (List.getD own_L (p1 - (65 : Int32)).toNatClampNeg 0)))])) (fun t k => st33.trans k) ?_
      generalize hv34 : (own_c (List.getD own_L (p1 - (65 : Int32)).toNatClampNeg 0)) = v34
      refine GlW.st (g' := (mkF m 34 #[.val (.int p1), .val (.int p2), .val (.ref a11), .val (.ref a12), .val (.int v14), .val (.int v34), .unset, .unset] [])) (fun t k => XS.istore X33.here hx rfl (hb hby at_32) rfl (l' := #[.val (.int p1), .val (.int p2), .val (.ref a11), .val (.ref a12), .val (.int v14), .val (.int v34), .unset, .unset]) rfl k) ?_
      refine GlW.st (g' := (mkF m 40 #[.val (.int p1), .val (.int p2), .val (.ref a11), .val (.ref a12), .val (.int v14), .val (.int v34), .unset, .unset] [])) (fun t k => XS.goto X33.here hx rfl (pc0 := 34) (pc' := 40) rfl (hb hby at_34) (by decide) (by decide) k) ?_
      refine GlW.st (g' := (mkF m 42 #[.val (.int p1), .val (.int p2), .val (.ref a11), .val (.ref a12), .val (.int v14), .val (.int v34), .unset, .unset] [(.int v14)])) (fun t k => XS.iload X33.here hx rfl (hb hby at_40) rfl k) ?_
      refine GlW.st (g' := (mkF m 44 #[.val (.int p1), .val (.int p2), .val (.ref a11), .val (.ref a12), .val (.int v14), .val (.int v34), .unset, .unset] [(.int v34), (.int v14)])) (fun t k => XS.iload X33.here hx rfl (hb hby at_42) rfl k) ?_
      refine GlW.st (g' := (mkF m 47 #[.val (.int p1), .val (.int p2), .val (.ref a11), .val (.ref a12), .val (.int v14), .val (.int v34), .unset, .unset] [])) (fun t k => XS.icmpNo X33.here hx rfl (hb hby at_44) rfl (XT.ii_ne_f (own_mid c15 c24 hv14 hv34)) k) ?_
      refine GlW.st (g' := (mkF m 48 #[.val (.int p1), .val (.int p2), .val (.ref a11), .val (.ref a12), .val (.int v14), .val (.int v34), .unset, .unset] [(.int (1 : Int32))])) (fun t k => XT.iconstV X33.here hx rfl (1 : Int32) (hb hby at_47) rfl k) ?_
      refine GlW.st (g' := (mkF m 52 #[.val (.int p1), .val (.int p2), .val (.ref a11), .val (.ref a12), .val (.int v14), .val (.int v34), .unset, .unset] [(.int (1 : Int32))])) (fun t k => XS.goto X33.here hx rfl (pc0 := 48) (pc' := 52) rfl (hb hby at_48) (by decide) (by decide) k) ?_
      refine GlW.st (g' := (mkF m 54 #[.val (.int p1), .val (.int p2), .val (.ref a11), .val (.ref a12), .val (.int v14), .val (.int v34), .val (.int (1 : Int32)), .unset] [])) (fun t k => XS.istore X33.here hx rfl (hb hby at_52) rfl (l' := #[.val (.int p1), .val (.int p2), .val (.ref a11), .val (.ref a12), .val (.int v14), .val (.int v34), .val (.int (1 : Int32)), .unset]) rfl k) ?_
      refine GlW.st (g' := (mkF m 55 #[.val (.int p1), .val (.int p2), .val (.ref a11), .val (.ref a12), .val (.int v14), .val (.int v34), .val (.int (1 : Int32)), .unset] [(.int p2)])) (fun t k => XS.iloadN X33.here hx rfl (hb hby at_54) rfl k) ?_
      refine GlW.st (g' := (mkF m 57 #[.val (.int p1), .val (.int p2), .val (.ref a11), .val (.ref a12), .val (.int v14), .val (.int v34), .val (.int (1 : Int32)), .unset] [(.int (2147483647 : Int32)), (.int p2)])) (fun t k => X33.ldcI hx hown (mvT hZ (hw _ (List.mem_of_getElem? (i := 13) rfl))) rfl (hb hby at_55) k) ?_
      refine GlW.st (g' := (mkF m 58 #[.val (.int p1), .val (.int p2), .val (.ref a11), .val (.ref a12), .val (.int v14), .val (.int v34), .val (.int (1 : Int32)), .unset] [(.int (p2 &&& (2147483647 : Int32)))])) (fun t k => XS.iand X33.here hx rfl (hb hby at_57) rfl k) ?_
      refine GlW.st (g' := (mkF m 60 #[.val (.int p1), .val (.int p2), .val (.ref a11), .val (.ref a12), .val (.int v14), .val (.int v34), .val (.int (1 : Int32)), .unset] [(.int (26 : Int32)), (.int (p2 &&& (2147483647 : Int32)))])) (fun t k => XT.bipushV X33.here hx rfl (26 : Int32) (hb hby at_58) rfl k) ?_
      refine GlW.st (g' := (mkF m 61 #[.val (.int p1), .val (.int p2), .val (.ref a11), .val (.ref a12), .val (.int v14), .val (.int v34), .val (.int (1 : Int32)), .unset] [(.int ((p2 &&& (2147483647 : Int32)) % (26 : Int32)))])) (fun t k => iremM X33 hx rfl (hb hby at_60) rfl (by decide) k) ?_
      generalize hv35 : ((p2 &&& (2147483647 : Int32)) % (26 : Int32)) = v35
      refine GlW.st (g' := (mkF m 63 #[.val (.int p1), .val (.int p2), .val (.ref a11), .val (.ref a12), .val (.int v14), .val (.int v34), .val (.int (1 : Int32)), .val (.int v35)] [])) (fun t k => XS.istore X33.here hx rfl (hb hby at_61) rfl (l' := #[.val (.int p1), .val (.int p2), .val (.ref a11), .val (.ref a12), .val (.int v14), .val (.int v34), .val (.int (1 : Int32)), .val (.int v35)]) rfl k) ?_
      have hI := own_i hv35
      refine GlW.st (g' := (mkF m 65 #[.val (.int p1), .val (.int p2), .val (.ref a11), .val (.ref a12), .val (.int v14), .val (.int v34), .val (.int (1 : Int32)), .val (.int v35)] [(.int (1 : Int32))])) (fun t k => XS.iload X33.here hx rfl (hb hby at_63) rfl k) ?_
      refine GlW.st (g' := (mkF m 68 #[.val (.int p1), .val (.int p2), .val (.ref a11), .val (.ref a12), .val (.int v14), .val (.int v34), .val (.int (1 : Int32)), .val (.int v35)] [])) (fun t k => XS.ifNo X33.here hx rfl (hb hby at_65) rfl (XT.i0_eq_f (by decide)) k) ?_
      refine GlW.st (g' := (mkF m 69 #[.val (.int p1), .val (.int p2), .val (.ref a11), .val (.ref a12), .val (.int v14), .val (.int v34), .val (.int (1 : Int32)), .val (.int v35)] [(.ref a11)])) (fun t k => XS.aloadN X33.here hx rfl (hb hby at_68) rfl rfl k) ?_
      refine GlW.st (g' := (mkF m 71 #[.val (.int p1), .val (.int p2), .val (.ref a11), .val (.ref a12), .val (.int v14), .val (.int v34), .val (.int (1 : Int32)), .val (.int v35)] [(.int v35), (.ref a11)])) (fun t k => XS.iload X33.here hx rfl (hb hby at_69) rfl k) ?_
      obtain ⟨cq36, kq36, qa36, qb36, qc36⟩ := isOf hZ e33 EXa11_12
      obtain ⟨_, _, ⟨T36, L36, k36, n36⟩, -, X36, ⟨Lc36, hQ36, l36, y36, z36⟩, st36⟩ := X33.virtualBack hx (y := (⟨"java/lang/String", "charAt", "(I)C"⟩ : MethodName)) (z := (⟨"java/lang/String", "charAt", "(I)C"⟩ : MethodName)) hown (mvT hZ (hw _ (List.mem_of_getElem? (i := 14) rfl))) (mvT hZ (hw _ (List.mem_of_getElem? (i := 15) rfl))) (notFace_of_selects (args := #[]) (mvT hZ (hw _ (List.mem_of_getElem? (i := 17) rfl)))) (mvT hZ (hw _ (List.mem_of_getElem? (i := 17) rfl))) (mvT hZ (hw _ (List.mem_of_getElem? (i := 16) rfl))) (by decide) (backOf (W := 0) (rm5 l Z a0 hw a11 v35 b11 kb11 (26 : Int32) own_U fm cs h12 n0 Z12 EXa11_12 FCa11_12 FVa11_12 Va11_12 hI SF12 hfm SC12 hcs) hZ (hw _ (List.mem_of_getElem? (i := 18) rfl)) (hw _ (List.mem_of_getElem? (i := 1) rfl)) (by decide) (by decide)) qa36 qc36 (g := (mkF m 71 #[.val (.int p1), .val (.int p2), .val (.ref a11), .val (.ref a12), .val (.int v14), .val (.int v34), .val (.int (1 : Int32)), .val (.int v35)] [(.int v35), (.ref a11)])) rfl (by rw [hml]; rfl) (Steps.refl _) (argsL := [(.int v35)]) (rest := []) (lenOf pd_4 rfl) rfl (by show 2 * 0 + _ ≤ _; exact Nat.le_of_eq rfl) (hb hby at_71) (fun _ _ => ⟨rfl, e33, (by decide : 0 + 2 + 2 + 0 + 0 + 0 ≤ _), (by decide : 0 + (104 + 4) + (104 + 4) + 0 + 0 + 0 ≤ _)⟩)
      dsimp only [Pt.U, Pt.locs, Pt.cells, Pt.slots] at X36 l36 y36 z36 st36 hQ36
      subst l36 y36 z36
      obtain ⟨rfl, Nq36, e36⟩ := hQ36
      have N36 := Fr.app N33 Nq36
      refine GlW.st (g' := (mkF m 74 #[.val (.int p1), .val (.int p2), .val (.ref a11), .val (.ref a12), .val (.int v14), .val (.int v34), .val (.int (1 : Int32)), .val (.int v35)] [(.int (own_c (List.getD own_U v35.toNatClampNeg 0)))])) (fun t k => st36.trans k) ?_
      obtain ⟨_, _, ⟨T37, L37, k37, n37⟩, -, X37, ⟨Lc37, hQ37, l37, y37, z37⟩, st37⟩ := Jvm.LawKit.callS X36 hx (y := (⟨"com/example/outlier/outlier/http/FieldName", "toLowerCase", "(I)I"⟩ : MethodName)) hown (mvT hZ (hw _ (List.mem_of_getElem? (i := 9) rfl))) (mvT hZ (hw _ (List.mem_of_getElem? (i := 10) rfl))) (mvT hZ (hw _ (List.mem_of_getElem? (i := 11) rfl))) (mvT hZ (hw _ (List.mem_of_getElem? (i := 12) rfl))) (by decide) (backOf (W := 0) (rm6 l Z a0 hw (own_c (List.getD own_U v35.toNatClampNeg 0))  h12 n0 Z12 ) hZ (hw _ (List.mem_of_getElem? (i := 12) rfl)) (hw _ (List.mem_of_getElem? (i := 11) rfl)) (by decide) (by decide)) (g := (mkF m 74 #[.val (.int p1), .val (.int p2), .val (.ref a11), .val (.ref a12), .val (.int v14), .val (.int v34), .val (.int (1 : Int32)), .val (.int v35)] [(.int (own_c (List.getD own_U v35.toNatClampNeg 0)))])) rfl (by rw [hml]; rfl) (argsL := [(.int (own_c (List.getD own_U v35.toNatClampNeg 0)))]) (rest := []) (lenOf pd_5 rfl) rfl (by show 2 * 0 + _ ≤ _; exact Nat.le_of_eq rfl) (hb hby at_74) (fun _ _ => ⟨rfl, e36, (by decide : 0 + 2 + 2 + 0 + 0 + 0 + 0 ≤ _), (by decide : 0 + (104 + 4) + (104 + 4) + 0 + 0 + 0 + 0 ≤ _)⟩)
      dsimp only [Pt.U, Pt.locs, Pt.cells, Pt.slots] at X37 l37 y37 z37 st37 hQ37
      subst l37 y37 z37
      obtain ⟨rfl, Nq37, e37⟩ := hQ37
      have N37 := Fr.app N36 Nq37
      refine GlW.st (g' := (mkF m 77 #[.val (.int p1), .val (.int p2), .val (.ref a11), .val (.ref a12), .val (.int v14), .val (.int v34), .val (.int (1 : Int32)), .val (.int v35)] [(.int (own_lc (own_c (List.getD own_U v35.toNatClampNeg 0))))])) st37 ?_
      refine GlW.st (g' := (mkF m 78 #[.val (.int p1), .val (.int p2), .val (.ref a11), .val (.ref a12), .val (.int v14), .val (.int v34), .val (.int (1 : Int32)), .val (.int v35)] [(.ref a12), (.int (own_lc (own_c (List.getD own_U v35.toNatClampNeg 0))))])) (fun t k => XS.aloadN X37.here hx rfl (hb hby at_77) rfl rfl k) ?_
      refine GlW.st (g' := (mkF m 80 #[.val (.int p1), .val (.int p2), .val (.ref a11), .val (.ref a12), .val (.int v14), .val (.int v34), .val (.int (1 : Int32)), .val (.int v35)] [(.int v35), (.ref a12), (.int (own_lc (own_c (List.getD own_U v35.toNatClampNeg 0))))])) (fun t k => XS.iload X37.here hx rfl (hb hby at_78) rfl k) ?_
      obtain ⟨cq38, kq38, qa38, qb38, qc38⟩ := isOf hZ e37 EX12
      obtain ⟨_, _, ⟨T38, L38, k38, n38⟩, -, X38, ⟨Lc38, hQ38, l38, y38, z38⟩, st38⟩ := X37.virtualBack hx (y := (⟨"java/lang/String", "charAt", "(I)C"⟩ : MethodName)) (z := (⟨"java/lang/String", "charAt", "(I)C"⟩ : MethodName)) hown (mvT hZ (hw _ (List.mem_of_getElem? (i := 14) rfl))) (mvT hZ (hw _ (List.mem_of_getElem? (i := 15) rfl))) (notFace_of_selects (args := #[]) (mvT hZ (hw _ (List.mem_of_getElem? (i := 17) rfl)))) (mvT hZ (hw _ (List.mem_of_getElem? (i := 17) rfl))) (mvT hZ (hw _ (List.mem_of_getElem? (i := 16) rfl))) (by decide) (backOf (W := 1) (rm5 l Z a0 hw a12 v35 b12 kb12 (26 : Int32) own_L fm cs h12 n0 Z12 EX12 FC12 FV12 V12 hI SF12 hfm SC12 hcs) hZ (hw _ (List.mem_of_getElem? (i := 18) rfl)) (hw _ (List.mem_of_getElem? (i := 1) rfl)) (by decide) (by decide)) qa38 qc38 (g := (mkF m 80 #[.val (.int p1), .val (.int p2), .val (.ref a11), .val (.ref a12), .val (.int v14), .val (.int v34), .val (.int (1 : Int32)), .val (.int v35)] [(.int v35), (.ref a12), (.int (own_lc (own_c (List.getD own_U v35.toNatClampNeg 0))))])) rfl (by rw [hml]; rfl) (Steps.refl _) (argsL := [(.int v35)]) (rest := [(.int (own_lc (own_c (List.getD own_U v35.toNatClampNeg 0))))]) (lenOf pd_4 rfl) rfl (by show 2 * 0 + _ ≤ _; exact Nat.le_of_eq rfl) (hb hby at_80) (fun _ _ => ⟨rfl, e37, (by decide : 0 + 2 + 2 + 0 + 0 + 0 + 0 + 0 ≤ _), (by decide : 0 + (104 + 4) + (104 + 4) + 0 + 0 + 0 + 0 + 0 ≤ _)⟩)
      dsimp only [Pt.U, Pt.locs, Pt.cells, Pt.slots] at X38 l38 y38 z38 st38 hQ38
      subst l38 y38 z38
      obtain ⟨rfl, Nq38, e38⟩ := hQ38
      have N38 := Fr.app N37 Nq38
      refine GlW.st (g' := (mkF m 83 #[.val (.int p1), .val (.int p2), .val (.ref a11), .val (.ref a12), .val (.int v14), .val (.int v34), .val (.int (1 : Int32)), .val (.int v35)] [(.int (own_c (List.getD own_L v35.toNatClampNeg 0))), (.int (own_lc (own_c (List.getD own_U v35.toNatClampNeg 0))))])) (fun t k => st38.trans k) ?_
      refine GlW.st (g' := (mkF m 86 #[.val (.int p1), .val (.int p2), .val (.ref a11), .val (.ref a12), .val (.int v14), .val (.int v34), .val (.int (1 : Int32)), .val (.int v35)] [])) (fun t k => XS.icmpNo X38.here hx rfl (hb hby at_83) rfl (XT.ii_ne_f (own_up hI)) k) ?_
      refine GlW.st (g' := (mkF m 87 #[.val (.int p1), .val (.int p2), .val (.ref a11), .val (.ref a12), .val (.int v14), .val (.int v34), .val (.int (1 : Int32)), .val (.int v35)] [(.int (1 : Int32))])) (fun t k => XT.iconstV X38.here hx rfl (1 : Int32) (hb hby at_86) rfl k) ?_
      refine GlW.st (g' := (mkF m 91 #[.val (.int p1), .val (.int p2), .val (.ref a11), .val (.ref a12), .val (.int v14), .val (.int v34), .val (.int (1 : Int32)), .val (.int v35)] [(.int (1 : Int32))])) (fun t k => XS.goto X38.here hx rfl (pc0 := 87) (pc' := 91) rfl (hb hby at_87) (by decide) (by decide) k) ?_
      refine GlW.st (g' := (mkF m 93 #[.val (.int p1), .val (.int p2), .val (.ref a11), .val (.ref a12), .val (.int v14), .val (.int v34), .val (.int (1 : Int32)), .val (.int v35)] [])) (fun t k => XS.istore X38.here hx rfl (hb hby at_91) rfl (l' := #[.val (.int p1), .val (.int p2), .val (.ref a11), .val (.ref a12), .val (.int v14), .val (.int v34), .val (.int (1 : Int32)), .val (.int v35)]) rfl k) ?_
      refine GlW.st (g' := (mkF m 95 #[.val (.int p1), .val (.int p2), .val (.ref a11), .val (.ref a12), .val (.int v14), .val (.int v34), .val (.int (1 : Int32)), .val (.int v35)] [(.int (1 : Int32))])) (fun t k => XS.iload X38.here hx rfl (hb hby at_93) rfl k) ?_
      refine GlW.st (g' := (mkF m 98 #[.val (.int p1), .val (.int p2), .val (.ref a11), .val (.ref a12), .val (.int v14), .val (.int v34), .val (.int (1 : Int32)), .val (.int v35)] [])) (fun t k => XS.ifNo X38.here hx rfl (hb hby at_95) rfl (XT.i0_eq_f (by decide)) k) ?_
      refine GlW.st (g' := (mkF m 99 #[.val (.int p1), .val (.int p2), .val (.ref a11), .val (.ref a12), .val (.int v14), .val (.int v34), .val (.int (1 : Int32)), .val (.int v35)] [(.ref a12)])) (fun t k => XS.aloadN X38.here hx rfl (hb hby at_98) rfl rfl k) ?_
      refine GlW.st (g' := (mkF m 101 #[.val (.int p1), .val (.int p2), .val (.ref a11), .val (.ref a12), .val (.int v14), .val (.int v34), .val (.int (1 : Int32)), .val (.int v35)] [(.int v35), (.ref a12)])) (fun t k => XS.iload X38.here hx rfl (hb hby at_99) rfl k) ?_
      obtain ⟨cq39, kq39, qa39, qb39, qc39⟩ := isOf hZ e38 EX12
      obtain ⟨_, _, ⟨T39, L39, k39, n39⟩, -, X39, ⟨Lc39, hQ39, l39, y39, z39⟩, st39⟩ := X38.virtualBack hx (y := (⟨"java/lang/String", "charAt", "(I)C"⟩ : MethodName)) (z := (⟨"java/lang/String", "charAt", "(I)C"⟩ : MethodName)) hown (mvT hZ (hw _ (List.mem_of_getElem? (i := 14) rfl))) (mvT hZ (hw _ (List.mem_of_getElem? (i := 15) rfl))) (notFace_of_selects (args := #[]) (mvT hZ (hw _ (List.mem_of_getElem? (i := 17) rfl)))) (mvT hZ (hw _ (List.mem_of_getElem? (i := 17) rfl))) (mvT hZ (hw _ (List.mem_of_getElem? (i := 16) rfl))) (by decide) (backOf (W := 0) (rm5 l Z a0 hw a12 v35 b12 kb12 (26 : Int32) own_L fm cs h12 n0 Z12 EX12 FC12 FV12 V12 hI SF12 hfm SC12 hcs) hZ (hw _ (List.mem_of_getElem? (i := 18) rfl)) (hw _ (List.mem_of_getElem? (i := 1) rfl)) (by decide) (by decide)) qa39 qc39 (g := (mkF m 101 #[.val (.int p1), .val (.int p2), .val (.ref a11), .val (.ref a12), .val (.int v14), .val (.int v34), .val (.int (1 : Int32)), .val (.int v35)] [(.int v35), (.ref a12)])) rfl (by rw [hml]; rfl) (Steps.refl _) (argsL := [(.int v35)]) (rest := []) (lenOf pd_4 rfl) rfl (by show 2 * 0 + _ ≤ _; exact Nat.le_of_eq rfl) (hb hby at_101) (fun _ _ => ⟨rfl, e38, (by decide : 0 + 2 + 2 + 0 + 0 + 0 + 0 + 0 + 0 ≤ _), (by decide : 0 + (104 + 4) + (104 + 4) + 0 + 0 + 0 + 0 + 0 + 0 ≤ _)⟩)
      dsimp only [Pt.U, Pt.locs, Pt.cells, Pt.slots] at X39 l39 y39 z39 st39 hQ39
      subst l39 y39 z39
      obtain ⟨rfl, Nq39, e39⟩ := hQ39
      have N39 := Fr.app N38 Nq39
      refine GlW.st (g' := (mkF m 104 #[.val (.int p1), .val (.int p2), .val (.ref a11), .val (.ref a12), .val (.int v14), .val (.int v34), .val (.int (1 : Int32)), .val (.int v35)] [(.int (own_c (List.getD own_L v35.toNatClampNeg 0)))])) (fun t k => st39.trans k) ?_
      obtain ⟨_, _, ⟨T40, L40, k40, n40⟩, -, X40, ⟨Lc40, hQ40, l40, y40, z40⟩, st40⟩ := Jvm.LawKit.callS X39 hx (y := (⟨"com/example/outlier/outlier/http/FieldName", "toLowerCase", "(I)I"⟩ : MethodName)) hown (mvT hZ (hw _ (List.mem_of_getElem? (i := 9) rfl))) (mvT hZ (hw _ (List.mem_of_getElem? (i := 10) rfl))) (mvT hZ (hw _ (List.mem_of_getElem? (i := 11) rfl))) (mvT hZ (hw _ (List.mem_of_getElem? (i := 12) rfl))) (by decide) (backOf (W := 0) (rm6 l Z a0 hw (own_c (List.getD own_L v35.toNatClampNeg 0))  h12 n0 Z12 ) hZ (hw _ (List.mem_of_getElem? (i := 12) rfl)) (hw _ (List.mem_of_getElem? (i := 11) rfl)) (by decide) (by decide)) (g := (mkF m 104 #[.val (.int p1), .val (.int p2), .val (.ref a11), .val (.ref a12), .val (.int v14), .val (.int v34), .val (.int (1 : Int32)), .val (.int v35)] [(.int (own_c (List.getD own_L v35.toNatClampNeg 0)))])) rfl (by rw [hml]; rfl) (argsL := [(.int (own_c (List.getD own_L v35.toNatClampNeg 0)))]) (rest := []) (lenOf pd_5 rfl) rfl (by show 2 * 0 + _ ≤ _; exact Nat.le_of_eq rfl) (hb hby at_104) (fun _ _ => ⟨rfl, e39, (by decide : 0 + 2 + 2 + 0 + 0 + 0 + 0 + 0 + 0 + 0 ≤ _), (by decide : 0 + (104 + 4) + (104 + 4) + 0 + 0 + 0 + 0 + 0 + 0 + 0 ≤ _)⟩)
      dsimp only [Pt.U, Pt.locs, Pt.cells, Pt.slots] at X40 l40 y40 z40 st40 hQ40
      subst l40 y40 z40
      obtain ⟨rfl, Nq40, e40⟩ := hQ40
      have N40 := Fr.app N39 Nq40
      refine GlW.st (g' := (mkF m 107 #[.val (.int p1), .val (.int p2), .val (.ref a11), .val (.ref a12), .val (.int v14), .val (.int v34), .val (.int (1 : Int32)), .val (.int v35)] [(.int (own_lc (own_c (List.getD own_L v35.toNatClampNeg 0))))])) st40 ?_
      refine GlW.st (g' := (mkF m 108 #[.val (.int p1), .val (.int p2), .val (.ref a11), .val (.ref a12), .val (.int v14), .val (.int v34), .val (.int (1 : Int32)), .val (.int v35)] [(.ref a12), (.int (own_lc (own_c (List.getD own_L v35.toNatClampNeg 0))))])) (fun t k => XS.aloadN X40.here hx rfl (hb hby at_107) rfl rfl k) ?_
      refine GlW.st (g' := (mkF m 110 #[.val (.int p1), .val (.int p2), .val (.ref a11), .val (.ref a12), .val (.int v14), .val (.int v34), .val (.int (1 : Int32)), .val (.int v35)] [(.int v35), (.ref a12), (.int (own_lc (own_c (List.getD own_L v35.toNatClampNeg 0))))])) (fun t k => XS.iload X40.here hx rfl (hb hby at_108) rfl k) ?_
      obtain ⟨cq41, kq41, qa41, qb41, qc41⟩ := isOf hZ e40 EX12
      obtain ⟨_, _, ⟨T41, L41, k41, n41⟩, -, X41, ⟨Lc41, hQ41, l41, y41, z41⟩, st41⟩ := X40.virtualBack hx (y := (⟨"java/lang/String", "charAt", "(I)C"⟩ : MethodName)) (z := (⟨"java/lang/String", "charAt", "(I)C"⟩ : MethodName)) hown (mvT hZ (hw _ (List.mem_of_getElem? (i := 14) rfl))) (mvT hZ (hw _ (List.mem_of_getElem? (i := 15) rfl))) (notFace_of_selects (args := #[]) (mvT hZ (hw _ (List.mem_of_getElem? (i := 17) rfl)))) (mvT hZ (hw _ (List.mem_of_getElem? (i := 17) rfl))) (mvT hZ (hw _ (List.mem_of_getElem? (i := 16) rfl))) (by decide) (backOf (W := 1) (rm5 l Z a0 hw a12 v35 b12 kb12 (26 : Int32) own_L fm cs h12 n0 Z12 EX12 FC12 FV12 V12 hI SF12 hfm SC12 hcs) hZ (hw _ (List.mem_of_getElem? (i := 18) rfl)) (hw _ (List.mem_of_getElem? (i := 1) rfl)) (by decide) (by decide)) qa41 qc41 (g := (mkF m 110 #[.val (.int p1), .val (.int p2), .val (.ref a11), .val (.ref a12), .val (.int v14), .val (.int v34), .val (.int (1 : Int32)), .val (.int v35)] [(.int v35), (.ref a12), (.int (own_lc (own_c (List.getD own_L v35.toNatClampNeg 0))))])) rfl (by rw [hml]; rfl) (Steps.refl _) (argsL := [(.int v35)]) (rest := [(.int (own_lc (own_c (List.getD own_L v35.toNatClampNeg 0))))]) (lenOf pd_4 rfl) rfl (by show 2 * 0 + _ ≤ _; exact Nat.le_of_eq rfl) (hb hby at_110) (fun _ _ => ⟨rfl, e40, (by decide : 0 + 2 + 2 + 0 + 0 + 0 + 0 + 0 + 0 + 0 + 0 ≤ _), (by decide : 0 + (104 + 4) + (104 + 4) + 0 + 0 + 0 + 0 + 0 + 0 + 0 + 0 ≤ _)⟩)
      dsimp only [Pt.U, Pt.locs, Pt.cells, Pt.slots] at X41 l41 y41 z41 st41 hQ41
      subst l41 y41 z41
      obtain ⟨rfl, Nq41, e41⟩ := hQ41
      have N41 := Fr.app N40 Nq41
      refine GlW.st (g' := (mkF m 113 #[.val (.int p1), .val (.int p2), .val (.ref a11), .val (.ref a12), .val (.int v14), .val (.int v34), .val (.int (1 : Int32)), .val (.int v35)] [(.int (own_c (List.getD own_L v35.toNatClampNeg 0))), (.int (own_lc (own_c (List.getD own_L v35.toNatClampNeg 0))))])) (fun t k => st41.trans k) ?_
      refine GlW.st (g' := (mkF m 116 #[.val (.int p1), .val (.int p2), .val (.ref a11), .val (.ref a12), .val (.int v14), .val (.int v34), .val (.int (1 : Int32)), .val (.int v35)] [])) (fun t k => XS.icmpNo X41.here hx rfl (hb hby at_113) rfl (XT.ii_ne_f (own_dn hI)) k) ?_
      refine GlW.st (g' := (mkF m 117 #[.val (.int p1), .val (.int p2), .val (.ref a11), .val (.ref a12), .val (.int v14), .val (.int v34), .val (.int (1 : Int32)), .val (.int v35)] [(.int (1 : Int32))])) (fun t k => XT.iconstV X41.here hx rfl (1 : Int32) (hb hby at_116) rfl k) ?_
      refine GlW.st (g' := (mkF m 121 #[.val (.int p1), .val (.int p2), .val (.ref a11), .val (.ref a12), .val (.int v14), .val (.int v34), .val (.int (1 : Int32)), .val (.int v35)] [(.int (1 : Int32))])) (fun t k => XS.goto X41.here hx rfl (pc0 := 117) (pc' := 121) rfl (hb hby at_117) (by decide) (by decide) k) ?_
      refine GlW.st (g' := (mkF m 123 #[.val (.int p1), .val (.int p2), .val (.ref a11), .val (.ref a12), .val (.int v14), .val (.int v34), .val (.int (1 : Int32)), .val (.int v35)] [])) (fun t k => XS.istore X41.here hx rfl (hb hby at_121) rfl (l' := #[.val (.int p1), .val (.int p2), .val (.ref a11), .val (.ref a12), .val (.int v14), .val (.int v34), .val (.int (1 : Int32)), .val (.int v35)]) rfl k) ?_
      refine GlW.st (g' := (mkF m 125 #[.val (.int p1), .val (.int p2), .val (.ref a11), .val (.ref a12), .val (.int v14), .val (.int v34), .val (.int (1 : Int32)), .val (.int v35)] [(.int (1 : Int32))])) (fun t k => XS.iload X41.here hx rfl (hb hby at_123) rfl k) ?_
      refine GlW.st (g' := (mkF m 128 #[.val (.int p1), .val (.int p2), .val (.ref a11), .val (.ref a12), .val (.int v14), .val (.int v34), .val (.int (1 : Int32)), .val (.int v35)] [])) (fun t k => XS.ifNo X41.here hx rfl (hb hby at_125) rfl (XT.i0_eq_f (by decide)) k) ?_
      refine GlW.st (g' := (mkF m 130 #[.val (.int p1), .val (.int p2), .val (.ref a11), .val (.ref a12), .val (.int v14), .val (.int v34), .val (.int (1 : Int32)), .val (.int v35)] [(.int v14)])) (fun t k => XS.iload X41.here hx rfl (hb hby at_128) rfl k) ?_
      obtain ⟨_, _, ⟨T42, L42, k42, n42⟩, -, X42, ⟨Lc42, hQ42, l42, y42, z42⟩, st42⟩ := Jvm.LawKit.callS X41 hx (y := (⟨"com/example/outlier/outlier/http/FieldName", "toLowerCase", "(I)I"⟩ : MethodName)) hown (mvT hZ (hw _ (List.mem_of_getElem? (i := 9) rfl))) (mvT hZ (hw _ (List.mem_of_getElem? (i := 10) rfl))) (mvT hZ (hw _ (List.mem_of_getElem? (i := 11) rfl))) (mvT hZ (hw _ (List.mem_of_getElem? (i := 12) rfl))) (by decide) (backOf (W := 0) (rm6 l Z a0 hw v14  h12 n0 Z12 ) hZ (hw _ (List.mem_of_getElem? (i := 12) rfl)) (hw _ (List.mem_of_getElem? (i := 11) rfl)) (by decide) (by decide)) (g := (mkF m 130 #[.val (.int p1), .val (.int p2), .val (.ref a11), .val (.ref a12), .val (.int v14), .val (.int v34), .val (.int (1 : Int32)), .val (.int v35)] [(.int v14)])) rfl (by rw [hml]; rfl) (argsL := [(.int v14)]) (rest := []) (lenOf pd_5 rfl) rfl (by show 2 * 0 + _ ≤ _; exact Nat.le_of_eq rfl) (hb hby at_130) (fun _ _ => ⟨rfl, e41, (by decide : 0 + 2 + 2 + 0 + 0 + 0 + 0 + 0 + 0 + 0 + 0 + 0 ≤ _), (by decide : 0 + (104 + 4) + (104 + 4) + 0 + 0 + 0 + 0 + 0 + 0 + 0 + 0 + 0 ≤ _)⟩)
      dsimp only [Pt.U, Pt.locs, Pt.cells, Pt.slots] at X42 l42 y42 z42 st42 hQ42
      subst l42 y42 z42
      obtain ⟨rfl, Nq42, e42⟩ := hQ42
      have N42 := Fr.app N41 Nq42
      refine GlW.st (g' := (mkF m 133 #[.val (.int p1), .val (.int p2), .val (.ref a11), .val (.ref a12), .val (.int v14), .val (.int v34), .val (.int (1 : Int32)), .val (.int v35)] [(.int (own_lc v14))])) st42 ?_
      refine GlW.st (g' := (mkF m 135 #[.val (.int p1), .val (.int p2), .val (.ref a11), .val (.ref a12), .val (.int v14), .val (.int v34), .val (.int (1 : Int32)), .val (.int v35)] [(.int v14), (.int (own_lc v14))])) (fun t k => XS.iload X42.here hx rfl (hb hby at_133) rfl k) ?_
      refine GlW.st (g' := (mkF m 138 #[.val (.int p1), .val (.int p2), .val (.ref a11), .val (.ref a12), .val (.int v14), .val (.int v34), .val (.int (1 : Int32)), .val (.int v35)] [])) (fun t k => XS.icmpNo X42.here hx rfl (hb hby at_135) rfl (XT.ii_ne_f (own_id hv14)) k) ?_
      refine GlW.st (g' := (mkF m 139 #[.val (.int p1), .val (.int p2), .val (.ref a11), .val (.ref a12), .val (.int v14), .val (.int v34), .val (.int (1 : Int32)), .val (.int v35)] [(.int (1 : Int32))])) (fun t k => XT.iconstV X42.here hx rfl (1 : Int32) (hb hby at_138) rfl k) ?_
      refine GlW.st (g' := (mkF m 143 #[.val (.int p1), .val (.int p2), .val (.ref a11), .val (.ref a12), .val (.int v14), .val (.int v34), .val (.int (1 : Int32)), .val (.int v35)] [(.int (1 : Int32))])) (fun t k => XS.goto X42.here hx rfl (pc0 := 139) (pc' := 143) rfl (hb hby at_139) (by decide) (by decide) k) ?_
      refine GlW.st (g' := (mkF m 145 #[.val (.int p1), .val (.int p2), .val (.ref a11), .val (.ref a12), .val (.int v14), .val (.int v34), .val (.int (1 : Int32)), .val (.int v35)] [])) (fun t k => XS.istore X42.here hx rfl (hb hby at_143) rfl (l' := #[.val (.int p1), .val (.int p2), .val (.ref a11), .val (.ref a12), .val (.int v14), .val (.int v34), .val (.int (1 : Int32)), .val (.int v35)]) rfl k) ?_
      refine GlW.st (g' := (mkF m 147 #[.val (.int p1), .val (.int p2), .val (.ref a11), .val (.ref a12), .val (.int v14), .val (.int v34), .val (.int (1 : Int32)), .val (.int v35)] [(.int (1 : Int32))])) (fun t k => XS.iload X42.here hx rfl (hb hby at_145) rfl k) ?_
      refine GlW.retZ hS12 hk12 X42 hx hlk .boolean (by simp) Bd.returns (hb hby at_147) e42 (by decide) (by decide) ?_
      rw [Q0, own_z1]
      exact ⟨rfl, N42⟩
set_option maxRecDepth 65536 in
set_option maxHeartbeats 40000000 in
theorem comes_1 {Post : Tables → Env → Array Value → State → Outcome → State → Prop} (hpost : ∀ tb e args s v u, (limb_1_1.after args s (.returned v) u = true ∧ limb_1_2.after args s (.returned v) u = true ∧ True) → ReturnedEndW s (.returned v) u (Jvm.fieldLocs frame_1_writes args s ++ Jvm.arrayLocs frame_1_arrays args s ++ Jvm.staticLocs frame_1_statics s) 8 2112 → Post tb e args s (.returned v) u) :
    ArmFor flags0 classFile x code maxLocals ret World_1 tables_1 room_1 Calls_1 rest_1 Pre_1 Post := by
  intro l hfl _ _ p e ha hc hk s m args below hf hA hF happ hP
  obtain ⟨hcalls, hrest, hpre⟩ := hP
  obtain ⟨-, -, -, hnamed, -, -, -, hat⟩ := (Spec.applies_iff hf).mp happ
  obtain ⟨hg, hn⟩ := and_e (Cond.before_iff.mp (show (Jvm.Cond.and given_1 narrow_1).before args s = true from hpre))
  obtain ⟨hcount, hk1⟩ := and_e hg
  obtain ⟨hi1, hk2⟩ := and_e hk1
  obtain ⟨w0, w1, rfl⟩ : ∃ w0 w1 : Value, args = #[w0, w1] := by
    have hs : args.size = 2 := by simpa [Cond.value, given_1] using hcount
    obtain ⟨L⟩ := args
    match L, hs with
    | [w0, w1], _ => exact ⟨w0, w1, rfl⟩
  have hw := fun d (hd : d ∈ tables_1) => atoms_spec (ws := Jvm.Cond.code x code maxLocals ret :: tables_1) hat d (List.mem_cons_of_mem _ hd)
  obtain ⟨hsets, hown0⟩ := atoms_of _ (rest_1_c_eq ▸ (show rest_1_c.before _ s = true from hrest))
  obtain ⟨i0, q0⟩ := is_v hi1
  obtain rfl : w0 = (.int i0) := Option.some.inj q0
  obtain ⟨i1, q1⟩ := is_v hk2
  obtain rfl : w1 = (.int i1) := Option.some.inj q1
  have hcw := hsets _ (List.mem_of_getElem? (i := 2) rfl)
  have n5 := not_v (Cond.before_iff.mp hcw)
  obtain ⟨i11, e10⟩ := is_v (Cond.before_iff.mp (hsets _ (List.mem_of_getElem? (i := 1) rfl)))
  have S12 : Sta s s.heap "java/lang/String" "COMPACT_STRINGS" "Z" (.int i11) := Sta.start e10 (Or.inl (hsets _ (List.mem_of_getElem? (i := 0) rfl)))
  obtain ⟨v13, e14, r15⟩ := isR_v (Cond.before_iff.mp (hsets _ (List.mem_of_getElem? (i := 8) rfl)))
  have S16 : Sta s s.heap "jdk/internal/util/Preconditions" "SIOOBE_FORMATTER" "Ljava/util/function/BiFunction;" v13 := Sta.start e14 (Or.inl (hsets _ (List.mem_of_getElem? (i := 7) rfl)))
  have c17 : ¬ (i11 = (0 : Int32)) := gotF (Cond.eq_ints e10 (Term.int_eval (0))) n5
  have hh7 : Jvm.Lit.constHeld s "com/example/outlier/outlier/http/FieldNameToLowerCasePinLaw" 7 := hcalls.1 ("com/example/outlier/outlier/http/FieldNameToLowerCasePinLaw", 7) (List.mem_of_getElem? (i := 0) rfl)
  have hh9 : Jvm.Lit.constHeld s "com/example/outlier/outlier/http/FieldNameToLowerCasePinLaw" 9 := hcalls.1 ("com/example/outlier/outlier/http/FieldNameToLowerCasePinLaw", 9) (List.mem_of_getElem? (i := 1) rfl)
  obtain ⟨n, o, h1, h2, h3, _, L, rfl, ⟨rfl, N⟩, hq⟩ := rm0 l s _ hw tables_1 i0 i1 i11 v13 s.heap.size rfl hh7 hh9 hcw S12 c17 S16 r15 p e ha hc hk s m _ below hf ((Spec.applies_iff_loose hf).mp happ).1 ⟨rfl, rfl⟩ trivial
  refine ⟨n, _, h1, h2, h3, hpost _ _ _ _ _ _ ⟨Cond.after_iff.mpr rfl, Cond.after_iff.mpr (eq_i res_at (Term.int_eval (1)) rfl), trivial⟩ ⟨hq.1, hq.2.1, hq.2.2.1, (hq.2.2.2.sift fun y hy => Or.inr (N y hy)).mono (by decide) (by decide)⟩⟩
theorem main_1_1 : Claimed_1_1 := comes_1 fun _ _ _ _ _ _ h hF => ⟨h.1, hF⟩
theorem main_1_2 : Claimed_1_2 := comes_1 fun _ _ _ _ _ _ h hF => ⟨h.2.1, hF⟩
end Jvm.Pilot.@@N@@
namespace Jvm.Pilot.@@N@@
open Jvm Jvm.ClassFile Sem Op Lib Jvm.Free Jvm.Stand Jvm.Pilot.@@N@@.Jvm.D
/-! MADE BY PROGRAM (witnessworld.py) out of the Statement's table words and the real class files: 18 classes; the members and pool entries that the words name. The judged class is class 1, her method 1. -/
namespace start1
open Jvm.ClassFile
def u (s : String) : CpInfo := .utf8 (stringToUtf16 s)
/-- a pool by its gaps: so many unusable entries, then the entry; so many at the end -/
def gap : Nat → List CpInfo → List CpInfo
  | 0, r => r
  | n + 1, r => .unusable :: gap n r
def poolList (es : List (Nat × CpInfo)) (last : Nat) : List CpInfo := es.foldr (fun e r => gap e.1 (e.2 :: r)) (gap last [])
def pool (es : List (Nat × CpInfo)) (last : Nat) : Array CpInfo := ⟨poolList es last⟩
def fileOf (pool : Array CpInfo) (this : Nat) (attrs : Array Attribute := #[]) (ms : Array MethodInfo := #[]) (fl : Nat := 33) (sup : Nat := 0) (ifs : Array Nat := #[]) (fds : Array FieldInfo := #[]) : ClassFile where
  minorVersion := 0
  majorVersion := 65
  constantPool := pool
  accessFlags := fl
  thisClass := this
  superClass := sup
  interfaces := ifs
  fields := fds
  methods := ms
  attributes := attrs
def plain (name : String) (sup : Option ClassId) : Class where
  name := name
  kind := .ordinary
  loader := none
  accessFlags := 33
  super := sup
  interfaces := #[]
  cf := none
  fields := #[]
  methods := #[]
  instanceTypes := #[]
  staticTypes := #[]
  resolved := #[]
  callSites := []
  init := .initialized
  statics := none
  mirror := none

def pool0 : Array CpInfo := pool [(5, u "<init>"), (0, u "()V"), (1, .class_ 10), (1, u "java/lang/Object")] 113

def k0m0 : Method := { name := "<init>", desc := "()V", sig := { parameters := [], returnType := none }, accessFlags := 1, code := none }
/-- java/lang/Object -/
def k0 : Class := { plain "java/lang/Object" none with
  accessFlags := 33
  interfaces := #[]
  cf := some (fileOf pool0 8 #[] #[{ accessFlags := 1, nameIndex := 5, descriptorIndex := 6, attributes := #[] }] 33 0 #[] #[])
  fields := #[]
  methods := #[k0m0]
  instanceTypes := #[]
  staticTypes := #[]
  resolved := Array.replicate 124 none
  statics := none }

def pool1 : Array CpInfo := pool [(2, .class_ 4), (1, u "java/lang/Object"), (0, u "<init>"), (0, u "()V"), (0, .string 8), (0, u "ABCDEFGHIJKLMNOPQRSTUVWXYZ"), (0, .string 10), (0, u "abcdefghijklmnopqrstuvwxyz"), (0, .methodref 12 13), (0, .class_ 14), (0, .nameAndType 15 16), (0, u "com/example/outlier/outlier/http/FieldName"), (0, u "toLowerCase"), (0, u "(I)I"), (0, .methodref 18 19), (0, .class_ 20), (0, .nameAndType 21 22), (0, u "java/lang/String"), (0, u "charAt"), (0, u "(I)C"), (0, .integer 2147483647), (0, .class_ 25), (0, u "com/example/outlier/outlier/http/FieldNameToLowerCasePinLaw"), (2, u "law"), (0, u "(II)Z")] 3

def k1m0 : Method := { name := "<init>", desc := "()V", sig := { parameters := [], returnType := none }, accessFlags := 1, code := none }
def k1c1 : Code := { maxStack := 3, maxLocals := 8, code := code, exceptionTable := #[], attributes := #[] }
def k1m1 : Method := { name := "law", desc := "(II)Z", sig := { parameters := [.int, .int], returnType := some .boolean }, accessFlags := 9, code := some k1c1 }
/-- com/example/outlier/outlier/http/FieldNameToLowerCasePinLaw -/
def k1 : Class := { plain "com/example/outlier/outlier/http/FieldNameToLowerCasePinLaw" (some 0) with
  accessFlags := 49
  interfaces := #[]
  cf := some (fileOf pool1 24 #[] #[{ accessFlags := 1, nameIndex := 5, descriptorIndex := 6, attributes := #[] }, { accessFlags := 9, nameIndex := 28, descriptorIndex := 29, attributes := #[] }] 49 2 #[] #[])
  fields := #[]
  methods := #[k1m0, k1m1]
  instanceTypes := #[]
  staticTypes := #[]
  resolved := Array.replicate 33 none
  statics := none }

def pool2 : Array CpInfo := pool [(1, .class_ 2), (0, u "java/io/Serializable"), (0, .class_ 4), (0, u "java/lang/Object")] 2

/-- java/io/Serializable -/
def k2 : Class := { plain "java/io/Serializable" (some 0) with
  accessFlags := 1537
  interfaces := #[]
  cf := some (fileOf pool2 1 #[] #[] 1537 3 #[] #[])
  fields := #[]
  methods := #[]
  instanceTypes := #[]
  staticTypes := #[]
  resolved := Array.replicate 7 none
  statics := none }

def pool3 : Array CpInfo := pool [(1, .class_ 2), (0, u "java/lang/Comparable"), (0, .class_ 4), (0, u "java/lang/Object")] 7

/-- java/lang/Comparable -/
def k3 : Class := { plain "java/lang/Comparable" (some 0) with
  accessFlags := 1537
  interfaces := #[]
  cf := some (fileOf pool3 1 #[] #[] 1537 3 #[] #[])
  fields := #[]
  methods := #[]
  instanceTypes := #[]
  staticTypes := #[]
  resolved := Array.replicate 12 none
  statics := none }

def pool4 : Array CpInfo := pool [(2, .class_ 4), (1, u "java/lang/CharSequence"), (42, .class_ 48), (0, u "java/lang/CharSequence$1CodePointIterator"), (10, .class_ 60), (0, u "java/lang/CharSequence$1CharIterator"), (5, .class_ 67), (0, u "java/lang/Object")] 63

/-- java/lang/CharSequence -/
def k4 : Class := { plain "java/lang/CharSequence" (some 0) with
  accessFlags := 1537
  interfaces := #[]
  cf := some (fileOf pool4 2 #[.nestMembers #[47, 59]] #[] 1537 66 #[] #[])
  fields := #[]
  methods := #[]
  instanceTypes := #[]
  staticTypes := #[]
  resolved := Array.replicate 131 none
  statics := none }

def pool5 : Array CpInfo := pool [(1, .class_ 2), (0, u "java/lang/constant/Constable"), (0, .class_ 4), (0, u "java/lang/Object")] 6

/-- java/lang/constant/Constable -/
def k5 : Class := { plain "java/lang/constant/Constable" (some 0) with
  accessFlags := 1537
  interfaces := #[]
  cf := some (fileOf pool5 1 #[] #[] 1537 3 #[] #[])
  fields := #[]
  methods := #[]
  instanceTypes := #[]
  staticTypes := #[]
  resolved := Array.replicate 11 none
  statics := none }

def pool6 : Array CpInfo := pool [(1, .class_ 2), (0, u "java/lang/constant/ConstantDesc"), (0, .class_ 4), (0, u "java/lang/Object")] 32

/-- java/lang/constant/ConstantDesc -/
def k6 : Class := { plain "java/lang/constant/ConstantDesc" (some 0) with
  accessFlags := 1537
  interfaces := #[]
  cf := some (fileOf pool6 1 #[] #[] 1537 3 #[] #[])
  fields := #[]
  methods := #[]
  instanceTypes := #[]
  staticTypes := #[]
  resolved := Array.replicate 37 none
  statics := none }

def pool7 : Array CpInfo := pool [(2, .class_ 4), (1, u "java/lang/Object"), (0, u "<init>"), (0, u "()V"), (2, .fieldref 10 11), (0, .class_ 12), (0, .nameAndType 13 14), (0, u "java/lang/String"), (0, u "value"), (0, u "[B"), (0, .fieldref 10 16), (0, .nameAndType 17 18), (0, u "coder"), (0, u "B"), (2, u "hash"), (0, u "I"), (2, u "hashIsZero"), (0, u "Z"), (11, .fieldref 10 39), (0, .nameAndType 40 26), (0, u "COMPACT_STRINGS"), (66, .class_ 109), (1, u "java/lang/StringLatin1"), (32, u "()Z"), (220, u "([BI)C"), (27, u "(II)V"), (35, u "(I)C"), (64, .methodref 10 493), (0, .nameAndType 494 142), (0, u "isLatin1"), (0, .methodref 107 496), (0, .nameAndType 497 363), (0, u "charAt"), (3, u "checkIndex"), (73, .class_ 576), (0, u "java/lang/CharSequence"), (22, u "CASE_INSENSITIVE_ORDER"), (0, u "Ljava/util/Comparator;"), (452, .fieldref 1054 1055), (0, .class_ 1056), (0, .nameAndType 1057 1058), (0, u "jdk/internal/util/Preconditions"), (0, u "SIOOBE_FORMATTER"), (0, u "Ljava/util/function/BiFunction;"), (0, .methodref 1054 1060), (0, .nameAndType 501 1061), (0, u "(IILjava/util/function/BiFunction;)I"), (39, u "serialPersistentFields"), (0, u "[Ljava/io/ObjectStreamField;"), (0, .class_ 1104), (0, u "java/lang/String$CaseInsensitiveComparator"), (1, .class_ 1107), (0, u "java/io/Serializable"), (0, .class_ 1109), (0, u "java/lang/Comparable"), (0, .class_ 1111), (0, u "java/lang/constant/Constable"), (0, .class_ 1113), (0, u "java/lang/constant/ConstantDesc"), (2, u "serialVersionUID"), (0, u "J"), (3, u "REPL"), (0, u "C"), (2, u "LATIN1"), (1, u "UTF16")] 323

def k7m0 : Method := { name := "<init>", desc := "()V", sig := { parameters := [], returnType := none }, accessFlags := 1, code := none }
def k7c1 : Code := { maxStack := 2, maxLocals := 2, code := jdk_42_method_56_code, exceptionTable := #[], attributes := #[] }
def k7m1 : Method := { name := "charAt", desc := "(I)C", sig := { parameters := [.int], returnType := some .char }, accessFlags := 1, code := some k7c1 }
def k7c2 : Code := { maxStack := 1, maxLocals := 1, code := jdk_42_method_154_code, exceptionTable := #[], attributes := #[] }
def k7m2 : Method := { name := "isLatin1", desc := "()Z", sig := { parameters := [], returnType := some .boolean }, accessFlags := 0, code := some k7c2 }
def k7c3 : Code := { maxStack := 3, maxLocals := 2, code := jdk_42_method_155_code, exceptionTable := #[], attributes := #[] }
def k7m3 : Method := { name := "checkIndex", desc := "(II)V", sig := { parameters := [.int, .int], returnType := none }, accessFlags := 8, code := some k7c3 }
/-- java/lang/String -/
def k7 : Class := { plain "java/lang/String" (some 0) with
  accessFlags := 49
  interfaces := #[2, 3, 4, 5, 6]
  cf := some (fileOf pool7 10 #[.nestMembers #[1103]] #[{ accessFlags := 1, nameIndex := 5, descriptorIndex := 6, attributes := #[] }, { accessFlags := 1, nameIndex := 497, descriptorIndex := 427, attributes := #[] }, { accessFlags := 0, nameIndex := 494, descriptorIndex := 142, attributes := #[] }, { accessFlags := 8, nameIndex := 501, descriptorIndex := 391, attributes := #[] }] 49 2 #[1106, 1108, 575, 1110, 1112] #[{ accessFlags := 18, nameIndex := 13, descriptorIndex := 14, attributes := #[] }, { accessFlags := 18, nameIndex := 17, descriptorIndex := 18, attributes := #[] }, { accessFlags := 2, nameIndex := 21, descriptorIndex := 22, attributes := #[] }, { accessFlags := 2, nameIndex := 25, descriptorIndex := 26, attributes := #[] }, { accessFlags := 26, nameIndex := 1116, descriptorIndex := 1117, attributes := #[] }, { accessFlags := 24, nameIndex := 40, descriptorIndex := 26, attributes := #[] }, { accessFlags := 26, nameIndex := 1101, descriptorIndex := 1102, attributes := #[] }, { accessFlags := 26, nameIndex := 1121, descriptorIndex := 1122, attributes := #[] }, { accessFlags := 25, nameIndex := 599, descriptorIndex := 600, attributes := #[] }, { accessFlags := 24, nameIndex := 1125, descriptorIndex := 18, attributes := #[] }, { accessFlags := 24, nameIndex := 1127, descriptorIndex := 18, attributes := #[] }])
  fields := #[{ name := "value", type := (.array .byte), accessFlags := 18, slot := 0, constantValue := 0 }, { name := "coder", type := .byte, accessFlags := 18, slot := 1, constantValue := 0 }, { name := "hash", type := .int, accessFlags := 2, slot := 2, constantValue := 0 }, { name := "hashIsZero", type := .boolean, accessFlags := 2, slot := 3, constantValue := 0 }, { name := "serialVersionUID", type := .long, accessFlags := 26, slot := 0, constantValue := 0 }, { name := "COMPACT_STRINGS", type := .boolean, accessFlags := 24, slot := 1, constantValue := 0 }, { name := "serialPersistentFields", type := (.array (.object "java/io/ObjectStreamField")), accessFlags := 26, slot := 2, constantValue := 0 }, { name := "REPL", type := .char, accessFlags := 26, slot := 3, constantValue := 0 }, { name := "CASE_INSENSITIVE_ORDER", type := (.object "java/util/Comparator"), accessFlags := 25, slot := 4, constantValue := 0 }, { name := "LATIN1", type := .byte, accessFlags := 24, slot := 5, constantValue := 0 }, { name := "UTF16", type := .byte, accessFlags := 24, slot := 6, constantValue := 0 }]
  methods := #[k7m0, k7m1, k7m2, k7m3]
  instanceTypes := #[(.array .byte), .byte, .int, .boolean]
  staticTypes := #[.long, .boolean, (.array (.object "java/io/ObjectStreamField")), .char, (.object "java/util/Comparator"), .byte, .byte]
  resolved := Array.replicate 1451 none
  statics := some 0 }

def pool8 : Array CpInfo := pool [(2, .class_ 4), (1, u "java/lang/Enum"), (0, u "name"), (0, u "Ljava/lang/String;"), (2, u "ordinal"), (0, u "I"), (1, .class_ 14), (1, u "java/lang/Object"), (4, u "hash"), (86, .class_ 108), (1, u "java/lang/Enum$EnumDesc"), (2, .class_ 112), (0, u "java/lang/constant/Constable"), (0, .class_ 114), (0, u "java/lang/Comparable"), (0, .class_ 116), (0, u "java/io/Serializable")] 87

/-- java/lang/Enum -/
def k8 : Class := { plain "java/lang/Enum" (some 0) with
  accessFlags := 1057
  interfaces := #[5, 3, 2]
  cf := some (fileOf pool8 2 #[.nestMembers #[106]] #[] 1057 12 #[111, 113, 115] #[{ accessFlags := 18, nameIndex := 5, descriptorIndex := 6, attributes := #[] }, { accessFlags := 18, nameIndex := 9, descriptorIndex := 10, attributes := #[] }, { accessFlags := 2, nameIndex := 19, descriptorIndex := 10, attributes := #[] }])
  fields := #[{ name := "name", type := (.object "java/lang/String"), accessFlags := 18, slot := 0, constantValue := 0 }, { name := "ordinal", type := .int, accessFlags := 18, slot := 1, constantValue := 0 }, { name := "hash", type := .int, accessFlags := 2, slot := 2, constantValue := 0 }]
  methods := #[]
  instanceTypes := #[(.object "java/lang/String"), .int, .int]
  staticTypes := #[]
  resolved := Array.replicate 204 none
  statics := none }

def pool9 : Array CpInfo := pool [(1, .class_ 2), (0, u "com/example/outlier/outlier/http/FieldName"), (2, u "HOST"), (0, u "Lcom/example/outlier/outlier/http/FieldName;"), (2, u "CONTENT_LENGTH"), (2, u "TRANSFER_ENCODING"), (2, u "CONNECTION"), (2, u "KEEP_ALIVE"), (2, u "PROXY_CONNECTION"), (2, u "TE"), (2, u "TRAILER"), (2, u "UPGRADE"), (2, u "$VALUES"), (0, u "[Lcom/example/outlier/outlier/http/FieldName;"), (6, .class_ 43), (1, u "java/lang/Enum"), (8, u "lowerCase"), (0, u "Ljava/lang/String;"), (14, u "bytes"), (0, u "[B"), (2, u "hopByHop"), (0, u "Z"), (25, u "BY_LENGTH"), (0, u "[[Lcom/example/outlier/outlier/http/FieldName;"), (6, u "toLowerCase"), (0, u "(I)I")] 61

def k9c0 : Code := { maxStack := 2, maxLocals := 1, code := prog_64_method_10_code, exceptionTable := #[], attributes := #[] }
def k9m0 : Method := { name := "toLowerCase", desc := "(I)I", sig := { parameters := [.int], returnType := some .int }, accessFlags := 8, code := some k9c0 }
/-- com/example/outlier/outlier/http/FieldName -/
def k9 : Class := { plain "com/example/outlier/outlier/http/FieldName" (some 8) with
  accessFlags := 16433
  interfaces := #[]
  cf := some (fileOf pool9 1 #[] #[{ accessFlags := 8, nameIndex := 107, descriptorIndex := 108, attributes := #[] }] 16433 41 #[] #[{ accessFlags := 16409, nameIndex := 5, descriptorIndex := 6, attributes := #[] }, { accessFlags := 16409, nameIndex := 9, descriptorIndex := 6, attributes := #[] }, { accessFlags := 16409, nameIndex := 12, descriptorIndex := 6, attributes := #[] }, { accessFlags := 16409, nameIndex := 15, descriptorIndex := 6, attributes := #[] }, { accessFlags := 16409, nameIndex := 18, descriptorIndex := 6, attributes := #[] }, { accessFlags := 16409, nameIndex := 21, descriptorIndex := 6, attributes := #[] }, { accessFlags := 16409, nameIndex := 24, descriptorIndex := 6, attributes := #[] }, { accessFlags := 16409, nameIndex := 27, descriptorIndex := 6, attributes := #[] }, { accessFlags := 16409, nameIndex := 30, descriptorIndex := 6, attributes := #[] }, { accessFlags := 26, nameIndex := 99, descriptorIndex := 100, attributes := #[] }, { accessFlags := 18, nameIndex := 52, descriptorIndex := 53, attributes := #[] }, { accessFlags := 18, nameIndex := 68, descriptorIndex := 69, attributes := #[] }, { accessFlags := 18, nameIndex := 72, descriptorIndex := 73, attributes := #[] }, { accessFlags := 4122, nameIndex := 33, descriptorIndex := 34, attributes := #[] }])
  fields := #[{ name := "HOST", type := (.object "com/example/outlier/outlier/http/FieldName"), accessFlags := 16409, slot := 0, constantValue := 0 }, { name := "CONTENT_LENGTH", type := (.object "com/example/outlier/outlier/http/FieldName"), accessFlags := 16409, slot := 1, constantValue := 0 }, { name := "TRANSFER_ENCODING", type := (.object "com/example/outlier/outlier/http/FieldName"), accessFlags := 16409, slot := 2, constantValue := 0 }, { name := "CONNECTION", type := (.object "com/example/outlier/outlier/http/FieldName"), accessFlags := 16409, slot := 3, constantValue := 0 }, { name := "KEEP_ALIVE", type := (.object "com/example/outlier/outlier/http/FieldName"), accessFlags := 16409, slot := 4, constantValue := 0 }, { name := "PROXY_CONNECTION", type := (.object "com/example/outlier/outlier/http/FieldName"), accessFlags := 16409, slot := 5, constantValue := 0 }, { name := "TE", type := (.object "com/example/outlier/outlier/http/FieldName"), accessFlags := 16409, slot := 6, constantValue := 0 }, { name := "TRAILER", type := (.object "com/example/outlier/outlier/http/FieldName"), accessFlags := 16409, slot := 7, constantValue := 0 }, { name := "UPGRADE", type := (.object "com/example/outlier/outlier/http/FieldName"), accessFlags := 16409, slot := 8, constantValue := 0 }, { name := "BY_LENGTH", type := (.array (.array (.object "com/example/outlier/outlier/http/FieldName"))), accessFlags := 26, slot := 9, constantValue := 0 }, { name := "lowerCase", type := (.object "java/lang/String"), accessFlags := 18, slot := 3, constantValue := 0 }, { name := "bytes", type := (.array .byte), accessFlags := 18, slot := 4, constantValue := 0 }, { name := "hopByHop", type := .boolean, accessFlags := 18, slot := 5, constantValue := 0 }, { name := "$VALUES", type := (.array (.object "com/example/outlier/outlier/http/FieldName")), accessFlags := 4122, slot := 10, constantValue := 0 }]
  methods := #[k9m0]
  instanceTypes := #[(.object "java/lang/String"), .int, .int, (.object "java/lang/String"), (.array .byte), .boolean]
  staticTypes := #[(.object "com/example/outlier/outlier/http/FieldName"), (.object "com/example/outlier/outlier/http/FieldName"), (.object "com/example/outlier/outlier/http/FieldName"), (.object "com/example/outlier/outlier/http/FieldName"), (.object "com/example/outlier/outlier/http/FieldName"), (.object "com/example/outlier/outlier/http/FieldName"), (.object "com/example/outlier/outlier/http/FieldName"), (.object "com/example/outlier/outlier/http/FieldName"), (.object "com/example/outlier/outlier/http/FieldName"), (.array (.array (.object "com/example/outlier/outlier/http/FieldName"))), (.array (.object "com/example/outlier/outlier/http/FieldName"))]
  resolved := Array.replicate 170 none
  statics := none }

def pool10 : Array CpInfo := pool [(1, .class_ 2), (0, u "java/lang/String"), (1, .class_ 6), (1, u "java/lang/Object"), (0, u "<init>"), (0, u "()V"), (0, .methodref 1 10), (0, .nameAndType 11 12), (0, u "checkIndex"), (0, u "(II)V"), (1, .class_ 16), (1, u "java/lang/StringLatin1"), (36, u "([BI)C"), (67, u "$assertionsDisabled"), (0, u "Z"), (98, .class_ 223), (1, u "java/lang/StringLatin1$LinesSpliterator"), (28, u "charAt"), (137, .class_ 391), (0, u "java/lang/StringLatin1$CharsSpliterator")] 3

def k10m0 : Method := { name := "<init>", desc := "()V", sig := { parameters := [], returnType := none }, accessFlags := 0, code := none }
def k10c1 : Code := { maxStack := 2, maxLocals := 2, code := jdk_43_method_2_code, exceptionTable := #[], attributes := #[] }
def k10m1 : Method := { name := "charAt", desc := "([BI)C", sig := { parameters := [(.array .byte), .int], returnType := some .char }, accessFlags := 9, code := some k10c1 }
/-- java/lang/StringLatin1 -/
def k10 : Class := { plain "java/lang/StringLatin1" (some 0) with
  accessFlags := 48
  interfaces := #[]
  cf := some (fileOf pool10 14 #[.nestMembers #[390, 221]] #[{ accessFlags := 0, nameIndex := 7, descriptorIndex := 8, attributes := #[] }, { accessFlags := 9, nameIndex := 252, descriptorIndex := 53, attributes := #[] }] 48 4 #[] #[{ accessFlags := 4120, nameIndex := 121, descriptorIndex := 122, attributes := #[] }])
  fields := #[{ name := "$assertionsDisabled", type := .boolean, accessFlags := 4120, slot := 0, constantValue := 0 }]
  methods := #[k10m0, k10m1]
  instanceTypes := #[]
  staticTypes := #[.boolean]
  resolved := Array.replicate 395 none
  statics := none }

def pool11 : Array CpInfo := pool [(2, .class_ 4), (1, u "java/lang/Object"), (0, u "<init>"), (0, u "()V"), (17, .class_ 26), (1, u "jdk/internal/util/Preconditions"), (6, u "checkIndex"), (21, .class_ 56), (0, u "jdk/internal/util/Preconditions$4"), (57, .class_ 115), (0, u "jdk/internal/util/Preconditions$1"), (7, u "SIOOBE_FORMATTER"), (0, u "Ljava/util/function/BiFunction;"), (0, .class_ 126), (0, u "jdk/internal/util/Preconditions$2"), (3, u "AIOOBE_FORMATTER"), (0, .class_ 132), (0, u "jdk/internal/util/Preconditions$3"), (3, u "IOOBE_FORMATTER"), (41, u "(IILjava/util/function/BiFunction;)I")] 15

def k11m0 : Method := { name := "<init>", desc := "()V", sig := { parameters := [], returnType := none }, accessFlags := 1, code := none }
def k11c1 : Code := { maxStack := 3, maxLocals := 3, code := jdk_41_method_11_code, exceptionTable := #[], attributes := #[] }
def k11m1 : Method := { name := "checkIndex", desc := "(IILjava/util/function/BiFunction;)I", sig := { parameters := [.int, .int, (.object "java/util/function/BiFunction")], returnType := some .int }, accessFlags := 9, code := some k11c1 }
/-- jdk/internal/util/Preconditions -/
def k11 : Class := { plain "jdk/internal/util/Preconditions" (some 0) with
  accessFlags := 33
  interfaces := #[]
  cf := some (fileOf pool11 24 #[.nestMembers #[55, 131, 125, 114]] #[{ accessFlags := 1, nameIndex := 5, descriptorIndex := 6, attributes := #[] }, { accessFlags := 9, nameIndex := 33, descriptorIndex := 178, attributes := #[] }] 33 2 #[] #[{ accessFlags := 25, nameIndex := 123, descriptorIndex := 124, attributes := #[] }, { accessFlags := 25, nameIndex := 130, descriptorIndex := 124, attributes := #[] }, { accessFlags := 25, nameIndex := 136, descriptorIndex := 124, attributes := #[] }])
  fields := #[{ name := "SIOOBE_FORMATTER", type := (.object "java/util/function/BiFunction"), accessFlags := 25, slot := 0, constantValue := 0 }, { name := "AIOOBE_FORMATTER", type := (.object "java/util/function/BiFunction"), accessFlags := 25, slot := 1, constantValue := 0 }, { name := "IOOBE_FORMATTER", type := (.object "java/util/function/BiFunction"), accessFlags := 25, slot := 2, constantValue := 0 }]
  methods := #[k11m0, k11m1]
  instanceTypes := #[]
  staticTypes := #[(.object "java/util/function/BiFunction"), (.object "java/util/function/BiFunction"), (.object "java/util/function/BiFunction")]
  resolved := Array.replicate 194 none
  statics := some 1 }

def pool12 : Array CpInfo := pool [(9, u "<init>"), (6, .class_ 18), (1, u "java/lang/Object"), (0, u "()V"), (1, .class_ 23), (1, u "jdk/internal/util/ArraysSupport"), (0, u "LOG2_ARRAY_LONG_INDEX_SCALE"), (0, u "I"), (2, u "U"), (0, u "Ljdk/internal/misc/Unsafe;"), (8, u "BIG_ENDIAN"), (0, u "Z"), (8, u "LOG2_BYTE_BIT_SIZE"), (4, u "LOG2_ARRAY_INT_INDEX_SCALE"), (54, u "JLA"), (0, u "Ljdk/internal/access/JavaLangAccess;"), (11, u "LOG2_ARRAY_BOOLEAN_INDEX_SCALE"), (9, u "LOG2_ARRAY_BYTE_INDEX_SCALE"), (5, u "LOG2_ARRAY_CHAR_INDEX_SCALE"), (5, u "LOG2_ARRAY_SHORT_INDEX_SCALE"), (18, u "LOG2_ARRAY_FLOAT_INDEX_SCALE"), (24, u "LOG2_ARRAY_DOUBLE_INDEX_SCALE"), (89, u "T_BOOLEAN"), (2, u "T_CHAR"), (1, u "T_FLOAT"), (1, u "T_DOUBLE"), (1, u "T_BYTE"), (1, u "T_SHORT"), (1, u "T_INT"), (1, u "T_LONG"), (1, u "SOFT_MAX_ARRAY_LENGTH")] 83

def k12m0 : Method := { name := "<init>", desc := "()V", sig := { parameters := [], returnType := none }, accessFlags := 2, code := none }
/-- jdk/internal/util/ArraysSupport -/
def k12 : Class := { plain "jdk/internal/util/ArraysSupport" (some 0) with
  accessFlags := 33
  interfaces := #[]
  cf := some (fileOf pool12 21 #[] #[{ accessFlags := 2, nameIndex := 9, descriptorIndex := 19, attributes := #[] }] 33 16 #[] #[{ accessFlags := 24, nameIndex := 28, descriptorIndex := 29, attributes := #[] }, { accessFlags := 26, nameIndex := 38, descriptorIndex := 39, attributes := #[] }, { accessFlags := 25, nameIndex := 121, descriptorIndex := 25, attributes := #[] }, { accessFlags := 25, nameIndex := 131, descriptorIndex := 25, attributes := #[] }, { accessFlags := 25, nameIndex := 137, descriptorIndex := 25, attributes := #[] }, { accessFlags := 25, nameIndex := 143, descriptorIndex := 25, attributes := #[] }, { accessFlags := 25, nameIndex := 53, descriptorIndex := 25, attributes := #[] }, { accessFlags := 25, nameIndex := 24, descriptorIndex := 25, attributes := #[] }, { accessFlags := 25, nameIndex := 162, descriptorIndex := 25, attributes := #[] }, { accessFlags := 25, nameIndex := 187, descriptorIndex := 25, attributes := #[] }, { accessFlags := 26, nameIndex := 48, descriptorIndex := 25, attributes := #[] }, { accessFlags := 25, nameIndex := 277, descriptorIndex := 25, attributes := #[] }, { accessFlags := 25, nameIndex := 280, descriptorIndex := 25, attributes := #[] }, { accessFlags := 25, nameIndex := 282, descriptorIndex := 25, attributes := #[] }, { accessFlags := 25, nameIndex := 284, descriptorIndex := 25, attributes := #[] }, { accessFlags := 25, nameIndex := 286, descriptorIndex := 25, attributes := #[] }, { accessFlags := 25, nameIndex := 288, descriptorIndex := 25, attributes := #[] }, { accessFlags := 25, nameIndex := 290, descriptorIndex := 25, attributes := #[] }, { accessFlags := 25, nameIndex := 292, descriptorIndex := 25, attributes := #[] }, { accessFlags := 26, nameIndex := 108, descriptorIndex := 109, attributes := #[] }, { accessFlags := 25, nameIndex := 294, descriptorIndex := 25, attributes := #[] }])
  fields := #[{ name := "U", type := (.object "jdk/internal/misc/Unsafe"), accessFlags := 24, slot := 0, constantValue := 0 }, { name := "BIG_ENDIAN", type := .boolean, accessFlags := 26, slot := 1, constantValue := 0 }, { name := "LOG2_ARRAY_BOOLEAN_INDEX_SCALE", type := .int, accessFlags := 25, slot := 2, constantValue := 0 }, { name := "LOG2_ARRAY_BYTE_INDEX_SCALE", type := .int, accessFlags := 25, slot := 3, constantValue := 0 }, { name := "LOG2_ARRAY_CHAR_INDEX_SCALE", type := .int, accessFlags := 25, slot := 4, constantValue := 0 }, { name := "LOG2_ARRAY_SHORT_INDEX_SCALE", type := .int, accessFlags := 25, slot := 5, constantValue := 0 }, { name := "LOG2_ARRAY_INT_INDEX_SCALE", type := .int, accessFlags := 25, slot := 6, constantValue := 0 }, { name := "LOG2_ARRAY_LONG_INDEX_SCALE", type := .int, accessFlags := 25, slot := 7, constantValue := 0 }, { name := "LOG2_ARRAY_FLOAT_INDEX_SCALE", type := .int, accessFlags := 25, slot := 8, constantValue := 0 }, { name := "LOG2_ARRAY_DOUBLE_INDEX_SCALE", type := .int, accessFlags := 25, slot := 9, constantValue := 0 }, { name := "LOG2_BYTE_BIT_SIZE", type := .int, accessFlags := 26, slot := 10, constantValue := 0 }, { name := "T_BOOLEAN", type := .int, accessFlags := 25, slot := 11, constantValue := 0 }, { name := "T_CHAR", type := .int, accessFlags := 25, slot := 12, constantValue := 0 }, { name := "T_FLOAT", type := .int, accessFlags := 25, slot := 13, constantValue := 0 }, { name := "T_DOUBLE", type := .int, accessFlags := 25, slot := 14, constantValue := 0 }, { name := "T_BYTE", type := .int, accessFlags := 25, slot := 15, constantValue := 0 }, { name := "T_SHORT", type := .int, accessFlags := 25, slot := 16, constantValue := 0 }, { name := "T_INT", type := .int, accessFlags := 25, slot := 17, constantValue := 0 }, { name := "T_LONG", type := .int, accessFlags := 25, slot := 18, constantValue := 0 }, { name := "JLA", type := (.object "jdk/internal/access/JavaLangAccess"), accessFlags := 26, slot := 19, constantValue := 0 }, { name := "SOFT_MAX_ARRAY_LENGTH", type := .int, accessFlags := 25, slot := 20, constantValue := 0 }]
  methods := #[k12m0]
  instanceTypes := #[]
  staticTypes := #[(.object "jdk/internal/misc/Unsafe"), .boolean, .int, .int, .int, .int, .int, .int, .int, .int, .int, .int, .int, .int, .int, .int, .int, .int, .int, (.object "jdk/internal/access/JavaLangAccess"), .int]
  resolved := Array.replicate 378 none
  statics := none }

def pool13 : Array CpInfo := pool [(1, u "java/lang/Cloneable"), (0, .class_ 1), (0, u "java/lang/Object"), (0, .class_ 3)] 3

/-- java/lang/Cloneable -/
def k13 : Class := { plain "java/lang/Cloneable" (some 0) with
  accessFlags := 1537
  interfaces := #[]
  cf := some (fileOf pool13 2 #[] #[] 1537 4 #[] #[])
  fields := #[]
  methods := #[]
  instanceTypes := #[]
  staticTypes := #[]
  resolved := Array.replicate 8 none
  statics := none }

/-- the primitive byte -/
def k14 : Class := { plain "byte" none with kind := .primitive 'B', accessFlags := 0x411 }
/-- [B -/
def k15 : Class := { plain "[B" (some 0) with kind := .array 14 .byte, interfaces := #[13, 2], accessFlags := 1041 }

/-- the primitive int -/
def k16 : Class := { plain "int" none with kind := .primitive 'I', accessFlags := 0x411 }
/-- [I -/
def k17 : Class := { plain "[I" (some 0) with kind := .array 16 .int, interfaces := #[13, 2], accessFlags := 1041 }

def heap : Heap := #[{ cls := 7, slots := #[.long 0, .int 1, .null, .int 0, .null, .int 0, .int 0], vm := .statics 7 },
  { cls := 11, slots := #[.null, .null, .null], vm := .statics 11 }]
def classes : Array Class := #[k0, k1, k2, k3, k4, k5, k6, k7, k8, k9, k10, k11, k12, k13, k14, k15, k16, k17]
def interned : List (Array UInt16 × Addr) := []
def slotsUsed : Nat := 10
def theMethod : MethodId := ⟨1, 1⟩
def args0 : Array Value := #[.int 5, .int 5]
def aboutOver (below : List Frame) : State where
  vm := { classes := classes, interned := interned.toArray }
  heap := heap
  slotsUsed := slotsUsed
  threads := #[{ frames := .invoking theMethod args0 :: below }]
def below0 : List Frame := [.native { method := ⟨0, 0⟩, args := #[] }]
def about1 : State := aboutOver below0
def p0 : Program := .bare "" "" ""
def e0 : Env := launch0.env 0 0 0
theorem w_frames : about1.frames = Frame.invoking theMethod args0 :: below0 := rfl
set_option maxRecDepth 65536 in
theorem w_args : argsFit about1.vm theMethod args0 = true := by decide +kernel
set_option maxRecDepth 65536 in
theorem w_heap : heapFits about1 = true := by decide +kernel
set_option maxRecDepth 65536 in
theorem w_runnable : about1.curStatus? = some .runnable := by decide +kernel
set_option maxRecDepth 65536 in
theorem w_alone : about1.alone = true := by decide +kernel
set_option maxRecDepth 65536 in
theorem w_named : about1.methodNamed? x = some theMethod := by decide +kernel
set_option maxRecDepth 65536 in
theorem w_hears : about1.hears theMethod below0 = true := by decide +kernel
set_option maxRecDepth 65536 in
theorem w_ripe : about1.ripe theMethod args0 below0 = true := by decide +kernel
theorem w_running : about1.status = .running := rfl
set_option maxRecDepth 65536 in
theorem w_room : about1.hasRoom e0.platform room_1 = true :=
  launch0.hasRoom_least _ room_1 (by decide +kernel) (by decide +kernel) (by decide +kernel) (by decide +kernel) (by decide +kernel) (by decide +kernel)
theorem allAtoms_all (ts : List Jvm.Cond) (a : Array Jvm.Value) (st : Jvm.State) : (allAtoms ts).before a st = ts.all (fun c => c.before a st) := by
  induction ts with
  | nil => rfl
  | cons c t ih =>
    show (Jvm.Cond.and c (allAtoms t)).before a st = _
    rw [Jvm.Cond.before_and, ih, List.all_cons]
def words1 : List Jvm.Cond := Jvm.Cond.code x code maxLocals ret :: tables_1
/-- a 'code' word, met by the world's own term for the bytes: nothing is compared byte by byte -/
theorem code_word {y : MethodName} {bytes : ByteArray} {mx : Nat} {rt : Option FieldType} {a : Array Value} {s : State} {m : MethodId} {meth : Method} {c : Code} (h1 : s.methodNamed? y = some m) (h2 : s.vm.method? m = some meth) (h3 : meth.code = some c) (h4 : c.code = bytes)
    (h5 : (c.maxLocals == mx && c.exceptionTable.isEmpty && decide (c.maxStack ≤ mostOperands) && decide (meth.sig.returnType = rt) && !meth.locks && decide (parseMethodDescriptor y.desc = some meth.sig)) = true) : (Jvm.Cond.code y bytes mx rt).before a s = true := by
  simp only [Bool.and_eq_true, beq_iff_eq, Bool.not_eq_true', decide_eq_true_eq] at h5
  obtain ⟨⟨⟨⟨⟨g1, g2⟩, g3⟩, g4⟩, g5⟩, g6⟩ := h5
  simp [Cond.before, Cond.holds, Cond.value, h1, h2, h3, h4, g1, g2, g3, g4, g5, g6]
def isCode : Jvm.Cond → Bool
  | .code _ _ _ _ => true
  | _ => false
theorem all_split {L : List Jvm.Cond} {P : Jvm.Cond → Bool} (h1 : L.all (fun c => isCode c || P c) = true) (h2 : ∀ c ∈ L.filter isCode, P c = true) : L.all P = true := by
  refine List.all_eq_true.mpr fun c hc => ?_
  have h := List.all_eq_true.mp h1 c hc
  rcases Bool.eq_false_or_eq_true (isCode c) with hi | hi
  · exact h2 c (List.mem_filter.mpr ⟨hc, hi⟩)
  · simpa [hi] using h
set_option maxRecDepth 65536 in
theorem w_c0 : (Jvm.Cond.code x code maxLocals ret).before args0 about1 = true := code_word (m := ⟨1, 1⟩) (meth := k1m1) (c := k1c1) (by decide +kernel) rfl rfl rfl (by decide +kernel)
set_option maxRecDepth 65536 in
theorem w_c1 : (Jvm.Cond.code ({ cls := "com/example/outlier/outlier/http/FieldName", name := "toLowerCase", desc := "(I)I" } : Jvm.MethodName) prog_64_method_10_code (1 : Nat) (Option.some Jvm.ClassFile.FieldType.int)).before args0 about1 = true := code_word (m := ⟨9, 0⟩) (meth := k9m0) (c := k9c0) (by decide +kernel) rfl rfl rfl (by decide +kernel)
set_option maxRecDepth 65536 in
theorem w_c2 : (Jvm.Cond.code ({ cls := "java/lang/String", name := "charAt", desc := "(I)C" } : Jvm.MethodName) jdk_42_method_56_code (2 : Nat) (Option.some Jvm.ClassFile.FieldType.char)).before args0 about1 = true := code_word (m := ⟨7, 1⟩) (meth := k7m1) (c := k7c1) (by decide +kernel) rfl rfl rfl (by decide +kernel)
set_option maxRecDepth 65536 in
theorem w_c3 : (Jvm.Cond.code ({ cls := "java/lang/String", name := "isLatin1", desc := "()Z" } : Jvm.MethodName) jdk_42_method_154_code (1 : Nat) (Option.some Jvm.ClassFile.FieldType.boolean)).before args0 about1 = true := code_word (m := ⟨7, 2⟩) (meth := k7m2) (c := k7c2) (by decide +kernel) rfl rfl rfl (by decide +kernel)
set_option maxRecDepth 65536 in
theorem w_c4 : (Jvm.Cond.code ({ cls := "java/lang/StringLatin1", name := "charAt", desc := "([BI)C" } : Jvm.MethodName) jdk_43_method_2_code (2 : Nat) (Option.some Jvm.ClassFile.FieldType.char)).before args0 about1 = true := code_word (m := ⟨10, 1⟩) (meth := k10m1) (c := k10c1) (by decide +kernel) rfl rfl rfl (by decide +kernel)
set_option maxRecDepth 65536 in
theorem w_c5 : (Jvm.Cond.code ({ cls := "java/lang/String", name := "checkIndex", desc := "(II)V" } : Jvm.MethodName) jdk_42_method_155_code (2 : Nat) (Option.none : Option Jvm.ClassFile.FieldType)).before args0 about1 = true := code_word (m := ⟨7, 3⟩) (meth := k7m3) (c := k7c3) (by decide +kernel) rfl rfl rfl (by decide +kernel)
set_option maxRecDepth 65536 in
theorem w_c6 : (Jvm.Cond.code ({ cls := "jdk/internal/util/Preconditions", name := "checkIndex", desc := "(IILjava/util/function/BiFunction;)I" } : Jvm.MethodName) jdk_41_method_11_code (3 : Nat) (Option.some Jvm.ClassFile.FieldType.int)).before args0 about1 = true := code_word (m := ⟨11, 1⟩) (meth := k11m1) (c := k11c1) (by decide +kernel) rfl rfl rfl (by decide +kernel)
def codes1 : List Jvm.Cond := [Jvm.Cond.code x code maxLocals ret, Jvm.Cond.code ({ cls := "com/example/outlier/outlier/http/FieldName", name := "toLowerCase", desc := "(I)I" } : Jvm.MethodName) prog_64_method_10_code (1 : Nat) (Option.some Jvm.ClassFile.FieldType.int), Jvm.Cond.code ({ cls := "java/lang/String", name := "charAt", desc := "(I)C" } : Jvm.MethodName) jdk_42_method_56_code (2 : Nat) (Option.some Jvm.ClassFile.FieldType.char), Jvm.Cond.code ({ cls := "java/lang/String", name := "isLatin1", desc := "()Z" } : Jvm.MethodName) jdk_42_method_154_code (1 : Nat) (Option.some Jvm.ClassFile.FieldType.boolean), Jvm.Cond.code ({ cls := "java/lang/StringLatin1", name := "charAt", desc := "([BI)C" } : Jvm.MethodName) jdk_43_method_2_code (2 : Nat) (Option.some Jvm.ClassFile.FieldType.char), Jvm.Cond.code ({ cls := "java/lang/String", name := "checkIndex", desc := "(II)V" } : Jvm.MethodName) jdk_42_method_155_code (2 : Nat) (Option.none : Option Jvm.ClassFile.FieldType), Jvm.Cond.code ({ cls := "jdk/internal/util/Preconditions", name := "checkIndex", desc := "(IILjava/util/function/BiFunction;)I" } : Jvm.MethodName) jdk_41_method_11_code (3 : Nat) (Option.some Jvm.ClassFile.FieldType.int)]
set_option maxRecDepth 65536 in
theorem codes_eq : words1.filter isCode = codes1 := rfl
theorem w_codes : ∀ c ∈ words1.filter isCode, c.before args0 about1 = true := by
  rw [codes_eq]
  intro c hc
  simp only [codes1, List.mem_cons, List.not_mem_nil, or_false] at hc
  rcases hc with rfl | rfl | rfl | rfl | rfl | rfl | rfl
  · exact w_c0
  · exact w_c1
  · exact w_c2
  · exact w_c3
  · exact w_c4
  · exact w_c5
  · exact w_c6
set_option maxRecDepth 65536 in
theorem w_t1 : (words1.take 24).all (fun c => isCode c || c.before args0 about1) = true := by decide +kernel
set_option maxRecDepth 65536 in
theorem w_t2 : (words1.drop 24).all (fun c => isCode c || c.before args0 about1) = true := by decide +kernel
theorem w_tables : (allAtoms (Jvm.Cond.code x code maxLocals ret :: tables_1)).before args0 about1 = true := by
  rw [allAtoms_all]
  show words1.all (fun c => c.before args0 about1) = true
  refine all_split ?_ w_codes
  rw [← List.take_append_drop 24 words1, List.all_append, w_t1, w_t2]
  rfl
set_option maxRecDepth 65536 in
theorem w_rest : rest_1_c.before args0 about1 = true := by decide +kernel
set_option maxRecDepth 65536 in
theorem w_case : (Jvm.Cond.and given_1 narrow_1).before args0 about1 = true := by decide +kernel
set_option maxRecDepth 65536 in
theorem w_consts : constsHeld consts_1 about1 := Jvm.Lit.constsHeldB_iff.mp (by decide +kernel)
theorem w_applies : (headSpec (Jvm.Cond.code x code maxLocals ret :: tables_1) room_1).applies x e0.platform about1 = true :=
  (Spec.applies_iff w_frames).mpr ⟨w_running, w_runnable, w_alone, w_named, w_hears, w_ripe, w_room, w_tables⟩
theorem atStart : AtStart classFile x code maxLocals ret World_1 tables_1 room_1 Calls_1 rest_1 Pre_1 launch0 p0 e0 about1 theMethod args0 below0 :=
  ⟨lists_1, trivial, launch0.admits_env _ _ _, launch0.least_env, fairChoices_fair.cas, fairChoices_fair.clock, w_frames, w_args, w_heap, w_applies, ⟨w_consts, trivial⟩, w_rest, w_case⟩
end start1
theorem witness_1 : WitnessClaimed_1 := ⟨start1.p0, start1.e0, start1.about1, start1.theMethod, start1.args0, start1.below0, start1.atStart⟩
end Jvm.Pilot.@@N@@
