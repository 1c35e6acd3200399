import JvmDerived
import JvmDerived.Pilot.@@N@@Statement
import JvmDerived.Pilot.@@N@@Code
set_option linter.unusedVariables false
set_option linter.unusedSimpArgs false
namespace Jvm.Pilot.@@N@@
open Jvm Jvm.ClassFile Sem Op Lib Jvm.Free Jvm.Stand Jvm.LawKit Jvm.RoadKit Bundle Jvm.Pilot.@@N@@.Jvm.D
section OwnKit
variable {p : Program} {l : Launch} {e : Env} {R : Room} {s : State} {m : MethodId} {args : Array Value} {below : List Frame} {meth : Method} {c : Code} {T T' : State} {locs : List Loc} {cells slots : Nat} {h : Heap} {Q : Option Value → Heap → List Loc → Prop} {kc ks : Nat} {g g' : JFrame}
/-- from this state and frame the method comes to its end, and what it leaves is Q -/
def Gl (p : Program) (e : Env) (below : List Frame) (s : State) (Q : Option Value → Heap → List Loc → Prop) (kc ks : Nat) (T : State) (g : JFrame) : Prop :=
  ∃ s₂ o, Steps p.tables e below (T.setTop g) s₂ ∧ s₂.status = .running ∧ Ended s₂ below o ∧ ∃ v L, o = .returned v ∧ Q v s₂.heap L ∧ FrameEnd s o s₂ L kc ks
theorem Gl.st (h : ∀ t, Steps p.tables e below (T'.setTop g') t → Steps p.tables e below (T.setTop g) t) (k : Gl p e below s Q kc ks T' g') : Gl p e below s Q kc ks T g := by
  obtain ⟨s₂, o, h1, r⟩ := k
  exact ⟨s₂, o, h _ h1, r⟩
theorem Gl.ret (X : Stand p l e R s m args below meth c T locs cells slots) (hlk : meth.locks = false) (v : Option Value) (hv : meth.sig.returnType = none → v = none) (eT : T.heap = h) (hc : cells ≤ kc) (hs : slots ≤ ks)
    (hst : ∀ fs, (∀ (f : JFrame) (acts : List Action), f.method = m → f.locked = none → f.entered = [] → (doReturn e (T.setTop f) acts v).1 = T.setFrames fs) → Steps p.tables e below (T.setTop g) (T.setFrames fs))
    (hq : Q v h locs) : Gl p e below s Q kc ks T g := by
  obtain ⟨fs, hr, hrun, hended, hW, hsame⟩ := X.leave (v := v) hv hlk
  refine ⟨_, _, hst fs hr, hrun, hended, v, locs, rfl, ?_, ⟨_, rfl⟩, hW, hsame.mono hc hs⟩
  show Q v T.heap locs
  rw [eT]; exact hq
theorem Gl.retI (X : Stand p l e R s m args below meth c T locs cells slots) (hx : p.tables.exec = Jvm.exec) (hlk : meth.locks = false) {pc : Nat} {Ls : Array Slot} {z : Int32} {rest : List Value} (hret : meth.sig.returnType = some .int) (hd : decode c.code pc = .ok (.ireturn, 1)) (eT : T.heap = h) (hc : cells ≤ kc) (hs : slots ≤ ks)
    (hq : Q (some (.int z)) h locs) : Gl p e below s Q kc ks T (mkF m pc Ls (.int z :: rest)) := by
  refine Gl.ret X hlk (some (.int z)) (fun q => by rw [hret] at q; cases q) eT hc hs (fun fs hl => ?_) hq
  exact retOut X hx hret (t := .int) rfl (Or.inl ⟨rfl, Or.inl rfl, _, rfl⟩) hd hl
theorem Gl.retZ (X : Stand p l e R s m args below meth c T locs cells slots) (hx : p.tables.exec = Jvm.exec) (hlk : meth.locks = false) {pc : Nat} {Ls : Array Slot} {z : Int32} {rest : List Value} (t : FieldType) (ht : t = .boolean ∨ t = .byte ∨ t = .char ∨ t = .short) (hret : meth.sig.returnType = some t) (hd : decode c.code pc = .ok (.ireturn, 1)) (eT : T.heap = h) (hc : cells ≤ kc) (hs : slots ≤ ks)
    (hq : Q (some (.int (nar t z))) h locs) : Gl p e below s Q kc ks T (mkF m pc Ls (.int z :: rest)) := by
  refine Gl.ret X hlk (some (.int (nar t z))) (fun q => by rw [hret] at q; cases q) eT hc hs (fun fs hl => ?_) hq
  exact retN X hx (t := t) hret ht hd hl
theorem Gl.retL (X : Stand p l e R s m args below meth c T locs cells slots) (hx : p.tables.exec = Jvm.exec) (hlk : meth.locks = false) {pc : Nat} {Ls : Array Slot} {z : Int64} (hret : meth.sig.returnType = some .long) (hd : decode c.code pc = .ok (.lreturn, 1)) (eT : T.heap = h) (hc : cells ≤ kc) (hs : slots ≤ ks)
    (hq : Q (some (.long z)) h locs) : Gl p e below s Q kc ks T (mkF m pc Ls [.long z]) := by
  refine Gl.ret X hlk (some (.long z)) (fun q => by rw [hret] at q; cases q) eT hc hs (fun fs hl => ?_) hq
  exact X.lreturnOut hx hret hd hl
theorem Gl.retV (X : Stand p l e R s m args below meth c T locs cells slots) (hx : p.tables.exec = Jvm.exec) (hlk : meth.locks = false) {pc : Nat} {Ls : Array Slot} (hret : meth.sig.returnType = none) (hd : decode c.code pc = .ok (.return_, 1)) (eT : T.heap = h) (hc : cells ≤ kc) (hs : slots ≤ ks)
    (hq : Q none h locs) : Gl p e below s Q kc ks T (mkF m pc Ls []) := by
  refine Gl.ret X hlk none (fun _ => rfl) eT hc hs (fun fs hl => ?_) hq
  exact X.returnOut hx hret hd hl
end OwnKit

section OwnArr
variable {p : Program} {l : Launch} {e : Env} {R : Room} {s : State} {m : MethodId} {args : Array Value} {below : List Frame} {meth : Method} {c : Code} {T : State} {locs : List Loc} {cells slots : Nat} {Z : State} {h : Heap} {a : Addr} {k : ClassId} {z j x : Int32} {vs : List Value} {dv v : Value} {g : JFrame} {rest : List Value}
theorem own_ldB (X : Stand p l e R s m args below meth c T locs cells slots) (hx : p.tables.exec = Jvm.exec) (hZ : Z.Warmed39 s.vm) (eT : T.heap = h) (F : Arv Z h a k .byte z vs dv) (hj : ¬ j < 0 ∧ j < z) (u : vs.getD j.toNatClampNeg dv = v) (hg : g.method = m) (hs : g.stack = .int j :: .ref a :: rest) (hd : decode c.code g.pc = .ok (.baload, 1)) :
    ∀ t, Steps p.tables e below (T.setTop { g with pc := g.pc + 1, stack := v :: rest }) t → Steps p.tables e below (T.setTop g) t := by
  obtain ⟨cl, A, q1, S, q3, H, G⟩ := F
  have hin := inb_of S hj
  intro t kk
  exact X.baloadBytes hx (by rw [eT]; exact A.1) (State.isArrayOf_alike hZ.alike A.2.1) A.2.2 hin (Has.at H hin u) hg hs hd t kk
theorem own_ldC (X : Stand p l e R s m args below meth c T locs cells slots) (hx : p.tables.exec = Jvm.exec) (hZ : Z.Warmed39 s.vm) (eT : T.heap = h) (F : Arv Z h a k .char z vs dv) (hj : ¬ j < 0 ∧ j < z) (u : vs.getD j.toNatClampNeg dv = v) (hg : g.method = m) (hs : g.stack = .int j :: .ref a :: rest) (hd : decode c.code g.pc = .ok (.caload, 1)) :
    ∀ t, Steps p.tables e below (T.setTop { g with pc := g.pc + 1, stack := v :: rest }) t → Steps p.tables e below (T.setTop g) t := by
  obtain ⟨cl, A, q1, S, q3, H, G⟩ := F
  have hin := inb_of S hj
  intro t kk
  exact X.caload hx (by rw [eT]; exact A.1) (State.isArrayOf_alike hZ.alike A.2.1) A.2.2 hin (Has.at H hin u) hg hs hd t kk
theorem own_len {ty : FieldType} (X : Stand p l e R s m args below meth c T locs cells slots) (hx : p.tables.exec = Jvm.exec) (hZ : Z.Warmed39 s.vm) (eT : T.heap = h) (F : Arv Z h a k ty z vs dv) (hg : g.method = m) (hs : g.stack = .ref a :: rest) (hd : decode c.code g.pc = .ok (.arraylength, 1)) :
    ∀ t, Steps p.tables e below (T.setTop { g with pc := g.pc + 1, stack := .int z :: rest }) t → Steps p.tables e below (T.setTop g) t := by
  obtain ⟨cl, A, q1, S, q3, H, G⟩ := F
  intro t kk
  exact X.arraylength hx (by rw [eT]; exact A.1) (State.isArrayOf_alike hZ.alike A.2.1) hg hs hd t (by rw [len_of S q3]; exact kk)
theorem own_stB (X : Stand p l e R s m args below meth c T locs cells slots) (hx : p.tables.exec = Jvm.exec) (hZ : Z.Warmed39 s.vm) (eT : T.heap = h) (F : Arv Z h a k .byte z vs dv) (hj : ¬ j < 0 ∧ j < z) (i : Nat) (hi : j.toNatClampNeg = i) (hl : i < vs.length) (hg : g.method = m) (hs : g.stack = .int x :: .int j :: .ref a :: rest) (hd : decode c.code g.pc = .ok (.bastore, 1)) :
    ∃ T' h' y, Stand p l e R s m args below meth c T' (locs ++ [⟨a, j.toNatClampNeg⟩]) cells slots ∧ T'.heap = h' ∧ Wr h h' a j.toNatClampNeg (.int y) ∧ y = nar .byte x ∧ Arv Z h' a k .byte z (vs.set i (.int y)) dv ∧
      ∀ t, Steps p.tables e below (T'.setTop { g with pc := g.pc + 1, stack := rest }) t → Steps p.tables e below (T.setTop g) t := by
  obtain ⟨cl, A, q1, S, q3, H, G⟩ := F
  obtain ⟨T', h', X', e', W', st'⟩ := stB X hx hZ eT A (inb_of S hj) hg hs hd
  exact ⟨T', h', _, X', e', W', rfl, Arv.set A q1 S q3 H G (fits_nar_byte _) W' i hi hl, st'⟩
theorem own_stC (X : Stand p l e R s m args below meth c T locs cells slots) (hx : p.tables.exec = Jvm.exec) (hZ : Z.Warmed39 s.vm) (eT : T.heap = h) (F : Arv Z h a k .char z vs dv) (hj : ¬ j < 0 ∧ j < z) (i : Nat) (hi : j.toNatClampNeg = i) (hl : i < vs.length) (hg : g.method = m) (hs : g.stack = .int x :: .int j :: .ref a :: rest) (hd : decode c.code g.pc = .ok (.castore, 1)) :
    ∃ T' h' y, Stand p l e R s m args below meth c T' (locs ++ [⟨a, j.toNatClampNeg⟩]) cells slots ∧ T'.heap = h' ∧ Wr h h' a j.toNatClampNeg (.int y) ∧ y = nar .char x ∧ Arv Z h' a k .char z (vs.set i (.int y)) dv ∧
      ∀ t, Steps p.tables e below (T'.setTop { g with pc := g.pc + 1, stack := rest }) t → Steps p.tables e below (T.setTop g) t := by
  obtain ⟨cl, A, q1, S, q3, H, G⟩ := F
  obtain ⟨T', h', X', e', W', st'⟩ := stC X hx hZ eT A (inb_of S hj) hg hs hd
  exact ⟨T', h', _, X', e', W', rfl, Arv.set A q1 S q3 H G (fits_nar_char _) W' i hi hl, st'⟩
theorem own_stI (X : Stand p l e R s m args below meth c T locs cells slots) (hx : p.tables.exec = Jvm.exec) (hZ : Z.Warmed39 s.vm) (eT : T.heap = h) (F : Arv Z h a k .int z vs dv) (hj : ¬ j < 0 ∧ j < z) (i : Nat) (hi : j.toNatClampNeg = i) (hl : i < vs.length) (hg : g.method = m) (hs : g.stack = .int x :: .int j :: .ref a :: rest) (hd : decode c.code g.pc = .ok (.iastore, 1)) :
    ∃ T' h', Stand p l e R s m args below meth c T' (locs ++ [⟨a, j.toNatClampNeg⟩]) cells slots ∧ T'.heap = h' ∧ Wr h h' a j.toNatClampNeg (.int x) ∧ Arv Z h' a k .int z (vs.set i (.int x)) dv ∧
      ∀ t, Steps p.tables e below (T'.setTop { g with pc := g.pc + 1, stack := rest }) t → Steps p.tables e below (T.setTop g) t := by
  obtain ⟨cl, A, q1, S, q3, H, G⟩ := F
  obtain ⟨T', h', X', e', W', st'⟩ := stI X hx hZ eT A (inb_of S hj) hg hs hd
  exact ⟨T', h', X', e', W', Arv.set A q1 S q3 H G rfl W' i hi hl, st'⟩
end OwnArr

theorem own_z0 : nar .boolean (0 : Int32) = 0 := by decide
theorem own_z1 : nar .boolean (1 : Int32) = 1 := by decide
theorem own_nn (x : Int32) : 0 ≤ (x &&& (2147483647 : Int32)).toInt := by
  rw [c_mask x 2147483647 31 (by decide) (by decide)]
  exact Int.emod_nonneg _ (by decide)
theorem own_lt {x y : Int32} (h : x.toInt < y.toInt) : x < y := Int32.lt_iff_toInt_lt.mpr h
theorem own_nlt {x y : Int32} (h : y.toInt ≤ x.toInt) : ¬ x < y := fun q => by
  have := Int32.lt_iff_toInt_lt.mp q; omega
theorem own_eq {x y : Int32} (h : x.toInt = y.toInt) : x = y := Int32.toInt_inj.mp h
theorem own_ltI {x y : Int32} (h : x < y) : x.toInt < y.toInt := Int32.lt_iff_toInt_lt.mp h
theorem own_nltI {x y : Int32} (h : ¬ x < y) : y.toInt ≤ x.toInt := by
  rcases Int.lt_or_le x.toInt y.toInt with q | q
  · exact absurd (own_lt q) h
  · exact q
theorem own_rem {x y : Int32} (hx : 0 ≤ x.toInt) (hy : 0 < y.toInt) : 0 ≤ (x % y).toInt ∧ (x % y).toInt < y.toInt := by
  have h := (c_irem x y y.toInt rfl).1 hx
  rw [h]; exact ⟨Int.emod_nonneg _ (by omega), Int.emod_lt_of_pos _ hy⟩
theorem own_add {x y : Int32} (h1 : -2147483648 ≤ x.toInt + y.toInt) (h2 : x.toInt + y.toInt < 2147483648) : (x + y).toInt = x.toInt + y.toInt := by
  have a := c_iadd x y; have b := (x + y).toInt_lt; have c := (x + y).le_toInt; omega
theorem own_sub {x y : Int32} (h1 : -2147483648 ≤ x.toInt - y.toInt) (h2 : x.toInt - y.toInt < 2147483648) : (x - y).toInt = x.toInt - y.toInt := by
  have a := c_isub x y; have b := (x - y).toInt_lt; have c := (x - y).le_toInt; omega
theorem own_and (x : Int32) (m : Int32) (k : Nat) (hk : k ≤ 31) (hm : m.toBitVec.toNat = 2 ^ k - 1) : 0 ≤ (x &&& m).toInt ∧ (x &&& m).toInt ≤ m.toInt ∧ (x &&& m).toInt = x.toInt % (2 ^ k : Nat) := by
  have h := c_mask x m k hk hm
  have hm0 : 0 ≤ m.toInt := by
    have e : m.toInt = m.toBitVec.toInt := rfl
    have q : 2 ^ k ≤ 2 ^ 31 := Nat.pow_le_pow_right (by decide) hk
    have l := m.toBitVec.isLt
    rw [e, BitVec.toInt_eq_toNat_cond, hm]; split <;> omega
  exact ⟨(c_and x m hm0).1, (c_and x m hm0).2, h⟩
def own_pk (b : Int64) (sp i : Int32) : Int32 := if ((sp >>> (i &&& 31)) &&& (1 : Int32)) = (0 : Int32) then nar .byte ((b >>> (((8 : Int32) * i) &&& 0x3f).toInt64).toInt32.toInt8.toInt32) else nar .byte (32 : Int32)
def own_sp (v : Int32) : Int32 := if v = (32 : Int32) then 1 else 0
def own_tr (ys : List Int32) (s : Nat) : Nat → Nat
  | 0 => 0
  | e + 1 => if e + 1 ≤ s then e + 1 else if own_sp (ys.getD e 0) = (0 : Int32) then e + 1 else own_tr ys s e
def own_si (y k r e : Int32) : Int32 := if k < r then 1 else if k < e then (if y = (32 : Int32) then 1 else 0) else 1
theorem own_tr_spec (ys : List Int32) (s : Nat) : ∀ e, s ≤ e → s ≤ own_tr ys s e ∧ own_tr ys s e ≤ e ∧ (∀ k, own_tr ys s e ≤ k → k < e → ys.getD k 0 = 32) ∧ (s < own_tr ys s e → ys.getD (own_tr ys s e - 1) 0 ≠ 32)
  | 0, h => ⟨h, Nat.le_refl _, fun k h1 h2 => absurd h2 (Nat.not_lt_zero _), fun q => absurd q (Nat.not_lt_zero _)⟩
  | e + 1, h => by
    unfold own_tr
    by_cases h1 : e + 1 ≤ s
    · rw [if_pos h1]
      exact ⟨h, Nat.le_refl _, fun k q1 q2 => by omega, fun q => by omega⟩
    · rw [if_neg h1]
      by_cases h2 : own_sp (ys.getD e 0) = (0 : Int32)
      · rw [if_pos h2]
        refine ⟨by omega, Nat.le_refl _, fun k q1 q2 => by omega, fun _ q => ?_⟩
        rw [Nat.add_sub_cancel] at q
        unfold own_sp at h2
        rw [if_pos q] at h2
        exact absurd h2 (by decide)
      · rw [if_neg h2]
        have h3 : ys.getD e 0 = 32 := by
          unfold own_sp at h2
          by_cases q : ys.getD e 0 = 32
          · exact q
          · rw [if_neg q] at h2; exact absurd rfl h2
        obtain ⟨a1, a2, a3, a4⟩ := own_tr_spec ys s e (by omega)
        refine ⟨a1, by omega, fun k q1 q2 => ?_, a4⟩
        by_cases q : k = e
        · rw [q]; exact h3
        · exact a3 k q1 (by omega)
theorem own_tr_a {ys : List Int32} {s k : Nat} (h : k + 1 ≤ s) : own_tr ys s (k + 1) = k + 1 := by
  show (if k + 1 ≤ s then k + 1 else if own_sp (ys.getD k 0) = (0 : Int32) then k + 1 else own_tr ys s k) = _
  rw [if_pos h]
theorem own_tr_b {ys : List Int32} {s k : Nat} (h : ¬ k + 1 ≤ s) (q : own_sp (ys.getD k 0) = (0 : Int32)) : own_tr ys s (k + 1) = k + 1 := by
  show (if k + 1 ≤ s then k + 1 else if own_sp (ys.getD k 0) = (0 : Int32) then k + 1 else own_tr ys s k) = _
  rw [if_neg h, if_pos q]
theorem own_tr_c {ys : List Int32} {s k : Nat} (h : ¬ k + 1 ≤ s) (q : ¬ own_sp (ys.getD k 0) = (0 : Int32)) : own_tr ys s (k + 1) = own_tr ys s k := by
  show (if k + 1 ≤ s then k + 1 else if own_sp (ys.getD k 0) = (0 : Int32) then k + 1 else own_tr ys s k) = _
  rw [if_neg h, if_neg q]
theorem own_nat {i : Nat} (h : i ≤ 16) : (Int32.ofNat i).toInt = i := by
  have q : ∀ k : Fin 17, (Int32.ofNat k.1).toInt = k.1 := by decide
  exact q ⟨i, by omega⟩
theorem own_dec (i : Nat) : Int32.ofNat (i + 1) - (1 : Int32) = Int32.ofNat i := by
  rw [Int32.ofNat_add]; show Int32.ofNat i + 1 - 1 = _; exact Int32.add_sub_cancel _ _
theorem own_dec' (i : Nat) : Int32.ofNat (i + 1) + (-1 : Int32) = Int32.ofNat i := by
  rw [← own_dec i, Int32.sub_eq_add_neg]
theorem own_il {i n : Nat} {p z : Int32} (hp : p = Int32.ofNat i) (hz : z = Int32.ofNat n) (h : i < n) (hn : n ≤ 16) : p < z := by
  subst hp; subst hz
  exact own_lt (by rw [own_nat hn, own_nat (by omega)]; omega)
theorem own_li {i n : Nat} {p z : Int32} (hp : p = Int32.ofNat i) (hz : z = Int32.ofNat n) (h : p < z) (hi : i ≤ 16) (hn : n ≤ 16) : i < n := by
  subst hp; subst hz
  have := own_ltI h
  rw [own_nat hn, own_nat hi] at this; omega
theorem own_get {i : Nat} {j : Int32} (ys : List Int32) (hj : j = Int32.ofNat i) (hi : i ≤ 16) : (ys.map Value.int).getD j.toNatClampNeg (.int (0 : Int32)) = .int (ys.getD i 0) := by
  subst hj
  have e : (Int32.ofNat i).toNatClampNeg = i := by
    simp only [Int32.toNatClampNeg, own_nat hi]; rfl
  rw [e, List.getD_eq_getElem?_getD, List.getD_eq_getElem?_getD, List.getElem?_map]
  cases ys[i]? <;> rfl
theorem own_ge0 {i : Nat} {j : Int32} (hj : j = Int32.ofNat i) (hi : i ≤ 16) : ¬ j < 0 := by
  subst hj; exact own_nlt (by rw [own_nat hi]; show (0 : Int) ≤ _; omega)
theorem own_r6 {x v : Int32} (e : ((x &&& (2147483647 : Int32)) % (6 : Int32)) = v) : ∃ k : Nat, v = Int32.ofNat k ∧ k ≤ 5 := by
  have h := own_rem (own_nn x) (y := 6) (by decide)
  rw [e] at h
  have t : (6 : Int32).toInt = 6 := by decide
  refine ⟨v.toInt.toNat, ?_, by omega⟩
  rw [← Int32.ofInt_eq_ofNat, Int.toNat_of_nonneg h.1, Int32.ofInt_toInt]
theorem own_siok {y k r e : Int32} {kn rn en : Nat} (hk : k = Int32.ofNat kn) (hr : r = Int32.ofNat rn) (he : e = Int32.ofNat en) (h1 : kn ≤ 16) (h2 : rn ≤ 16) (h3 : en ≤ 16) (h : rn ≤ kn → kn < en → y = 32) : ¬ own_si y k r e = (0 : Int32) := by
  unfold own_si
  by_cases q1 : k < r
  · rw [if_pos q1]; decide
  · rw [if_neg q1]
    by_cases q2 : k < e
    · rw [if_pos q2, if_pos (h (Nat.le_of_not_lt fun w => q1 (own_il hk hr w h2)) (own_li hk he q2 h1 h3))]; decide
    · rw [if_neg q2]; decide
theorem d1_0 : decode method_2_code 0 = .ok (.iload_n 2, 1) := by decide +kernel
theorem d1_1 : decode method_2_code 1 = .ok (.iload_n 3, 1) := by decide +kernel
theorem d1_2 : decode method_2_code 2 = .ok (.ishr, 1) := by decide +kernel
theorem d1_3 : decode method_2_code 3 = .ok (.iconst 1, 1) := by decide +kernel
theorem d1_4 : decode method_2_code 4 = .ok (.iand, 1) := by decide +kernel
theorem d1_5 : decode method_2_code 5 = .ok (.ifCond .eq 6, 3) := by decide +kernel
theorem d1_8 : decode method_2_code 8 = .ok (.bipush 32, 2) := by decide +kernel
theorem d1_10 : decode method_2_code 10 = .ok (.ireturn, 1) := by decide +kernel
theorem d1_11 : decode method_2_code 11 = .ok (.lload_n 0, 1) := by decide +kernel
theorem d1_12 : decode method_2_code 12 = .ok (.bipush 8, 2) := by decide +kernel
theorem d1_14 : decode method_2_code 14 = .ok (.iload_n 3, 1) := by decide +kernel
theorem d1_15 : decode method_2_code 15 = .ok (.imul, 1) := by decide +kernel
theorem d1_16 : decode method_2_code 16 = .ok (.lshr, 1) := by decide +kernel
theorem d1_17 : decode method_2_code 17 = .ok (.l2i, 1) := by decide +kernel
theorem d1_18 : decode method_2_code 18 = .ok (.i2b, 1) := by decide +kernel
theorem d1_19 : decode method_2_code 19 = .ok (.ireturn, 1) := by decide +kernel
theorem pn_0 : plainName "com/example/archwright/archwright/xsd/ValueTypeTrimEndPinLaw" = true := by first | (simp [plainName, overriddenIn]; done) | decide +kernel
theorem ef_1 (m : MethodId) (p1 : Int64) (p2 : Int32) (p3 : Int32) : entryFrame m #[(.long p1), (.int p2), (.int p3)] 4 = mkF m 0 #[.val (.long p1), .second, .val (.int p2), .val (.int p3)] [] := by first | (simp [entryFrame, mkF, argsToLocals, Value.category]; done) | rfl
def Q1 (Z : State) (p1 : Int64) (p2 : Int32) (p3 : Int32)  (h0 : Heap) (n0 : Nat) (v : Option Value) (h : Heap) (L : List Loc) : Prop := v = some (.int (own_pk p1 p2 p3)) ∧ Fr n0 L ∧ h = h0
set_option maxRecDepth 65536 in
set_option maxHeartbeats 40000000 in
theorem rm1 (l : Launch) (Z : State) (a0 : Array Value) (hw : ∀ d ∈ tables_1, d.before a0 Z = true) (p1 : Int64) (p2 : Int32) (p3 : Int32)  (h0 : Heap) (n0 : Nat) (Z0 : n0 ≤ h0.size)  :
    MetFree l (⟨"com/example/archwright/archwright/xsd/ValueTypeTrimEndPinLaw", "pick", "(JII)B"⟩ : MethodName) (head1 [Jvm.Cond.code (⟨"com/example/archwright/archwright/xsd/ValueTypeTrimEndPinLaw", "pick", "(JII)B"⟩ : MethodName) method_2_code 4 (some .byte)] ({ frames := 0, cells := 0, slots := 0, locals := 0 } : Room)) (fun a U => a = #[(.long p1), (.int p2), (.int p3)] ∧ Z.Warmed39 U.vm ∧ U.heap = h0) (fun _ _ _ _ _ => True) (fun _ U o U' => ∃ v L, o = .returned v ∧ Q1 Z p1 p2 p3  h0 n0 v U'.heap L ∧ FrameEnd U o U' L ({ frames := 0, cells := 0, slots := 0, locals := 0 } : Room).cells ({ frames := 0, cells := 0, slots := 0, locals := 0 } : Room).slots) := by
  refine MetFree.of_bodySF (plainFor_of_name pn_0) hisR ?_
  intro p e s m args below meth c s₁ Bd hml0 hP hK
  obtain ⟨rfl, hZ, hh⟩ := hP
  have hx := Bd.exec
  have hby := Bd.bytes
  have hlk : meth.locks = false := Bd.notSynchronized
  have hml : c.maxLocals = 4 := hml0
  have hown : s.vm.findClass "com/example/archwright/archwright/xsd/ValueTypeTrimEndPinLaw" = some m.cls := findClass_of_methodNamed Bd.named
  have hnm := (name_of_methodNamed Bd.named Bd.method).1
  have X0 : Stand p l e ({ frames := 0, cells := 0, slots := 0, locals := 0 } : Room) s m #[(.long p1), (.int p2), (.int p3)] below meth c s₁ [] 0 0 := Stand.of_body Bd
  have e0 : s₁.heap = h0 := by rw [← hh, Bd.state]; rfl
  have N0 := Fr.nil n0
  show Gl p e below s (Q1 Z p1 p2 p3  h0 n0) 0 0 s₁ (entryFrame m #[(.long p1), (.int p2), (.int p3)] 4)
  rw [ef_1 m p1 p2 p3]
  refine Gl.st (g' := (mkF m 1 #[.val (.long p1), .second, .val (.int p2), .val (.int p3)] [(.int p2)])) (fun t k => XS.iloadN X0.here hx rfl (hb hby d1_0) rfl k) ?_
  refine Gl.st (g' := (mkF m 2 #[.val (.long p1), .second, .val (.int p2), .val (.int p3)] [(.int p3), (.int p2)])) (fun t k => XS.iloadN X0.here hx rfl (hb hby d1_1) rfl k) ?_
  refine Gl.st (g' := (mkF m 3 #[.val (.long p1), .second, .val (.int p2), .val (.int p3)] [(.int (p2 >>> (p3 &&& 31)))])) (fun t k => XS.ishr X0.here hx rfl (hb hby d1_2) rfl k) ?_
  refine Gl.st (g' := (mkF m 4 #[.val (.long p1), .second, .val (.int p2), .val (.int p3)] [(.int (1 : Int32)), (.int (p2 >>> (p3 &&& 31)))])) (fun t k => XT.iconstV X0.here hx rfl (1 : Int32) (hb hby d1_3) rfl k) ?_
  refine Gl.st (g' := (mkF m 5 #[.val (.long p1), .second, .val (.int p2), .val (.int p3)] [(.int ((p2 >>> (p3 &&& 31)) &&& (1 : Int32)))])) (fun t k => XS.iand X0.here hx rfl (hb hby d1_4) rfl k) ?_
  by_cases c1 : ((p2 >>> (p3 &&& 31)) &&& (1 : Int32)) = (0 : Int32)
  · skip
    refine Gl.st (g' := (mkF m 11 #[.val (.long p1), .second, .val (.int p2), .val (.int p3)] [])) (fun t k => XS.ifYes X0.here hx rfl (pc0 := 5) (pc' := 11) rfl (hb hby d1_5) rfl (XT.i0_eq_t c1) (by decide) (by decide) k) ?_
    refine Gl.st (g' := (mkF m 12 #[.val (.long p1), .second, .val (.int p2), .val (.int p3)] [(.long p1)])) (fun t k => XS.lloadN X0.here hx rfl (hb hby d1_11) rfl k) ?_
    refine Gl.st (g' := (mkF m 14 #[.val (.long p1), .second, .val (.int p2), .val (.int p3)] [(.int (8 : Int32)), (.long p1)])) (fun t k => XT.bipushV X0.here hx rfl (8 : Int32) (hb hby d1_12) rfl k) ?_
    refine Gl.st (g' := (mkF m 15 #[.val (.long p1), .second, .val (.int p2), .val (.int p3)] [(.int p3), (.int (8 : Int32)), (.long p1)])) (fun t k => XS.iloadN X0.here hx rfl (hb hby d1_14) rfl k) ?_
    refine Gl.st (g' := (mkF m 16 #[.val (.long p1), .second, .val (.int p2), .val (.int p3)] [(.int ((8 : Int32) * p3)), (.long p1)])) (fun t k => XS.imul X0.here hx rfl (hb hby d1_15) rfl k) ?_
    refine Gl.st (g' := (mkF m 17 #[.val (.long p1), .second, .val (.int p2), .val (.int p3)] [(.long (p1 >>> (((8 : Int32) * p3) &&& 0x3f).toInt64))])) (fun t k => XS.lshr X0.here hx rfl (hb hby d1_16) rfl k) ?_
    refine Gl.st (g' := (mkF m 18 #[.val (.long p1), .second, .val (.int p2), .val (.int p3)] [(.int ((p1 >>> (((8 : Int32) * p3) &&& 0x3f).toInt64).toInt32))])) (fun t k => XS.l2i X0.here hx rfl (hb hby d1_17) rfl k) ?_
    refine Gl.st (g' := (mkF m 19 #[.val (.long p1), .second, .val (.int p2), .val (.int p3)] [(.int (((p1 >>> (((8 : Int32) * p3) &&& 0x3f).toInt64).toInt32).toInt8.toInt32))])) (fun t k => XS.i2b X0.here hx rfl (hb hby d1_18) rfl k) ?_
    refine Gl.retZ X0 hx hlk .byte (by simp) Bd.returns (hb hby d1_19) e0 (by decide) (by decide) ?_
    refine ⟨?_, N0, rfl⟩
    unfold own_pk
    rw [if_pos c1]
  · skip
    refine Gl.st (g' := (mkF m 8 #[.val (.long p1), .second, .val (.int p2), .val (.int p3)] [])) (fun t k => XS.ifNo X0.here hx rfl (hb hby d1_5) rfl (XT.i0_eq_f c1) k) ?_
    refine Gl.st (g' := (mkF m 10 #[.val (.long p1), .second, .val (.int p2), .val (.int p3)] [(.int (32 : Int32))])) (fun t k => XT.bipushV X0.here hx rfl (32 : Int32) (hb hby d1_8) rfl k) ?_
    refine Gl.retZ X0 hx hlk .byte (by simp) Bd.returns (hb hby d1_10) e0 (by decide) (by decide) ?_
    refine ⟨?_, N0, rfl⟩
    unfold own_pk
    rw [if_neg c1]
theorem d2_0 : decode prog_83_method_7_code 0 = .ok (.iload_n 0, 1) := by decide +kernel
theorem d2_1 : decode prog_83_method_7_code 1 = .ok (.bipush 32, 2) := by decide +kernel
theorem d2_3 : decode prog_83_method_7_code 3 = .ok (.if_icmp .ne 7, 3) := by decide +kernel
theorem d2_6 : decode prog_83_method_7_code 6 = .ok (.iconst 1, 1) := by decide +kernel
theorem d2_7 : decode prog_83_method_7_code 7 = .ok (.goto 4, 3) := by decide +kernel
theorem d2_10 : decode prog_83_method_7_code 10 = .ok (.iconst 0, 1) := by decide +kernel
theorem d2_11 : decode prog_83_method_7_code 11 = .ok (.ireturn, 1) := by decide +kernel
theorem pn_1 : plainName "com/example/archwright/archwright/xsd/ValueType" = true := by first | (simp [plainName, overriddenIn]; done) | decide +kernel
theorem ef_2 (m : MethodId) (p1 : Int32) : entryFrame m #[(.int p1)] 1 = mkF m 0 #[.val (.int p1)] [] := by first | (simp [entryFrame, mkF, argsToLocals, Value.category]; done) | rfl
def Q2 (Z : State) (p1 : Int32)  (h0 : Heap) (n0 : Nat) (v : Option Value) (h : Heap) (L : List Loc) : Prop := v = some (.int (own_sp p1)) ∧ Fr n0 L ∧ h = h0
set_option maxRecDepth 65536 in
set_option maxHeartbeats 40000000 in
theorem rm2 (l : Launch) (Z : State) (a0 : Array Value) (hw : ∀ d ∈ tables_1, d.before a0 Z = true) (p1 : Int32)  (h0 : Heap) (n0 : Nat) (Z0 : n0 ≤ h0.size)  :
    MetFree l (⟨"com/example/archwright/archwright/xsd/ValueType", "isSpace", "(B)Z"⟩ : MethodName) (head1 [Jvm.Cond.code (⟨"com/example/archwright/archwright/xsd/ValueType", "isSpace", "(B)Z"⟩ : MethodName) prog_83_method_7_code 1 (some .boolean)] ({ frames := 0, cells := 0, slots := 0, locals := 0 } : Room)) (fun a U => a = #[(.int p1)] ∧ Z.Warmed39 U.vm ∧ U.heap = h0) (fun _ _ _ _ _ => True) (fun _ U o U' => ∃ v L, o = .returned v ∧ Q2 Z p1  h0 n0 v U'.heap L ∧ FrameEnd U o U' L ({ frames := 0, cells := 0, slots := 0, locals := 0 } : Room).cells ({ frames := 0, cells := 0, slots := 0, locals := 0 } : Room).slots) := by
  refine MetFree.of_bodySF (plainFor_of_name pn_1) hisR ?_
  intro p e s m args below meth c s₁ Bd hml0 hP hK
  obtain ⟨rfl, hZ, hh⟩ := hP
  have hx := Bd.exec
  have hby := Bd.bytes
  have hlk : meth.locks = false := Bd.notSynchronized
  have hml : c.maxLocals = 1 := hml0
  have hown : s.vm.findClass "com/example/archwright/archwright/xsd/ValueType" = some m.cls := findClass_of_methodNamed Bd.named
  have hnm := (name_of_methodNamed Bd.named Bd.method).1
  have X0 : Stand p l e ({ frames := 0, cells := 0, slots := 0, locals := 0 } : Room) s m #[(.int p1)] below meth c s₁ [] 0 0 := Stand.of_body Bd
  have e0 : s₁.heap = h0 := by rw [← hh, Bd.state]; rfl
  have N0 := Fr.nil n0
  show Gl p e below s (Q2 Z p1  h0 n0) 0 0 s₁ (entryFrame m #[(.int p1)] 1)
  rw [ef_2 m p1]
  refine Gl.st (g' := (mkF m 1 #[.val (.int p1)] [(.int p1)])) (fun t k => XS.iloadN X0.here hx rfl (hb hby d2_0) rfl k) ?_
  refine Gl.st (g' := (mkF m 3 #[.val (.int p1)] [(.int (32 : Int32)), (.int p1)])) (fun t k => XT.bipushV X0.here hx rfl (32 : Int32) (hb hby d2_1) rfl k) ?_
  by_cases c2 : p1 = (32 : Int32)
  · skip
    refine Gl.st (g' := (mkF m 6 #[.val (.int p1)] [])) (fun t k => XS.icmpNo X0.here hx rfl (hb hby d2_3) rfl (XT.ii_ne_f c2) k) ?_
    refine Gl.st (g' := (mkF m 7 #[.val (.int p1)] [(.int (1 : Int32))])) (fun t k => XT.iconstV X0.here hx rfl (1 : Int32) (hb hby d2_6) rfl k) ?_
    refine Gl.st (g' := (mkF m 11 #[.val (.int p1)] [(.int (1 : Int32))])) (fun t k => XS.goto X0.here hx rfl (pc0 := 7) (pc' := 11) rfl (hb hby d2_7) (by decide) (by decide) k) ?_
    refine Gl.retZ X0 hx hlk .boolean (by simp) Bd.returns (hb hby d2_11) e0 (by decide) (by decide) ?_
    refine ⟨?_, N0, rfl⟩
    rw [own_z1]
    unfold own_sp
    rw [if_pos c2]
  · skip
    refine Gl.st (g' := (mkF m 10 #[.val (.int p1)] [])) (fun t k => XS.icmpYes X0.here hx rfl (pc0 := 3) (pc' := 10) rfl (hb hby d2_3) rfl (XT.ii_ne_t c2) (by decide) (by decide) k) ?_
    refine Gl.st (g' := (mkF m 11 #[.val (.int p1)] [(.int (0 : Int32))])) (fun t k => XT.iconstV X0.here hx rfl (0 : Int32) (hb hby d2_10) rfl k) ?_
    refine Gl.retZ X0 hx hlk .boolean (by simp) Bd.returns (hb hby d2_11) e0 (by decide) (by decide) ?_
    refine ⟨?_, N0, rfl⟩
    rw [own_z0]
    unfold own_sp
    rw [if_neg c2]
theorem d3_0 : decode method_3_code 0 = .ok (.iload_n 1, 1) := by decide +kernel
theorem d3_1 : decode method_3_code 1 = .ok (.iload_n 2, 1) := by decide +kernel
theorem d3_2 : decode method_3_code 2 = .ok (.if_icmp .lt 16, 3) := by decide +kernel
theorem d3_5 : decode method_3_code 5 = .ok (.iload_n 1, 1) := by decide +kernel
theorem d3_6 : decode method_3_code 6 = .ok (.iload_n 3, 1) := by decide +kernel
theorem d3_7 : decode method_3_code 7 = .ok (.if_icmp .ge 11, 3) := by decide +kernel
theorem d3_10 : decode method_3_code 10 = .ok (.aload_n 0, 1) := by decide +kernel
theorem d3_11 : decode method_3_code 11 = .ok (.iload_n 1, 1) := by decide +kernel
theorem d3_12 : decode method_3_code 12 = .ok (.baload, 1) := by decide +kernel
theorem d3_13 : decode method_3_code 13 = .ok (.bipush 32, 2) := by decide +kernel
theorem d3_15 : decode method_3_code 15 = .ok (.if_icmp .ne 7, 3) := by decide +kernel
theorem d3_18 : decode method_3_code 18 = .ok (.iconst 1, 1) := by decide +kernel
theorem d3_19 : decode method_3_code 19 = .ok (.goto 4, 3) := by decide +kernel
theorem d3_22 : decode method_3_code 22 = .ok (.iconst 0, 1) := by decide +kernel
theorem d3_23 : decode method_3_code 23 = .ok (.ireturn, 1) := by decide +kernel
theorem ef_3 (m : MethodId) (a1 : Addr) (p2 : Int32) (p3 : Int32) (p4 : Int32) : entryFrame m #[(.ref a1), (.int p2), (.int p3), (.int p4)] 4 = mkF m 0 #[.val (.ref a1), .val (.int p2), .val (.int p3), .val (.int p4)] [] := by first | (simp [entryFrame, mkF, argsToLocals, Value.category]; done) | rfl
def Q3 (Z : State) (a1 : Addr) (p2 : Int32) (p3 : Int32) (p4 : Int32) (ys : List Int32) (kA : ClassId) (zz y : Int32) (h0 : Heap) (n0 : Nat) (v : Option Value) (h : Heap) (L : List Loc) : Prop := v = some (.int (own_si y p2 p3 p4)) ∧ Fr n0 L ∧ h = h0
set_option maxRecDepth 65536 in
set_option maxHeartbeats 40000000 in
theorem rm3 (l : Launch) (Z : State) (a0 : Array Value) (hw : ∀ d ∈ tables_1, d.before a0 Z = true) (a1 : Addr) (p2 : Int32) (p3 : Int32) (p4 : Int32) (ys : List Int32) (kA : ClassId) (zz y : Int32) (h0 : Heap) (n0 : Nat) (Z0 : n0 ≤ h0.size) (F : Arv Z h0 a1 kA .byte zz (ys.map Value.int) (.int (0 : Int32))) (hj : ¬ p2 < 0 ∧ p2 < zz) (hu : (ys.map Value.int).getD p2.toNatClampNeg (.int (0 : Int32)) = .int y) :
    MetFree l (⟨"com/example/archwright/archwright/xsd/ValueTypeTrimEndPinLaw", "spaceIfInside", "([BIII)Z"⟩ : MethodName) (head1 [Jvm.Cond.code (⟨"com/example/archwright/archwright/xsd/ValueTypeTrimEndPinLaw", "spaceIfInside", "([BIII)Z"⟩ : MethodName) method_3_code 4 (some .boolean)] ({ frames := 0, cells := 0, slots := 0, locals := 0 } : Room)) (fun a U => a = #[(.ref a1), (.int p2), (.int p3), (.int p4)] ∧ Z.Warmed39 U.vm ∧ U.heap = h0) (fun _ _ _ _ _ => True) (fun _ U o U' => ∃ v L, o = .returned v ∧ Q3 Z a1 p2 p3 p4 ys kA zz y h0 n0 v U'.heap L ∧ FrameEnd U o U' L ({ frames := 0, cells := 0, slots := 0, locals := 0 } : Room).cells ({ frames := 0, cells := 0, slots := 0, locals := 0 } : Room).slots) := by
  refine MetFree.of_bodySF (plainFor_of_name pn_0) hisR ?_
  intro p e s m args below meth c s₁ Bd hml0 hP hK
  obtain ⟨rfl, hZ, hh⟩ := hP
  have hx := Bd.exec
  have hby := Bd.bytes
  have hlk : meth.locks = false := Bd.notSynchronized
  have hml : c.maxLocals = 4 := hml0
  have hown : s.vm.findClass "com/example/archwright/archwright/xsd/ValueTypeTrimEndPinLaw" = some m.cls := findClass_of_methodNamed Bd.named
  have hnm := (name_of_methodNamed Bd.named Bd.method).1
  have X0 : Stand p l e ({ frames := 0, cells := 0, slots := 0, locals := 0 } : Room) s m #[(.ref a1), (.int p2), (.int p3), (.int p4)] below meth c s₁ [] 0 0 := Stand.of_body Bd
  have e0 : s₁.heap = h0 := by rw [← hh, Bd.state]; rfl
  have N0 := Fr.nil n0
  show Gl p e below s (Q3 Z a1 p2 p3 p4 ys kA zz y h0 n0) 0 0 s₁ (entryFrame m #[(.ref a1), (.int p2), (.int p3), (.int p4)] 4)
  rw [ef_3 m a1 p2 p3 p4]
  refine Gl.st (g' := (mkF m 1 #[.val (.ref a1), .val (.int p2), .val (.int p3), .val (.int p4)] [(.int p2)])) (fun t k => XS.iloadN X0.here hx rfl (hb hby d3_0) rfl k) ?_
  refine Gl.st (g' := (mkF m 2 #[.val (.ref a1), .val (.int p2), .val (.int p3), .val (.int p4)] [(.int p3), (.int p2)])) (fun t k => XS.iloadN X0.here hx rfl (hb hby d3_1) rfl k) ?_
  by_cases c3 : p2 < p3
  · skip
    refine Gl.st (g' := (mkF m 18 #[.val (.ref a1), .val (.int p2), .val (.int p3), .val (.int p4)] [])) (fun t k => XS.icmpYes X0.here hx rfl (pc0 := 2) (pc' := 18) rfl (hb hby d3_2) rfl (XT.ii_lt_t c3) (by decide) (by decide) k) ?_
    refine Gl.st (g' := (mkF m 19 #[.val (.ref a1), .val (.int p2), .val (.int p3), .val (.int p4)] [(.int (1 : Int32))])) (fun t k => XT.iconstV X0.here hx rfl (1 : Int32) (hb hby d3_18) rfl k) ?_
    refine Gl.st (g' := (mkF m 23 #[.val (.ref a1), .val (.int p2), .val (.int p3), .val (.int p4)] [(.int (1 : Int32))])) (fun t k => XS.goto X0.here hx rfl (pc0 := 19) (pc' := 23) rfl (hb hby d3_19) (by decide) (by decide) k) ?_
    refine Gl.retZ X0 hx hlk .boolean (by simp) Bd.returns (hb hby d3_23) e0 (by decide) (by decide) ?_
    refine ⟨?_, N0, rfl⟩
    rw [own_z1]
    unfold own_si
    rw [if_pos c3]
  · skip
    refine Gl.st (g' := (mkF m 5 #[.val (.ref a1), .val (.int p2), .val (.int p3), .val (.int p4)] [])) (fun t k => XS.icmpNo X0.here hx rfl (hb hby d3_2) rfl (XT.ii_lt_f c3) k) ?_
    refine Gl.st (g' := (mkF m 6 #[.val (.ref a1), .val (.int p2), .val (.int p3), .val (.int p4)] [(.int p2)])) (fun t k => XS.iloadN X0.here hx rfl (hb hby d3_5) rfl k) ?_
    refine Gl.st (g' := (mkF m 7 #[.val (.ref a1), .val (.int p2), .val (.int p3), .val (.int p4)] [(.int p4), (.int p2)])) (fun t k => XS.iloadN X0.here hx rfl (hb hby d3_6) rfl k) ?_
    by_cases c4 : p2 < p4
    · skip
      refine Gl.st (g' := (mkF m 10 #[.val (.ref a1), .val (.int p2), .val (.int p3), .val (.int p4)] [])) (fun t k => XS.icmpNo X0.here hx rfl (hb hby d3_7) rfl (XT.ii_ge_f c4) k) ?_
      refine Gl.st (g' := (mkF m 11 #[.val (.ref a1), .val (.int p2), .val (.int p3), .val (.int p4)] [(.ref a1)])) (fun t k => XS.aloadN X0.here hx rfl (hb hby d3_10) rfl rfl k) ?_
      refine Gl.st (g' := (mkF m 12 #[.val (.ref a1), .val (.int p2), .val (.int p3), .val (.int p4)] [(.int p2), (.ref a1)])) (fun t k => XS.iloadN X0.here hx rfl (hb hby d3_11) rfl k) ?_
      refine Gl.st (g' := (mkF m 13 #[.val (.ref a1), .val (.int p2), .val (.int p3), .val (.int p4)] [(.int y)])) (own_ldB X0 hx hZ e0 F (j := p2) (v := (.int y)) hj hu (g := (mkF m 12 #[.val (.ref a1), .val (.int p2), .val (.int p3), .val (.int p4)] [(.int p2), (.ref a1)])) rfl rfl (hb hby d3_12)) ?_
      refine Gl.st (g' := (mkF m 15 #[.val (.ref a1), .val (.int p2), .val (.int p3), .val (.int p4)] [(.int (32 : Int32)), (.int y)])) (fun t k => XT.bipushV X0.here hx rfl (32 : Int32) (hb hby d3_13) rfl k) ?_
      by_cases c5 : y = (32 : Int32)
      · skip
        refine Gl.st (g' := (mkF m 18 #[.val (.ref a1), .val (.int p2), .val (.int p3), .val (.int p4)] [])) (fun t k => XS.icmpNo X0.here hx rfl (hb hby d3_15) rfl (XT.ii_ne_f c5) k) ?_
        refine Gl.st (g' := (mkF m 19 #[.val (.ref a1), .val (.int p2), .val (.int p3), .val (.int p4)] [(.int (1 : Int32))])) (fun t k => XT.iconstV X0.here hx rfl (1 : Int32) (hb hby d3_18) rfl k) ?_
        refine Gl.st (g' := (mkF m 23 #[.val (.ref a1), .val (.int p2), .val (.int p3), .val (.int p4)] [(.int (1 : Int32))])) (fun t k => XS.goto X0.here hx rfl (pc0 := 19) (pc' := 23) rfl (hb hby d3_19) (by decide) (by decide) k) ?_
        refine Gl.retZ X0 hx hlk .boolean (by simp) Bd.returns (hb hby d3_23) e0 (by decide) (by decide) ?_
        refine ⟨?_, N0, rfl⟩
        rw [own_z1]
        unfold own_si
        rw [if_neg c3, if_pos c4, if_pos c5]
      · skip
        refine Gl.st (g' := (mkF m 22 #[.val (.ref a1), .val (.int p2), .val (.int p3), .val (.int p4)] [])) (fun t k => XS.icmpYes X0.here hx rfl (pc0 := 15) (pc' := 22) rfl (hb hby d3_15) rfl (XT.ii_ne_t c5) (by decide) (by decide) k) ?_
        refine Gl.st (g' := (mkF m 23 #[.val (.ref a1), .val (.int p2), .val (.int p3), .val (.int p4)] [(.int (0 : Int32))])) (fun t k => XT.iconstV X0.here hx rfl (0 : Int32) (hb hby d3_22) rfl k) ?_
        refine Gl.retZ X0 hx hlk .boolean (by simp) Bd.returns (hb hby d3_23) e0 (by decide) (by decide) ?_
        refine ⟨?_, N0, rfl⟩
        rw [own_z0]
        unfold own_si
        rw [if_neg c3, if_pos c4, if_neg c5]
    · skip
      refine Gl.st (g' := (mkF m 18 #[.val (.ref a1), .val (.int p2), .val (.int p3), .val (.int p4)] [])) (fun t k => XS.icmpYes X0.here hx rfl (pc0 := 7) (pc' := 18) rfl (hb hby d3_7) rfl (XT.ii_ge_t c4) (by decide) (by decide) k) ?_
      refine Gl.st (g' := (mkF m 19 #[.val (.ref a1), .val (.int p2), .val (.int p3), .val (.int p4)] [(.int (1 : Int32))])) (fun t k => XT.iconstV X0.here hx rfl (1 : Int32) (hb hby d3_18) rfl k) ?_
      refine Gl.st (g' := (mkF m 23 #[.val (.ref a1), .val (.int p2), .val (.int p3), .val (.int p4)] [(.int (1 : Int32))])) (fun t k => XS.goto X0.here hx rfl (pc0 := 19) (pc' := 23) rfl (hb hby d3_19) (by decide) (by decide) k) ?_
      refine Gl.retZ X0 hx hlk .boolean (by simp) Bd.returns (hb hby d3_23) e0 (by decide) (by decide) ?_
      refine ⟨?_, N0, rfl⟩
      rw [own_z1]
      unfold own_si
      rw [if_neg c3, if_neg c4]
theorem pd_0 : parseMethodDescriptor "(JII)B" = some ⟨[.long, .int, .int], some .byte⟩ := by decide +kernel
theorem pd_1 : parseMethodDescriptor "(B)Z" = some ⟨[.byte], some .boolean⟩ := by decide +kernel
theorem pd_2 : parseMethodDescriptor "([BIII)Z" = some ⟨[(.array .byte), .int, .int, .int], some .boolean⟩ := by decide +kernel
theorem d4_0 : decode prog_83_method_9_code 0 = .ok (.iload_n 2, 1) := by decide +kernel
theorem d4_1 : decode prog_83_method_9_code 1 = .ok (.iload_n 1, 1) := by decide +kernel
theorem d4_2 : decode prog_83_method_9_code 2 = .ok (.if_icmp .le 20, 3) := by decide +kernel
theorem d4_5 : decode prog_83_method_9_code 5 = .ok (.aload_n 0, 1) := by decide +kernel
theorem d4_6 : decode prog_83_method_9_code 6 = .ok (.iload_n 2, 1) := by decide +kernel
theorem d4_7 : decode prog_83_method_9_code 7 = .ok (.iconst 1, 1) := by decide +kernel
theorem d4_8 : decode prog_83_method_9_code 8 = .ok (.isub, 1) := by decide +kernel
theorem d4_9 : decode prog_83_method_9_code 9 = .ok (.baload, 1) := by decide +kernel
theorem d4_10 : decode prog_83_method_9_code 10 = .ok (.invokestatic 138, 3) := by decide +kernel
theorem d4_13 : decode prog_83_method_9_code 13 = .ok (.ifCond .eq 9, 3) := by decide +kernel
theorem d4_16 : decode prog_83_method_9_code 16 = .ok (.iinc 2 (-1), 3) := by decide +kernel
theorem d4_19 : decode prog_83_method_9_code 19 = .ok (.goto (-19), 3) := by decide +kernel
theorem d4_22 : decode prog_83_method_9_code 22 = .ok (.iload_n 2, 1) := by decide +kernel
theorem d4_23 : decode prog_83_method_9_code 23 = .ok (.ireturn, 1) := by decide +kernel
theorem ef_4 (m : MethodId) (a1 : Addr) (p2 : Int32) (p3 : Int32) : entryFrame m #[(.ref a1), (.int p2), (.int p3)] 3 = mkF m 0 #[.val (.ref a1), .val (.int p2), .val (.int p3)] [] := by first | (simp [entryFrame, mkF, argsToLocals, Value.category]; done) | rfl
def Q4 (Z : State) (a1 : Addr) (p2 : Int32) (p3 : Int32) (ys : List Int32) (kA : ClassId) (zz : Int32) (sn en : Nat) (h0 : Heap) (n0 : Nat) (v : Option Value) (h : Heap) (L : List Loc) : Prop := v = some (.int (Int32.ofNat (own_tr ys sn en))) ∧ Fr n0 L ∧ h = h0
set_option maxRecDepth 65536 in
set_option maxHeartbeats 40000000 in
theorem rm4 (l : Launch) (Z : State) (a0 : Array Value) (hw : ∀ d ∈ tables_1, d.before a0 Z = true) (a1 : Addr) (p2 : Int32) (p3 : Int32) (ys : List Int32) (kA : ClassId) (zz : Int32) (sn en : Nat) (h0 : Heap) (n0 : Nat) (Z0 : n0 ≤ h0.size) (F : Arv Z h0 a1 kA .byte zz (ys.map Value.int) (.int (0 : Int32))) (hz : zz = Int32.ofNat ys.length) (hl : ys.length ≤ 16) (hs : p2 = Int32.ofNat sn) (he : p3 = Int32.ofNat en) (h1 : sn ≤ en) (h2 : en ≤ ys.length) :
    MetFree l (⟨"com/example/archwright/archwright/xsd/ValueType", "trimEnd", "([BII)I"⟩ : MethodName) (head1 [Jvm.Cond.code (⟨"com/example/archwright/archwright/xsd/ValueType", "trimEnd", "([BII)I"⟩ : MethodName) prog_83_method_9_code 3 (some .int)] ({ frames := 1, cells := 0, slots := 0, locals := 12 } : Room)) (fun a U => a = #[(.ref a1), (.int p2), (.int p3)] ∧ Z.Warmed39 U.vm ∧ U.heap = h0) (fun _ _ _ _ _ => True) (fun _ U o U' => ∃ v L, o = .returned v ∧ Q4 Z a1 p2 p3 ys kA zz sn en h0 n0 v U'.heap L ∧ FrameEnd U o U' L ({ frames := 1, cells := 0, slots := 0, locals := 12 } : Room).cells ({ frames := 1, cells := 0, slots := 0, locals := 12 } : Room).slots) := by
  refine MetFree.of_bodySF (plainFor_of_name pn_1) hisR ?_
  intro p e s m args below meth c s₁ Bd hml0 hP hK
  obtain ⟨rfl, hZ, hh⟩ := hP
  have hx := Bd.exec
  have hby := Bd.bytes
  have hlk : meth.locks = false := Bd.notSynchronized
  have hml : c.maxLocals = 3 := hml0
  have hown : s.vm.findClass "com/example/archwright/archwright/xsd/ValueType" = some m.cls := findClass_of_methodNamed Bd.named
  have hnm := (name_of_methodNamed Bd.named Bd.method).1
  have X0 : Stand p l e ({ frames := 1, cells := 0, slots := 0, locals := 12 } : Room) s m #[(.ref a1), (.int p2), (.int p3)] below meth c s₁ [] 0 0 := Stand.of_body Bd
  have e0 : s₁.heap = h0 := by rw [← hh, Bd.state]; rfl
  have N0 := Fr.nil n0
  show Gl p e below s (Q4 Z a1 p2 p3 ys kA zz sn en h0 n0) 0 0 s₁ (entryFrame m #[(.ref a1), (.int p2), (.int p3)] 3)
  rw [ef_4 m a1 p2 p3]
  have loop : ∀ (k : Nat) (T : State) (locs : List Loc) (X : Stand p l e ({ frames := 1, cells := 0, slots := 0, locals := 12 } : Room) s m #[(.ref a1), (.int p2), (.int p3)] below meth c T locs 0 0) (N : Fr n0 locs) (eT : T.heap = h0), k ≤ en → own_tr ys sn k = own_tr ys sn en → Gl p e below s (Q4 Z a1 p2 p3 ys kA zz sn en h0 n0) 0 0 T (mkF m 0 #[.val (.ref a1), .val (.int p2), .val (.int (Int32.ofNat k))] []) := by
    intro k
    induction k with
    | zero =>
      intro T locs X N eT hk hq
      refine Gl.st (g' := (mkF m 1 #[.val (.ref a1), .val (.int p2), .val (.int (Int32.ofNat 0))] [(.int (Int32.ofNat 0))])) (fun t k => XS.iloadN X.here hx rfl (hb hby d4_0) rfl k) ?_
      refine Gl.st (g' := (mkF m 2 #[.val (.ref a1), .val (.int p2), .val (.int (Int32.ofNat 0))] [(.int p2), (.int (Int32.ofNat 0))])) (fun t k => XS.iloadN X.here hx rfl (hb hby d4_1) rfl k) ?_
      refine Gl.st (g' := (mkF m 22 #[.val (.ref a1), .val (.int p2), .val (.int (Int32.ofNat 0))] [])) (fun t k => XS.icmpYes X.here hx rfl (pc0 := 2) (pc' := 22) rfl (hb hby d4_2) rfl (XT.ii_le_t (own_nlt (by rw [hs, own_nat (i := sn) (by omega)]; show (0 : Int) ≤ _; omega))) (by decide) (by decide) k) ?_
      refine Gl.st (g' := (mkF m 23 #[.val (.ref a1), .val (.int p2), .val (.int (Int32.ofNat 0))] [(.int (Int32.ofNat 0))])) (fun t k => XS.iloadN X.here hx rfl (hb hby d4_22) rfl k) ?_
      refine Gl.retI X hx hlk Bd.returns (hb hby d4_23) eT (by decide) (by decide) ?_
      exact ⟨by rw [← hq]; rfl, N, rfl⟩
    | succ k ih =>
      intro T locs X N eT hk hq0
      refine Gl.st (g' := (mkF m 1 #[.val (.ref a1), .val (.int p2), .val (.int (Int32.ofNat (k + 1)))] [(.int (Int32.ofNat (k + 1)))])) (fun t k => XS.iloadN X.here hx rfl (hb hby d4_0) rfl k) ?_
      refine Gl.st (g' := (mkF m 2 #[.val (.ref a1), .val (.int p2), .val (.int (Int32.ofNat (k + 1)))] [(.int p2), (.int (Int32.ofNat (k + 1)))])) (fun t k => XS.iloadN X.here hx rfl (hb hby d4_1) rfl k) ?_
      by_cases c6 : p2 < (Int32.ofNat (k + 1))
      · skip
        refine Gl.st (g' := (mkF m 5 #[.val (.ref a1), .val (.int p2), .val (.int (Int32.ofNat (k + 1)))] [])) (fun t k => XS.icmpNo X.here hx rfl (hb hby d4_2) rfl (XT.ii_le_f c6) k) ?_
        refine Gl.st (g' := (mkF m 6 #[.val (.ref a1), .val (.int p2), .val (.int (Int32.ofNat (k + 1)))] [(.ref a1)])) (fun t k => XS.aloadN X.here hx rfl (hb hby d4_5) rfl rfl k) ?_
        refine Gl.st (g' := (mkF m 7 #[.val (.ref a1), .val (.int p2), .val (.int (Int32.ofNat (k + 1)))] [(.int (Int32.ofNat (k + 1))), (.ref a1)])) (fun t k => XS.iloadN X.here hx rfl (hb hby d4_6) rfl k) ?_
        refine Gl.st (g' := (mkF m 8 #[.val (.ref a1), .val (.int p2), .val (.int (Int32.ofNat (k + 1)))] [(.int (1 : Int32)), (.int (Int32.ofNat (k + 1))), (.ref a1)])) (fun t k => XT.iconstV X.here hx rfl (1 : Int32) (hb hby d4_7) rfl k) ?_
        refine Gl.st (g' := (mkF m 9 #[.val (.ref a1), .val (.int p2), .val (.int (Int32.ofNat (k + 1)))] [(.int ((Int32.ofNat (k + 1)) - (1 : Int32))), (.ref a1)])) (fun t k => XS.isub X.here hx rfl (hb hby d4_8) rfl k) ?_
        have hlt : sn < k + 1 := own_li hs rfl c6 (by omega) (by omega)
        refine Gl.st (g' := (mkF m 10 #[.val (.ref a1), .val (.int p2), .val (.int (Int32.ofNat (k + 1)))] [(.int (ys.getD k 0))])) (own_ldB X hx hZ eT F (j := ((Int32.ofNat (k + 1)) - (1 : Int32))) (v := (.int (ys.getD k 0))) ⟨own_ge0 (own_dec k) (by omega), own_il (own_dec k) hz (by omega) hl⟩ (own_get ys (own_dec k) (by omega)) (g := (mkF m 9 #[.val (.ref a1), .val (.int p2), .val (.int (Int32.ofNat (k + 1)))] [(.int ((Int32.ofNat (k + 1)) - (1 : Int32))), (.ref a1)])) rfl rfl (hb hby d4_9)) ?_
        obtain ⟨_, _, ⟨T7, L7, k7, n7⟩, -, X7, ⟨Lc7, hQ7, l7, y7, z7⟩, st7⟩ := Jvm.LawKit.callS X hx (y := (⟨"com/example/archwright/archwright/xsd/ValueType", "isSpace", "(B)Z"⟩ : MethodName)) hown (mvT hZ (hw _ (List.mem_of_getElem? (i := 10) rfl))) (mvT hZ (hw _ (List.mem_of_getElem? (i := 11) rfl))) (mvT hZ (hw _ (List.mem_of_getElem? (i := 8) rfl))) (mvT hZ (hw _ (List.mem_of_getElem? (i := 12) rfl))) (by decide) (backOf (W := 0) (rm2 l Z a0 hw (ys.getD k 0)  h0 n0 Z0 ) hZ (hw _ (List.mem_of_getElem? (i := 12) rfl)) (hw _ (List.mem_of_getElem? (i := 8) rfl)) (by decide) (by decide)) (g := (mkF m 10 #[.val (.ref a1), .val (.int p2), .val (.int (Int32.ofNat (k + 1)))] [(.int (ys.getD k 0))])) rfl (by rw [hml]; rfl) (argsL := [(.int (ys.getD k 0))]) (rest := []) (lenOf pd_1 rfl) rfl (by show 2 * 0 + _ ≤ _; exact Nat.le_of_eq rfl) (hb hby d4_10) (fun _ _ => ⟨rfl, eT, (by decide : 0 + 0 ≤ _), (by decide : 0 + 0 ≤ _)⟩)
        dsimp only [Pt.U, Pt.locs, Pt.cells, Pt.slots] at X7 l7 y7 z7 st7 hQ7
        subst l7 y7 z7
        obtain ⟨rfl, Nq7, e7⟩ := hQ7
        have N7 := Fr.app N Nq7
        refine Gl.st (g' := (mkF m 13 #[.val (.ref a1), .val (.int p2), .val (.int (Int32.ofNat (k + 1)))] [(.int (own_sp (ys.getD k 0)))])) st7 ?_
        have hq : ¬ own_sp (ys.getD k 0) = (0 : Int32) → own_tr ys sn k = own_tr ys sn en := fun hsp => (own_tr_c (by omega) hsp).symm.trans hq0
        by_cases c9 : (own_sp (ys.getD k 0)) = (0 : Int32)
        · skip
          refine Gl.st (g' := (mkF m 22 #[.val (.ref a1), .val (.int p2), .val (.int (Int32.ofNat (k + 1)))] [])) (fun t k => XS.ifYes X7.here hx rfl (pc0 := 13) (pc' := 22) rfl (hb hby d4_13) rfl (XT.i0_eq_t c9) (by decide) (by decide) k) ?_
          refine Gl.st (g' := (mkF m 23 #[.val (.ref a1), .val (.int p2), .val (.int (Int32.ofNat (k + 1)))] [(.int (Int32.ofNat (k + 1)))])) (fun t k => XS.iloadN X7.here hx rfl (hb hby d4_22) rfl k) ?_
          refine Gl.retI X7 hx hlk Bd.returns (hb hby d4_23) e7 (by decide) (by decide) ?_
          refine ⟨?_, N7, rfl⟩
          rw [← hq0, own_tr_b (by omega) c9]
        · skip
          refine Gl.st (g' := (mkF m 16 #[.val (.ref a1), .val (.int p2), .val (.int (Int32.ofNat (k + 1)))] [])) (fun t k => XS.ifNo X7.here hx rfl (hb hby d4_13) rfl (XT.i0_eq_f c9) k) ?_
          have hsp := c9
          refine Gl.st (g' := (mkF m 19 #[.val (.ref a1), .val (.int p2), .val (.int ((Int32.ofNat (k + 1)) + (-1 : Int32)))] [])) (fun t k => XT.iincV X7.here hx rfl (-1 : Int32) (hb hby d4_16) rfl rfl rfl k) ?_
          refine Gl.st (g' := (mkF m 0 #[.val (.ref a1), .val (.int p2), .val (.int ((Int32.ofNat (k + 1)) + (-1 : Int32)))] [])) (fun t k => XS.goto X7.here hx rfl (pc0 := 19) (pc' := 0) rfl (hb hby d4_19) (by decide) (by decide) k) ?_
          rw [own_dec' k]
          exact ih T7 _ X7 N7 e7 (by omega) (hq hsp)
      · skip
        refine Gl.st (g' := (mkF m 22 #[.val (.ref a1), .val (.int p2), .val (.int (Int32.ofNat (k + 1)))] [])) (fun t k => XS.icmpYes X.here hx rfl (pc0 := 2) (pc' := 22) rfl (hb hby d4_2) rfl (XT.ii_le_t c6) (by decide) (by decide) k) ?_
        refine Gl.st (g' := (mkF m 23 #[.val (.ref a1), .val (.int p2), .val (.int (Int32.ofNat (k + 1)))] [(.int (Int32.ofNat (k + 1)))])) (fun t k => XS.iloadN X.here hx rfl (hb hby d4_22) rfl k) ?_
        refine Gl.retI X hx hlk Bd.returns (hb hby d4_23) eT (by decide) (by decide) ?_
        have hle : k + 1 ≤ sn := Nat.le_of_not_lt fun w => c6 (own_il hs rfl w (by omega))
        refine ⟨?_, N, rfl⟩
        rw [← hq0, own_tr_a hle]
  rw [he]
  exact loop en s₁ [] X0 N0 e0 (by omega) rfl
theorem pd_3 : parseMethodDescriptor "([BII)I" = some ⟨[(.array .byte), .int, .int], some .int⟩ := by decide +kernel
theorem ef_0 (m : MethodId) (p1 : Int64) (p2 : Int32) (p3 : Int32) (p4 : Int32) : entryFrame m #[(.long p1), (.int p2), (.int p3), (.int p4)] maxLocals = mkF m 0 #[.val (.long p1), .second, .val (.int p2), .val (.int p3), .val (.int p4), .unset, .unset, .unset, .unset] [] := by first | (simp [entryFrame, mkF, argsToLocals, Value.category, maxLocals]; done) | rfl
def Q0 (Z : State) (p1 : Int64) (p2 : Int32) (p3 : Int32) (p4 : Int32)  (h0 : Heap) (n0 : Nat) (v : Option Value) (h : Heap) (L : List Loc) : Prop := v = some (.int 1) ∧ Fr n0 L
set_option maxRecDepth 65536 in
set_option maxHeartbeats 40000000 in
theorem rm0 (l : Launch) (Z : State) (a0 : Array Value) (hw : ∀ d ∈ tables_1, d.before a0 Z = true) (ws : List Jvm.Cond) (p1 : Int64) (p2 : Int32) (p3 : Int32) (p4 : Int32)  (h0 : Heap) (n0 : Nat) (Z0 : n0 ≤ h0.size)  :
    MetFree l x (head1 (Jvm.Cond.code x code maxLocals ret :: ws) room_1) (fun a U => a = #[(.long p1), (.int p2), (.int p3), (.int p4)] ∧ Z.Warmed39 U.vm ∧ U.heap = h0) (fun _ _ _ _ _ => True) (fun _ U o U' => ∃ v L, o = .returned v ∧ Q0 Z p1 p2 p3 p4  h0 n0 v U'.heap L ∧ FrameEnd U o U' L 16 128) := by
  refine MetFree.of_bodySF (plainFor_of_name pn_0) hisR ?_
  intro p e s m args below meth c s₁ Bd hml0 hP hK
  obtain ⟨rfl, hZ, hh⟩ := hP
  have hx := Bd.exec
  have hby := Bd.bytes
  have hlk : meth.locks = false := Bd.notSynchronized
  have hml : c.maxLocals = 9 := hml0
  have hown : s.vm.findClass "com/example/archwright/archwright/xsd/ValueTypeTrimEndPinLaw" = some m.cls := findClass_of_methodNamed Bd.named
  have hnm := (name_of_methodNamed Bd.named Bd.method).1
  have X0 : Stand p l e room_1 s m #[(.long p1), (.int p2), (.int p3), (.int p4)] below meth c s₁ [] 0 0 := Stand.of_body Bd
  have e0 : s₁.heap = h0 := by rw [← hh, Bd.state]; rfl
  have N0 := Fr.nil n0
  show Gl p e below s (Q0 Z p1 p2 p3 p4  h0 n0) 16 128 s₁ (entryFrame m #[(.long p1), (.int p2), (.int p3), (.int p4)] maxLocals)
  rw [ef_0 m p1 p2 p3 p4]
  refine Gl.st (g' := (mkF m 1 #[.val (.long p1), .second, .val (.int p2), .val (.int p3), .val (.int p4), .unset, .unset, .unset, .unset] [(.int (5 : Int32))])) (fun t k => XT.iconstV X0.here hx rfl (5 : Int32) (hb hby at_0) rfl k) ?_
  obtain ⟨T10, h10, cA10, X10, e10, E10, A10, st10⟩ := newP X0 hx hZ (hw _ (List.mem_of_getElem? (i := 0) rfl)) e0 (g := (mkF m 1 #[.val (.long p1), .second, .val (.int p2), .val (.int p3), .val (.int p4), .unset, .unset, .unset, .unset] [(.int (5 : Int32))])) rfl (hb hby at_1) rfl (by decide) (cap := 5) (by decide) (by decide) (by decide) (by decide)
  obtain ⟨a10, g10⟩ : ∃ z, z = h0.size := ⟨_, rfl⟩
  have ge10 : n0 ≤ a10 := Nat.le_trans Z0 (Nat.le_of_eq g10.symm)
  rw [← g10] at A10 st10
  have Z10 : n0 ≤ h10.size := Nat.le_trans Z0 E10.1
  have V10 : Arv Z h10 a10 cA10 .byte (5 : Int32) [(.int (0 : Int32)), (.int (0 : Int32)), (.int (0 : Int32)), (.int (0 : Int32)), (.int (0 : Int32))] (.int (0 : Int32)) := (Arv.new A10 (by decide)).pad (pad_rep [] _ 5)
  refine Gl.st (g' := (mkF m 3 #[.val (.long p1), .second, .val (.int p2), .val (.int p3), .val (.int p4), .unset, .unset, .unset, .unset] [(.ref a10)])) st10 ?_
  refine Gl.st (g' := (mkF m 5 #[.val (.long p1), .second, .val (.int p2), .val (.int p3), .val (.int p4), .val (.ref a10), .unset, .unset, .unset] [])) (fun t k => XS.astore X10.here hx rfl (hb hby at_3) rfl rfl (l' := #[.val (.long p1), .second, .val (.int p2), .val (.int p3), .val (.int p4), .val (.ref a10), .unset, .unset, .unset]) rfl k) ?_
  refine Gl.st (g' := (mkF m 7 #[.val (.long p1), .second, .val (.int p2), .val (.int p3), .val (.int p4), .val (.ref a10), .unset, .unset, .unset] [(.ref a10)])) (fun t k => XS.aload X10.here hx rfl (hb hby at_5) rfl rfl k) ?_
  refine Gl.st (g' := (mkF m 8 #[.val (.long p1), .second, .val (.int p2), .val (.int p3), .val (.int p4), .val (.ref a10), .unset, .unset, .unset] [(.int (0 : Int32)), (.ref a10)])) (fun t k => XT.iconstV X10.here hx rfl (0 : Int32) (hb hby at_7) rfl k) ?_
  refine Gl.st (g' := (mkF m 9 #[.val (.long p1), .second, .val (.int p2), .val (.int p3), .val (.int p4), .val (.ref a10), .unset, .unset, .unset] [(.long p1), (.int (0 : Int32)), (.ref a10)])) (fun t k => XS.lloadN X10.here hx rfl (hb hby at_8) rfl k) ?_
  refine Gl.st (g' := (mkF m 10 #[.val (.long p1), .second, .val (.int p2), .val (.int p3), .val (.int p4), .val (.ref a10), .unset, .unset, .unset] [(.int p2), (.long p1), (.int (0 : Int32)), (.ref a10)])) (fun t k => XS.iloadN X10.here hx rfl (hb hby at_9) rfl k) ?_
  refine Gl.st (g' := (mkF m 11 #[.val (.long p1), .second, .val (.int p2), .val (.int p3), .val (.int p4), .val (.ref a10), .unset, .unset, .unset] [(.int (0 : Int32)), (.int p2), (.long p1), (.int (0 : Int32)), (.ref a10)])) (fun t k => XT.iconstV X10.here hx rfl (0 : Int32) (hb hby at_10) rfl k) ?_
  obtain ⟨_, _, ⟨T11, L11, k11, n11⟩, -, X11, ⟨Lc11, hQ11, l11, y11, z11⟩, st11⟩ := Jvm.LawKit.callS X10 hx (y := (⟨"com/example/archwright/archwright/xsd/ValueTypeTrimEndPinLaw", "pick", "(JII)B"⟩ : MethodName)) hown (mvT hZ (hw _ (List.mem_of_getElem? (i := 1) rfl))) (mvT hZ (hw _ (List.mem_of_getElem? (i := 2) rfl))) (mvT hZ (hw _ (List.mem_of_getElem? (i := 3) rfl))) (mvT hZ (hw _ (List.mem_of_getElem? (i := 4) rfl))) (by decide) (backOf (W := 2) (rm1 l Z a0 hw p1 p2 (0 : Int32)  h10 n0 Z10 ) hZ (hw _ (List.mem_of_getElem? (i := 4) rfl)) (hw _ (List.mem_of_getElem? (i := 3) rfl)) (by decide) (by decide)) (g := (mkF m 11 #[.val (.long p1), .second, .val (.int p2), .val (.int p3), .val (.int p4), .val (.ref a10), .unset, .unset, .unset] [(.int (0 : Int32)), (.int p2), (.long p1), (.int (0 : Int32)), (.ref a10)])) rfl (by rw [hml]; rfl) (argsL := [(.long p1), (.int p2), (.int (0 : Int32))]) (rest := [(.int (0 : Int32)), (.ref a10)]) (lenOf pd_0 rfl) rfl (by show 2 * 0 + _ ≤ _; exact Nat.le_of_eq rfl) (hb hby at_11) (fun _ _ => ⟨rfl, e10, (by decide : 0 + 1 + 0 ≤ _), (by decide : 0 + 5 + 0 ≤ _)⟩)
  dsimp only [Pt.U, Pt.locs, Pt.cells, Pt.slots] at X11 l11 y11 z11 st11 hQ11
  subst l11 y11 z11
  obtain ⟨rfl, Nq11, e11⟩ := hQ11
  have N11 := Fr.app N0 Nq11
  refine Gl.st (g' := (mkF m 14 #[.val (.long p1), .second, .val (.int p2), .val (.int p3), .val (.int p4), .val (.ref a10), .unset, .unset, .unset] [(.int (own_pk p1 p2 (0 : Int32))), (.int (0 : Int32)), (.ref a10)])) st11 ?_
  obtain ⟨T12, h12, b12, X12, e12, W12, hb12, V12, st12⟩ := own_stB X11 hx hZ e11 V10 (j := (0 : Int32)) (by decide) 0 (by decide) (by decide : 0 < 5) (g := (mkF m 14 #[.val (.long p1), .second, .val (.int p2), .val (.int p3), .val (.int p4), .val (.ref a10), .unset, .unset, .unset] [(.int (own_pk p1 p2 (0 : Int32))), (.int (0 : Int32)), (.ref a10)])) rfl rfl (hb hby at_14)
  have N12 := Fr.snoc X12 N11 ge10
  have Z12 : n0 ≤ h12.size := Nat.le_trans Z10 (Keep.of_wr W12).1
  change Arv Z h12 a10 cA10 .byte (5 : Int32) [(.int b12), (.int (0 : Int32)), (.int (0 : Int32)), (.int (0 : Int32)), (.int (0 : Int32))] (.int (0 : Int32)) at V12
  refine Gl.st (g' := (mkF m 15 #[.val (.long p1), .second, .val (.int p2), .val (.int p3), .val (.int p4), .val (.ref a10), .unset, .unset, .unset] [])) st12 ?_
  refine Gl.st (g' := (mkF m 17 #[.val (.long p1), .second, .val (.int p2), .val (.int p3), .val (.int p4), .val (.ref a10), .unset, .unset, .unset] [(.ref a10)])) (fun t k => XS.aload X12.here hx rfl (hb hby at_15) rfl rfl k) ?_
  refine Gl.st (g' := (mkF m 18 #[.val (.long p1), .second, .val (.int p2), .val (.int p3), .val (.int p4), .val (.ref a10), .unset, .unset, .unset] [(.int (1 : Int32)), (.ref a10)])) (fun t k => XT.iconstV X12.here hx rfl (1 : Int32) (hb hby at_17) rfl k) ?_
  refine Gl.st (g' := (mkF m 19 #[.val (.long p1), .second, .val (.int p2), .val (.int p3), .val (.int p4), .val (.ref a10), .unset, .unset, .unset] [(.long p1), (.int (1 : Int32)), (.ref a10)])) (fun t k => XS.lloadN X12.here hx rfl (hb hby at_18) rfl k) ?_
  refine Gl.st (g' := (mkF m 20 #[.val (.long p1), .second, .val (.int p2), .val (.int p3), .val (.int p4), .val (.ref a10), .unset, .unset, .unset] [(.int p2), (.long p1), (.int (1 : Int32)), (.ref a10)])) (fun t k => XS.iloadN X12.here hx rfl (hb hby at_19) rfl k) ?_
  refine Gl.st (g' := (mkF m 21 #[.val (.long p1), .second, .val (.int p2), .val (.int p3), .val (.int p4), .val (.ref a10), .unset, .unset, .unset] [(.int (1 : Int32)), (.int p2), (.long p1), (.int (1 : Int32)), (.ref a10)])) (fun t k => XT.iconstV X12.here hx rfl (1 : Int32) (hb hby at_20) rfl k) ?_
  obtain ⟨_, _, ⟨T13, L13, k13, n13⟩, -, X13, ⟨Lc13, hQ13, l13, y13, z13⟩, st13⟩ := Jvm.LawKit.callS X12 hx (y := (⟨"com/example/archwright/archwright/xsd/ValueTypeTrimEndPinLaw", "pick", "(JII)B"⟩ : MethodName)) hown (mvT hZ (hw _ (List.mem_of_getElem? (i := 1) rfl))) (mvT hZ (hw _ (List.mem_of_getElem? (i := 2) rfl))) (mvT hZ (hw _ (List.mem_of_getElem? (i := 3) rfl))) (mvT hZ (hw _ (List.mem_of_getElem? (i := 4) rfl))) (by decide) (backOf (W := 2) (rm1 l Z a0 hw p1 p2 (1 : Int32)  h12 n0 Z12 ) hZ (hw _ (List.mem_of_getElem? (i := 4) rfl)) (hw _ (List.mem_of_getElem? (i := 3) rfl)) (by decide) (by decide)) (g := (mkF m 21 #[.val (.long p1), .second, .val (.int p2), .val (.int p3), .val (.int p4), .val (.ref a10), .unset, .unset, .unset] [(.int (1 : Int32)), (.int p2), (.long p1), (.int (1 : Int32)), (.ref a10)])) rfl (by rw [hml]; rfl) (argsL := [(.long p1), (.int p2), (.int (1 : Int32))]) (rest := [(.int (1 : Int32)), (.ref a10)]) (lenOf pd_0 rfl) rfl (by show 2 * 0 + _ ≤ _; exact Nat.le_of_eq rfl) (hb hby at_21) (fun _ _ => ⟨rfl, e12, (by decide : 0 + 1 + 0 + 0 ≤ _), (by decide : 0 + 5 + 0 + 0 ≤ _)⟩)
  dsimp only [Pt.U, Pt.locs, Pt.cells, Pt.slots] at X13 l13 y13 z13 st13 hQ13
  subst l13 y13 z13
  obtain ⟨rfl, Nq13, e13⟩ := hQ13
  have N13 := Fr.app N12 Nq13
  refine Gl.st (g' := (mkF m 24 #[.val (.long p1), .second, .val (.int p2), .val (.int p3), .val (.int p4), .val (.ref a10), .unset, .unset, .unset] [(.int (own_pk p1 p2 (1 : Int32))), (.int (1 : Int32)), (.ref a10)])) st13 ?_
  obtain ⟨T14, h14, b14, X14, e14, W14, hb14, V14, st14⟩ := own_stB X13 hx hZ e13 V12 (j := (1 : Int32)) (by decide) 1 (by decide) (by decide : 1 < 5) (g := (mkF m 24 #[.val (.long p1), .second, .val (.int p2), .val (.int p3), .val (.int p4), .val (.ref a10), .unset, .unset, .unset] [(.int (own_pk p1 p2 (1 : Int32))), (.int (1 : Int32)), (.ref a10)])) rfl rfl (hb hby at_24)
  have N14 := Fr.snoc X14 N13 ge10
  have Z14 : n0 ≤ h14.size := Nat.le_trans Z12 (Keep.of_wr W14).1
  change Arv Z h14 a10 cA10 .byte (5 : Int32) [(.int b12), (.int b14), (.int (0 : Int32)), (.int (0 : Int32)), (.int (0 : Int32))] (.int (0 : Int32)) at V14
  refine Gl.st (g' := (mkF m 25 #[.val (.long p1), .second, .val (.int p2), .val (.int p3), .val (.int p4), .val (.ref a10), .unset, .unset, .unset] [])) st14 ?_
  refine Gl.st (g' := (mkF m 27 #[.val (.long p1), .second, .val (.int p2), .val (.int p3), .val (.int p4), .val (.ref a10), .unset, .unset, .unset] [(.ref a10)])) (fun t k => XS.aload X14.here hx rfl (hb hby at_25) rfl rfl k) ?_
  refine Gl.st (g' := (mkF m 28 #[.val (.long p1), .second, .val (.int p2), .val (.int p3), .val (.int p4), .val (.ref a10), .unset, .unset, .unset] [(.int (2 : Int32)), (.ref a10)])) (fun t k => XT.iconstV X14.here hx rfl (2 : Int32) (hb hby at_27) rfl k) ?_
  refine Gl.st (g' := (mkF m 29 #[.val (.long p1), .second, .val (.int p2), .val (.int p3), .val (.int p4), .val (.ref a10), .unset, .unset, .unset] [(.long p1), (.int (2 : Int32)), (.ref a10)])) (fun t k => XS.lloadN X14.here hx rfl (hb hby at_28) rfl k) ?_
  refine Gl.st (g' := (mkF m 30 #[.val (.long p1), .second, .val (.int p2), .val (.int p3), .val (.int p4), .val (.ref a10), .unset, .unset, .unset] [(.int p2), (.long p1), (.int (2 : Int32)), (.ref a10)])) (fun t k => XS.iloadN X14.here hx rfl (hb hby at_29) rfl k) ?_
  refine Gl.st (g' := (mkF m 31 #[.val (.long p1), .second, .val (.int p2), .val (.int p3), .val (.int p4), .val (.ref a10), .unset, .unset, .unset] [(.int (2 : Int32)), (.int p2), (.long p1), (.int (2 : Int32)), (.ref a10)])) (fun t k => XT.iconstV X14.here hx rfl (2 : Int32) (hb hby at_30) rfl k) ?_
  obtain ⟨_, _, ⟨T15, L15, k15, n15⟩, -, X15, ⟨Lc15, hQ15, l15, y15, z15⟩, st15⟩ := Jvm.LawKit.callS X14 hx (y := (⟨"com/example/archwright/archwright/xsd/ValueTypeTrimEndPinLaw", "pick", "(JII)B"⟩ : MethodName)) hown (mvT hZ (hw _ (List.mem_of_getElem? (i := 1) rfl))) (mvT hZ (hw _ (List.mem_of_getElem? (i := 2) rfl))) (mvT hZ (hw _ (List.mem_of_getElem? (i := 3) rfl))) (mvT hZ (hw _ (List.mem_of_getElem? (i := 4) rfl))) (by decide) (backOf (W := 2) (rm1 l Z a0 hw p1 p2 (2 : Int32)  h14 n0 Z14 ) hZ (hw _ (List.mem_of_getElem? (i := 4) rfl)) (hw _ (List.mem_of_getElem? (i := 3) rfl)) (by decide) (by decide)) (g := (mkF m 31 #[.val (.long p1), .second, .val (.int p2), .val (.int p3), .val (.int p4), .val (.ref a10), .unset, .unset, .unset] [(.int (2 : Int32)), (.int p2), (.long p1), (.int (2 : Int32)), (.ref a10)])) rfl (by rw [hml]; rfl) (argsL := [(.long p1), (.int p2), (.int (2 : Int32))]) (rest := [(.int (2 : Int32)), (.ref a10)]) (lenOf pd_0 rfl) rfl (by show 2 * 0 + _ ≤ _; exact Nat.le_of_eq rfl) (hb hby at_31) (fun _ _ => ⟨rfl, e14, (by decide : 0 + 1 + 0 + 0 + 0 ≤ _), (by decide : 0 + 5 + 0 + 0 + 0 ≤ _)⟩)
  dsimp only [Pt.U, Pt.locs, Pt.cells, Pt.slots] at X15 l15 y15 z15 st15 hQ15
  subst l15 y15 z15
  obtain ⟨rfl, Nq15, e15⟩ := hQ15
  have N15 := Fr.app N14 Nq15
  refine Gl.st (g' := (mkF m 34 #[.val (.long p1), .second, .val (.int p2), .val (.int p3), .val (.int p4), .val (.ref a10), .unset, .unset, .unset] [(.int (own_pk p1 p2 (2 : Int32))), (.int (2 : Int32)), (.ref a10)])) st15 ?_
  obtain ⟨T16, h16, b16, X16, e16, W16, hb16, V16, st16⟩ := own_stB X15 hx hZ e15 V14 (j := (2 : Int32)) (by decide) 2 (by decide) (by decide : 2 < 5) (g := (mkF m 34 #[.val (.long p1), .second, .val (.int p2), .val (.int p3), .val (.int p4), .val (.ref a10), .unset, .unset, .unset] [(.int (own_pk p1 p2 (2 : Int32))), (.int (2 : Int32)), (.ref a10)])) rfl rfl (hb hby at_34)
  have N16 := Fr.snoc X16 N15 ge10
  have Z16 : n0 ≤ h16.size := Nat.le_trans Z14 (Keep.of_wr W16).1
  change Arv Z h16 a10 cA10 .byte (5 : Int32) [(.int b12), (.int b14), (.int b16), (.int (0 : Int32)), (.int (0 : Int32))] (.int (0 : Int32)) at V16
  refine Gl.st (g' := (mkF m 35 #[.val (.long p1), .second, .val (.int p2), .val (.int p3), .val (.int p4), .val (.ref a10), .unset, .unset, .unset] [])) st16 ?_
  refine Gl.st (g' := (mkF m 37 #[.val (.long p1), .second, .val (.int p2), .val (.int p3), .val (.int p4), .val (.ref a10), .unset, .unset, .unset] [(.ref a10)])) (fun t k => XS.aload X16.here hx rfl (hb hby at_35) rfl rfl k) ?_
  refine Gl.st (g' := (mkF m 38 #[.val (.long p1), .second, .val (.int p2), .val (.int p3), .val (.int p4), .val (.ref a10), .unset, .unset, .unset] [(.int (3 : Int32)), (.ref a10)])) (fun t k => XT.iconstV X16.here hx rfl (3 : Int32) (hb hby at_37) rfl k) ?_
  refine Gl.st (g' := (mkF m 39 #[.val (.long p1), .second, .val (.int p2), .val (.int p3), .val (.int p4), .val (.ref a10), .unset, .unset, .unset] [(.long p1), (.int (3 : Int32)), (.ref a10)])) (fun t k => XS.lloadN X16.here hx rfl (hb hby at_38) rfl k) ?_
  refine Gl.st (g' := (mkF m 40 #[.val (.long p1), .second, .val (.int p2), .val (.int p3), .val (.int p4), .val (.ref a10), .unset, .unset, .unset] [(.int p2), (.long p1), (.int (3 : Int32)), (.ref a10)])) (fun t k => XS.iloadN X16.here hx rfl (hb hby at_39) rfl k) ?_
  refine Gl.st (g' := (mkF m 41 #[.val (.long p1), .second, .val (.int p2), .val (.int p3), .val (.int p4), .val (.ref a10), .unset, .unset, .unset] [(.int (3 : Int32)), (.int p2), (.long p1), (.int (3 : Int32)), (.ref a10)])) (fun t k => XT.iconstV X16.here hx rfl (3 : Int32) (hb hby at_40) rfl k) ?_
  obtain ⟨_, _, ⟨T17, L17, k17, n17⟩, -, X17, ⟨Lc17, hQ17, l17, y17, z17⟩, st17⟩ := Jvm.LawKit.callS X16 hx (y := (⟨"com/example/archwright/archwright/xsd/ValueTypeTrimEndPinLaw", "pick", "(JII)B"⟩ : MethodName)) hown (mvT hZ (hw _ (List.mem_of_getElem? (i := 1) rfl))) (mvT hZ (hw _ (List.mem_of_getElem? (i := 2) rfl))) (mvT hZ (hw _ (List.mem_of_getElem? (i := 3) rfl))) (mvT hZ (hw _ (List.mem_of_getElem? (i := 4) rfl))) (by decide) (backOf (W := 2) (rm1 l Z a0 hw p1 p2 (3 : Int32)  h16 n0 Z16 ) hZ (hw _ (List.mem_of_getElem? (i := 4) rfl)) (hw _ (List.mem_of_getElem? (i := 3) rfl)) (by decide) (by decide)) (g := (mkF m 41 #[.val (.long p1), .second, .val (.int p2), .val (.int p3), .val (.int p4), .val (.ref a10), .unset, .unset, .unset] [(.int (3 : Int32)), (.int p2), (.long p1), (.int (3 : Int32)), (.ref a10)])) rfl (by rw [hml]; rfl) (argsL := [(.long p1), (.int p2), (.int (3 : Int32))]) (rest := [(.int (3 : Int32)), (.ref a10)]) (lenOf pd_0 rfl) rfl (by show 2 * 0 + _ ≤ _; exact Nat.le_of_eq rfl) (hb hby at_41) (fun _ _ => ⟨rfl, e16, (by decide : 0 + 1 + 0 + 0 + 0 + 0 ≤ _), (by decide : 0 + 5 + 0 + 0 + 0 + 0 ≤ _)⟩)
  dsimp only [Pt.U, Pt.locs, Pt.cells, Pt.slots] at X17 l17 y17 z17 st17 hQ17
  subst l17 y17 z17
  obtain ⟨rfl, Nq17, e17⟩ := hQ17
  have N17 := Fr.app N16 Nq17
  refine Gl.st (g' := (mkF m 44 #[.val (.long p1), .second, .val (.int p2), .val (.int p3), .val (.int p4), .val (.ref a10), .unset, .unset, .unset] [(.int (own_pk p1 p2 (3 : Int32))), (.int (3 : Int32)), (.ref a10)])) st17 ?_
  obtain ⟨T18, h18, b18, X18, e18, W18, hb18, V18, st18⟩ := own_stB X17 hx hZ e17 V16 (j := (3 : Int32)) (by decide) 3 (by decide) (by decide : 3 < 5) (g := (mkF m 44 #[.val (.long p1), .second, .val (.int p2), .val (.int p3), .val (.int p4), .val (.ref a10), .unset, .unset, .unset] [(.int (own_pk p1 p2 (3 : Int32))), (.int (3 : Int32)), (.ref a10)])) rfl rfl (hb hby at_44)
  have N18 := Fr.snoc X18 N17 ge10
  have Z18 : n0 ≤ h18.size := Nat.le_trans Z16 (Keep.of_wr W18).1
  change Arv Z h18 a10 cA10 .byte (5 : Int32) [(.int b12), (.int b14), (.int b16), (.int b18), (.int (0 : Int32))] (.int (0 : Int32)) at V18
  refine Gl.st (g' := (mkF m 45 #[.val (.long p1), .second, .val (.int p2), .val (.int p3), .val (.int p4), .val (.ref a10), .unset, .unset, .unset] [])) st18 ?_
  refine Gl.st (g' := (mkF m 47 #[.val (.long p1), .second, .val (.int p2), .val (.int p3), .val (.int p4), .val (.ref a10), .unset, .unset, .unset] [(.ref a10)])) (fun t k => XS.aload X18.here hx rfl (hb hby at_45) rfl rfl k) ?_
  refine Gl.st (g' := (mkF m 48 #[.val (.long p1), .second, .val (.int p2), .val (.int p3), .val (.int p4), .val (.ref a10), .unset, .unset, .unset] [(.int (4 : Int32)), (.ref a10)])) (fun t k => XT.iconstV X18.here hx rfl (4 : Int32) (hb hby at_47) rfl k) ?_
  refine Gl.st (g' := (mkF m 49 #[.val (.long p1), .second, .val (.int p2), .val (.int p3), .val (.int p4), .val (.ref a10), .unset, .unset, .unset] [(.long p1), (.int (4 : Int32)), (.ref a10)])) (fun t k => XS.lloadN X18.here hx rfl (hb hby at_48) rfl k) ?_
  refine Gl.st (g' := (mkF m 50 #[.val (.long p1), .second, .val (.int p2), .val (.int p3), .val (.int p4), .val (.ref a10), .unset, .unset, .unset] [(.int p2), (.long p1), (.int (4 : Int32)), (.ref a10)])) (fun t k => XS.iloadN X18.here hx rfl (hb hby at_49) rfl k) ?_
  refine Gl.st (g' := (mkF m 51 #[.val (.long p1), .second, .val (.int p2), .val (.int p3), .val (.int p4), .val (.ref a10), .unset, .unset, .unset] [(.int (4 : Int32)), (.int p2), (.long p1), (.int (4 : Int32)), (.ref a10)])) (fun t k => XT.iconstV X18.here hx rfl (4 : Int32) (hb hby at_50) rfl k) ?_
  obtain ⟨_, _, ⟨T19, L19, k19, n19⟩, -, X19, ⟨Lc19, hQ19, l19, y19, z19⟩, st19⟩ := Jvm.LawKit.callS X18 hx (y := (⟨"com/example/archwright/archwright/xsd/ValueTypeTrimEndPinLaw", "pick", "(JII)B"⟩ : MethodName)) hown (mvT hZ (hw _ (List.mem_of_getElem? (i := 1) rfl))) (mvT hZ (hw _ (List.mem_of_getElem? (i := 2) rfl))) (mvT hZ (hw _ (List.mem_of_getElem? (i := 3) rfl))) (mvT hZ (hw _ (List.mem_of_getElem? (i := 4) rfl))) (by decide) (backOf (W := 2) (rm1 l Z a0 hw p1 p2 (4 : Int32)  h18 n0 Z18 ) hZ (hw _ (List.mem_of_getElem? (i := 4) rfl)) (hw _ (List.mem_of_getElem? (i := 3) rfl)) (by decide) (by decide)) (g := (mkF m 51 #[.val (.long p1), .second, .val (.int p2), .val (.int p3), .val (.int p4), .val (.ref a10), .unset, .unset, .unset] [(.int (4 : Int32)), (.int p2), (.long p1), (.int (4 : Int32)), (.ref a10)])) rfl (by rw [hml]; rfl) (argsL := [(.long p1), (.int p2), (.int (4 : Int32))]) (rest := [(.int (4 : Int32)), (.ref a10)]) (lenOf pd_0 rfl) rfl (by show 2 * 0 + _ ≤ _; exact Nat.le_of_eq rfl) (hb hby at_51) (fun _ _ => ⟨rfl, e18, (by decide : 0 + 1 + 0 + 0 + 0 + 0 + 0 ≤ _), (by decide : 0 + 5 + 0 + 0 + 0 + 0 + 0 ≤ _)⟩)
  dsimp only [Pt.U, Pt.locs, Pt.cells, Pt.slots] at X19 l19 y19 z19 st19 hQ19
  subst l19 y19 z19
  obtain ⟨rfl, Nq19, e19⟩ := hQ19
  have N19 := Fr.app N18 Nq19
  refine Gl.st (g' := (mkF m 54 #[.val (.long p1), .second, .val (.int p2), .val (.int p3), .val (.int p4), .val (.ref a10), .unset, .unset, .unset] [(.int (own_pk p1 p2 (4 : Int32))), (.int (4 : Int32)), (.ref a10)])) st19 ?_
  obtain ⟨T20, h20, b20, X20, e20, W20, hb20, V20, st20⟩ := own_stB X19 hx hZ e19 V18 (j := (4 : Int32)) (by decide) 4 (by decide) (by decide : 4 < 5) (g := (mkF m 54 #[.val (.long p1), .second, .val (.int p2), .val (.int p3), .val (.int p4), .val (.ref a10), .unset, .unset, .unset] [(.int (own_pk p1 p2 (4 : Int32))), (.int (4 : Int32)), (.ref a10)])) rfl rfl (hb hby at_54)
  have N20 := Fr.snoc X20 N19 ge10
  have Z20 : n0 ≤ h20.size := Nat.le_trans Z18 (Keep.of_wr W20).1
  change Arv Z h20 a10 cA10 .byte (5 : Int32) [(.int b12), (.int b14), (.int b16), (.int b18), (.int b20)] (.int (0 : Int32)) at V20
  refine Gl.st (g' := (mkF m 55 #[.val (.long p1), .second, .val (.int p2), .val (.int p3), .val (.int p4), .val (.ref a10), .unset, .unset, .unset] [])) st20 ?_
  refine Gl.st (g' := (mkF m 56 #[.val (.long p1), .second, .val (.int p2), .val (.int p3), .val (.int p4), .val (.ref a10), .unset, .unset, .unset] [(.int p3)])) (fun t k => XS.iloadN X20.here hx rfl (hb hby at_55) rfl k) ?_
  refine Gl.st (g' := (mkF m 58 #[.val (.long p1), .second, .val (.int p2), .val (.int p3), .val (.int p4), .val (.ref a10), .unset, .unset, .unset] [(.int (2147483647 : Int32)), (.int p3)])) (fun t k => X20.ldcI hx hown (mvT hZ (hw _ (List.mem_of_getElem? (i := 5) rfl))) rfl (hb hby at_56) k) ?_
  refine Gl.st (g' := (mkF m 59 #[.val (.long p1), .second, .val (.int p2), .val (.int p3), .val (.int p4), .val (.ref a10), .unset, .unset, .unset] [(.int (p3 &&& (2147483647 : Int32)))])) (fun t k => XS.iand X20.here hx rfl (hb hby at_58) rfl k) ?_
  refine Gl.st (g' := (mkF m 61 #[.val (.long p1), .second, .val (.int p2), .val (.int p3), .val (.int p4), .val (.ref a10), .unset, .unset, .unset] [(.int (6 : Int32)), (.int (p3 &&& (2147483647 : Int32)))])) (fun t k => XT.bipushV X20.here hx rfl (6 : Int32) (hb hby at_59) rfl k) ?_
  refine Gl.st (g' := (mkF m 62 #[.val (.long p1), .second, .val (.int p2), .val (.int p3), .val (.int p4), .val (.ref a10), .unset, .unset, .unset] [(.int ((p3 &&& (2147483647 : Int32)) % (6 : Int32)))])) (fun t k => iremM X20 hx rfl (hb hby at_61) rfl (by decide) k) ?_
  generalize hv21 : ((p3 &&& (2147483647 : Int32)) % (6 : Int32)) = v21
  refine Gl.st (g' := (mkF m 64 #[.val (.long p1), .second, .val (.int p2), .val (.int p3), .val (.int p4), .val (.ref a10), .val (.int v21), .unset, .unset] [])) (fun t k => XS.istore X20.here hx rfl (hb hby at_62) rfl (l' := #[.val (.long p1), .second, .val (.int p2), .val (.int p3), .val (.int p4), .val (.ref a10), .val (.int v21), .unset, .unset]) rfl k) ?_
  obtain ⟨k6, hk6, b6⟩ := own_r6 hv21
  refine Gl.st (g' := (mkF m 66 #[.val (.long p1), .second, .val (.int p2), .val (.int p3), .val (.int p4), .val (.ref a10), .val (.int v21), .unset, .unset] [(.int p4)])) (fun t k => XS.iload X20.here hx rfl (hb hby at_64) rfl k) ?_
  refine Gl.st (g' := (mkF m 68 #[.val (.long p1), .second, .val (.int p2), .val (.int p3), .val (.int p4), .val (.ref a10), .val (.int v21), .unset, .unset] [(.int (2147483647 : Int32)), (.int p4)])) (fun t k => X20.ldcI hx hown (mvT hZ (hw _ (List.mem_of_getElem? (i := 5) rfl))) rfl (hb hby at_66) k) ?_
  refine Gl.st (g' := (mkF m 69 #[.val (.long p1), .second, .val (.int p2), .val (.int p3), .val (.int p4), .val (.ref a10), .val (.int v21), .unset, .unset] [(.int (p4 &&& (2147483647 : Int32)))])) (fun t k => XS.iand X20.here hx rfl (hb hby at_68) rfl k) ?_
  refine Gl.st (g' := (mkF m 71 #[.val (.long p1), .second, .val (.int p2), .val (.int p3), .val (.int p4), .val (.ref a10), .val (.int v21), .unset, .unset] [(.int (6 : Int32)), (.int (p4 &&& (2147483647 : Int32)))])) (fun t k => XT.bipushV X20.here hx rfl (6 : Int32) (hb hby at_69) rfl k) ?_
  refine Gl.st (g' := (mkF m 72 #[.val (.long p1), .second, .val (.int p2), .val (.int p3), .val (.int p4), .val (.ref a10), .val (.int v21), .unset, .unset] [(.int ((p4 &&& (2147483647 : Int32)) % (6 : Int32)))])) (fun t k => iremM X20 hx rfl (hb hby at_71) rfl (by decide) k) ?_
  generalize hv22 : ((p4 &&& (2147483647 : Int32)) % (6 : Int32)) = v22
  refine Gl.st (g' := (mkF m 74 #[.val (.long p1), .second, .val (.int p2), .val (.int p3), .val (.int p4), .val (.ref a10), .val (.int v21), .val (.int v22), .unset] [])) (fun t k => XS.istore X20.here hx rfl (hb hby at_72) rfl (l' := #[.val (.long p1), .second, .val (.int p2), .val (.int p3), .val (.int p4), .val (.ref a10), .val (.int v21), .val (.int v22), .unset]) rfl k) ?_
  obtain ⟨k7, hk7, b7⟩ := own_r6 hv22
  refine Gl.st (g' := (mkF m 76 #[.val (.long p1), .second, .val (.int p2), .val (.int p3), .val (.int p4), .val (.ref a10), .val (.int v21), .val (.int v22), .unset] [(.int v21)])) (fun t k => XS.iload X20.here hx rfl (hb hby at_74) rfl k) ?_
  refine Gl.st (g' := (mkF m 78 #[.val (.long p1), .second, .val (.int p2), .val (.int p3), .val (.int p4), .val (.ref a10), .val (.int v21), .val (.int v22), .unset] [(.int v22), (.int v21)])) (fun t k => XS.iload X20.here hx rfl (hb hby at_76) rfl k) ?_
  by_cases c23 : v22 < v21
  · skip
    refine Gl.st (g' := (mkF m 81 #[.val (.long p1), .second, .val (.int p2), .val (.int p3), .val (.int p4), .val (.ref a10), .val (.int v21), .val (.int v22), .unset] [])) (fun t k => XS.icmpNo X20.here hx rfl (hb hby at_78) rfl (XT.ii_le_f c23) k) ?_
    refine Gl.st (g' := (mkF m 83 #[.val (.long p1), .second, .val (.int p2), .val (.int p3), .val (.int p4), .val (.ref a10), .val (.int v21), .val (.int v22), .unset] [(.int v21)])) (fun t k => XS.iload X20.here hx rfl (hb hby at_81) rfl k) ?_
    refine Gl.st (g' := (mkF m 85 #[.val (.long p1), .second, .val (.int p2), .val (.int p3), .val (.int p4), .val (.ref a10), .val (.int v21), .val (.int v22), .val (.int v21)] [])) (fun t k => XS.istore X20.here hx rfl (hb hby at_83) rfl (l' := #[.val (.long p1), .second, .val (.int p2), .val (.int p3), .val (.int p4), .val (.ref a10), .val (.int v21), .val (.int v22), .val (.int v21)]) rfl k) ?_
    refine Gl.st (g' := (mkF m 87 #[.val (.long p1), .second, .val (.int p2), .val (.int p3), .val (.int p4), .val (.ref a10), .val (.int v21), .val (.int v22), .val (.int v21)] [(.int v22)])) (fun t k => XS.iload X20.here hx rfl (hb hby at_85) rfl k) ?_
    refine Gl.st (g' := (mkF m 89 #[.val (.long p1), .second, .val (.int p2), .val (.int p3), .val (.int p4), .val (.ref a10), .val (.int v22), .val (.int v22), .val (.int v21)] [])) (fun t k => XS.istore X20.here hx rfl (hb hby at_87) rfl (l' := #[.val (.long p1), .second, .val (.int p2), .val (.int p3), .val (.int p4), .val (.ref a10), .val (.int v22), .val (.int v22), .val (.int v21)]) rfl k) ?_
    refine Gl.st (g' := (mkF m 91 #[.val (.long p1), .second, .val (.int p2), .val (.int p3), .val (.int p4), .val (.ref a10), .val (.int v22), .val (.int v22), .val (.int v21)] [(.int v21)])) (fun t k => XS.iload X20.here hx rfl (hb hby at_89) rfl k) ?_
    refine Gl.st (g' := (mkF m 93 #[.val (.long p1), .second, .val (.int p2), .val (.int p3), .val (.int p4), .val (.ref a10), .val (.int v22), .val (.int v21), .val (.int v21)] [])) (fun t k => XS.istore X20.here hx rfl (hb hby at_91) rfl (l' := #[.val (.long p1), .second, .val (.int p2), .val (.int p3), .val (.int p4), .val (.ref a10), .val (.int v22), .val (.int v21), .val (.int v21)]) rfl k) ?_
    have hse : k7 ≤ k6 := Nat.le_of_lt (own_li hk7 hk6 c23 (by omega) (by omega))
    refine Gl.st (g' := (mkF m 95 #[.val (.long p1), .second, .val (.int p2), .val (.int p3), .val (.int p4), .val (.ref a10), .val (.int v22), .val (.int v21), .val (.int v21)] [(.ref a10)])) (fun t k => XS.aload X20.here hx rfl (hb hby at_93) rfl rfl k) ?_
    refine Gl.st (g' := (mkF m 97 #[.val (.long p1), .second, .val (.int p2), .val (.int p3), .val (.int p4), .val (.ref a10), .val (.int v22), .val (.int v21), .val (.int v21)] [(.int v22), (.ref a10)])) (fun t k => XS.iload X20.here hx rfl (hb hby at_95) rfl k) ?_
    refine Gl.st (g' := (mkF m 99 #[.val (.long p1), .second, .val (.int p2), .val (.int p3), .val (.int p4), .val (.ref a10), .val (.int v22), .val (.int v21), .val (.int v21)] [(.int v21), (.int v22), (.ref a10)])) (fun t k => XS.iload X20.here hx rfl (hb hby at_97) rfl k) ?_
    obtain ⟨_, _, ⟨T24, L24, k24, n24⟩, -, X24, ⟨Lc24, hQ24, l24, y24, z24⟩, st24⟩ := Jvm.LawKit.callS X20 hx (y := (⟨"com/example/archwright/archwright/xsd/ValueType", "trimEnd", "([BII)I"⟩ : MethodName)) hown (mvT hZ (hw _ (List.mem_of_getElem? (i := 6) rfl))) (mvT hZ (hw _ (List.mem_of_getElem? (i := 7) rfl))) (mvT hZ (hw _ (List.mem_of_getElem? (i := 8) rfl))) (mvT hZ (hw _ (List.mem_of_getElem? (i := 9) rfl))) (by decide) (backOf (W := 0) (rm4 l Z a0 hw a10 v22 v21 [b12, b14, b16, b18, b20] cA10 (5 : Int32) k7 k6 h20 n0 Z20 V20 rfl (by decide : 5 ≤ 16) hk7 hk6 hse (by show _ ≤ 5; omega)) hZ (hw _ (List.mem_of_getElem? (i := 9) rfl)) (hw _ (List.mem_of_getElem? (i := 8) rfl)) (by decide) (by decide)) (g := (mkF m 99 #[.val (.long p1), .second, .val (.int p2), .val (.int p3), .val (.int p4), .val (.ref a10), .val (.int v22), .val (.int v21), .val (.int v21)] [(.int v21), (.int v22), (.ref a10)])) rfl (by rw [hml]; rfl) (argsL := [(.ref a10), (.int v22), (.int v21)]) (rest := []) (lenOf pd_3 rfl) rfl (by show 2 * 0 + _ ≤ _; exact Nat.le_of_eq rfl) (hb hby at_99) (fun _ _ => ⟨rfl, e20, (by decide : 0 + 1 + 0 + 0 + 0 + 0 + 0 + 0 ≤ _), (by decide : 0 + 5 + 0 + 0 + 0 + 0 + 0 + 0 ≤ _)⟩)
    dsimp only [Pt.U, Pt.locs, Pt.cells, Pt.slots] at X24 l24 y24 z24 st24 hQ24
    subst l24 y24 z24
    obtain ⟨rfl, Nq24, e24⟩ := hQ24
    have N24 := Fr.app N20 Nq24
    refine Gl.st (g' := (mkF m 102 #[.val (.long p1), .second, .val (.int p2), .val (.int p3), .val (.int p4), .val (.ref a10), .val (.int v22), .val (.int v21), .val (.int v21)] [(.int (Int32.ofNat (own_tr [b12, b14, b16, b18, b20] k7 k6)))])) st24 ?_
    generalize hv25 : (Int32.ofNat (own_tr [b12, b14, b16, b18, b20] k7 k6)) = v25
    refine Gl.st (g' := (mkF m 104 #[.val (.long p1), .second, .val (.int p2), .val (.int p3), .val (.int p4), .val (.ref a10), .val (.int v22), .val (.int v21), .val (.int v25)] [])) (fun t k => XS.istore X24.here hx rfl (hb hby at_102) rfl (l' := #[.val (.long p1), .second, .val (.int p2), .val (.int p3), .val (.int p4), .val (.ref a10), .val (.int v22), .val (.int v21), .val (.int v25)]) rfl k) ?_
    obtain ⟨t1, t2, t3, t4⟩ := own_tr_spec [b12, b14, b16, b18, b20] k7 k6 hse
    have hr := hv25.symm
    generalize own_tr [b12, b14, b16, b18, b20] k7 k6 = rn at hr t1 t2 t3 t4
    refine Gl.st (g' := (mkF m 106 #[.val (.long p1), .second, .val (.int p2), .val (.int p3), .val (.int p4), .val (.ref a10), .val (.int v22), .val (.int v21), .val (.int v25)] [(.int v25)])) (fun t k => XS.iload X24.here hx rfl (hb hby at_104) rfl k) ?_
    refine Gl.st (g' := (mkF m 108 #[.val (.long p1), .second, .val (.int p2), .val (.int p3), .val (.int p4), .val (.ref a10), .val (.int v22), .val (.int v21), .val (.int v25)] [(.int v22), (.int v25)])) (fun t k => XS.iload X24.here hx rfl (hb hby at_106) rfl k) ?_
    refine Gl.st (g' := (mkF m 111 #[.val (.long p1), .second, .val (.int p2), .val (.int p3), .val (.int p4), .val (.ref a10), .val (.int v22), .val (.int v21), .val (.int v25)] [])) (fun t k => XS.icmpNo X24.here hx rfl (hb hby at_108) rfl (XT.ii_lt_f (own_nlt (by rw [hr, hk7, own_nat (by omega), own_nat (by omega)]; omega))) k) ?_
    refine Gl.st (g' := (mkF m 113 #[.val (.long p1), .second, .val (.int p2), .val (.int p3), .val (.int p4), .val (.ref a10), .val (.int v22), .val (.int v21), .val (.int v25)] [(.int v25)])) (fun t k => XS.iload X24.here hx rfl (hb hby at_111) rfl k) ?_
    refine Gl.st (g' := (mkF m 115 #[.val (.long p1), .second, .val (.int p2), .val (.int p3), .val (.int p4), .val (.ref a10), .val (.int v22), .val (.int v21), .val (.int v25)] [(.int v21), (.int v25)])) (fun t k => XS.iload X24.here hx rfl (hb hby at_113) rfl k) ?_
    refine Gl.st (g' := (mkF m 120 #[.val (.long p1), .second, .val (.int p2), .val (.int p3), .val (.int p4), .val (.ref a10), .val (.int v22), .val (.int v21), .val (.int v25)] [])) (fun t k => XS.icmpYes X24.here hx rfl (pc0 := 115) (pc' := 120) rfl (hb hby at_115) rfl (XT.ii_le_t (own_nlt (by rw [hr, hk6, own_nat (by omega), own_nat (by omega)]; omega))) (by decide) (by decide) k) ?_
    refine Gl.st (g' := (mkF m 122 #[.val (.long p1), .second, .val (.int p2), .val (.int p3), .val (.int p4), .val (.ref a10), .val (.int v22), .val (.int v21), .val (.int v25)] [(.ref a10)])) (fun t k => XS.aload X24.here hx rfl (hb hby at_120) rfl rfl k) ?_
    refine Gl.st (g' := (mkF m 123 #[.val (.long p1), .second, .val (.int p2), .val (.int p3), .val (.int p4), .val (.ref a10), .val (.int v22), .val (.int v21), .val (.int v25)] [(.int (0 : Int32)), (.ref a10)])) (fun t k => XT.iconstV X24.here hx rfl (0 : Int32) (hb hby at_122) rfl k) ?_
    refine Gl.st (g' := (mkF m 125 #[.val (.long p1), .second, .val (.int p2), .val (.int p3), .val (.int p4), .val (.ref a10), .val (.int v22), .val (.int v21), .val (.int v25)] [(.int v25), (.int (0 : Int32)), (.ref a10)])) (fun t k => XS.iload X24.here hx rfl (hb hby at_123) rfl k) ?_
    refine Gl.st (g' := (mkF m 127 #[.val (.long p1), .second, .val (.int p2), .val (.int p3), .val (.int p4), .val (.ref a10), .val (.int v22), .val (.int v21), .val (.int v25)] [(.int v21), (.int v25), (.int (0 : Int32)), (.ref a10)])) (fun t k => XS.iload X24.here hx rfl (hb hby at_125) rfl k) ?_
    obtain ⟨_, _, ⟨T26, L26, k26, n26⟩, -, X26, ⟨Lc26, hQ26, l26, y26, z26⟩, st26⟩ := Jvm.LawKit.callS X24 hx (y := (⟨"com/example/archwright/archwright/xsd/ValueTypeTrimEndPinLaw", "spaceIfInside", "([BIII)Z"⟩ : MethodName)) hown (mvT hZ (hw _ (List.mem_of_getElem? (i := 13) rfl))) (mvT hZ (hw _ (List.mem_of_getElem? (i := 14) rfl))) (mvT hZ (hw _ (List.mem_of_getElem? (i := 3) rfl))) (mvT hZ (hw _ (List.mem_of_getElem? (i := 15) rfl))) (by decide) (backOf (W := 0) (rm3 l Z a0 hw a10 (0 : Int32) v25 v21 [b12, b14, b16, b18, b20] cA10 (5 : Int32) b12 h20 n0 Z20 V20 (by decide) rfl) hZ (hw _ (List.mem_of_getElem? (i := 15) rfl)) (hw _ (List.mem_of_getElem? (i := 3) rfl)) (by decide) (by decide)) (g := (mkF m 127 #[.val (.long p1), .second, .val (.int p2), .val (.int p3), .val (.int p4), .val (.ref a10), .val (.int v22), .val (.int v21), .val (.int v25)] [(.int v21), (.int v25), (.int (0 : Int32)), (.ref a10)])) rfl (by rw [hml]; rfl) (argsL := [(.ref a10), (.int (0 : Int32)), (.int v25), (.int v21)]) (rest := []) (lenOf pd_2 rfl) rfl (by show 2 * 0 + _ ≤ _; exact Nat.le_of_eq rfl) (hb hby at_127) (fun _ _ => ⟨rfl, e24, (by decide : 0 + 1 + 0 + 0 + 0 + 0 + 0 + 0 + 0 ≤ _), (by decide : 0 + 5 + 0 + 0 + 0 + 0 + 0 + 0 + 0 ≤ _)⟩)
    dsimp only [Pt.U, Pt.locs, Pt.cells, Pt.slots] at X26 l26 y26 z26 st26 hQ26
    subst l26 y26 z26
    obtain ⟨rfl, Nq26, e26⟩ := hQ26
    have N26 := Fr.app N24 Nq26
    refine Gl.st (g' := (mkF m 130 #[.val (.long p1), .second, .val (.int p2), .val (.int p3), .val (.int p4), .val (.ref a10), .val (.int v22), .val (.int v21), .val (.int v25)] [(.int (own_si b12 (0 : Int32) v25 v21))])) st26 ?_
    refine Gl.st (g' := (mkF m 135 #[.val (.long p1), .second, .val (.int p2), .val (.int p3), .val (.int p4), .val (.ref a10), .val (.int v22), .val (.int v21), .val (.int v25)] [])) (fun t k => XS.ifYes X26.here hx rfl (pc0 := 130) (pc' := 135) rfl (hb hby at_130) rfl (XT.i0_ne_t (own_siok (kn := 0) rfl hr hk6 (by omega) (by omega) (by omega) (fun q1 q2 => t3 0 q1 q2))) (by decide) (by decide) k) ?_
    refine Gl.st (g' := (mkF m 137 #[.val (.long p1), .second, .val (.int p2), .val (.int p3), .val (.int p4), .val (.ref a10), .val (.int v22), .val (.int v21), .val (.int v25)] [(.ref a10)])) (fun t k => XS.aload X26.here hx rfl (hb hby at_135) rfl rfl k) ?_
    refine Gl.st (g' := (mkF m 138 #[.val (.long p1), .second, .val (.int p2), .val (.int p3), .val (.int p4), .val (.ref a10), .val (.int v22), .val (.int v21), .val (.int v25)] [(.int (1 : Int32)), (.ref a10)])) (fun t k => XT.iconstV X26.here hx rfl (1 : Int32) (hb hby at_137) rfl k) ?_
    refine Gl.st (g' := (mkF m 140 #[.val (.long p1), .second, .val (.int p2), .val (.int p3), .val (.int p4), .val (.ref a10), .val (.int v22), .val (.int v21), .val (.int v25)] [(.int v25), (.int (1 : Int32)), (.ref a10)])) (fun t k => XS.iload X26.here hx rfl (hb hby at_138) rfl k) ?_
    refine Gl.st (g' := (mkF m 142 #[.val (.long p1), .second, .val (.int p2), .val (.int p3), .val (.int p4), .val (.ref a10), .val (.int v22), .val (.int v21), .val (.int v25)] [(.int v21), (.int v25), (.int (1 : Int32)), (.ref a10)])) (fun t k => XS.iload X26.here hx rfl (hb hby at_140) rfl k) ?_
    obtain ⟨_, _, ⟨T27, L27, k27, n27⟩, -, X27, ⟨Lc27, hQ27, l27, y27, z27⟩, st27⟩ := Jvm.LawKit.callS X26 hx (y := (⟨"com/example/archwright/archwright/xsd/ValueTypeTrimEndPinLaw", "spaceIfInside", "([BIII)Z"⟩ : MethodName)) hown (mvT hZ (hw _ (List.mem_of_getElem? (i := 13) rfl))) (mvT hZ (hw _ (List.mem_of_getElem? (i := 14) rfl))) (mvT hZ (hw _ (List.mem_of_getElem? (i := 3) rfl))) (mvT hZ (hw _ (List.mem_of_getElem? (i := 15) rfl))) (by decide) (backOf (W := 0) (rm3 l Z a0 hw a10 (1 : Int32) v25 v21 [b12, b14, b16, b18, b20] cA10 (5 : Int32) b14 h20 n0 Z20 V20 (by decide) rfl) hZ (hw _ (List.mem_of_getElem? (i := 15) rfl)) (hw _ (List.mem_of_getElem? (i := 3) rfl)) (by decide) (by decide)) (g := (mkF m 142 #[.val (.long p1), .second, .val (.int p2), .val (.int p3), .val (.int p4), .val (.ref a10), .val (.int v22), .val (.int v21), .val (.int v25)] [(.int v21), (.int v25), (.int (1 : Int32)), (.ref a10)])) rfl (by rw [hml]; rfl) (argsL := [(.ref a10), (.int (1 : Int32)), (.int v25), (.int v21)]) (rest := []) (lenOf pd_2 rfl) rfl (by show 2 * 0 + _ ≤ _; exact Nat.le_of_eq rfl) (hb hby at_142) (fun _ _ => ⟨rfl, e26, (by decide : 0 + 1 + 0 + 0 + 0 + 0 + 0 + 0 + 0 + 0 ≤ _), (by decide : 0 + 5 + 0 + 0 + 0 + 0 + 0 + 0 + 0 + 0 ≤ _)⟩)
    dsimp only [Pt.U, Pt.locs, Pt.cells, Pt.slots] at X27 l27 y27 z27 st27 hQ27
    subst l27 y27 z27
    obtain ⟨rfl, Nq27, e27⟩ := hQ27
    have N27 := Fr.app N26 Nq27
    refine Gl.st (g' := (mkF m 145 #[.val (.long p1), .second, .val (.int p2), .val (.int p3), .val (.int p4), .val (.ref a10), .val (.int v22), .val (.int v21), .val (.int v25)] [(.int (own_si b14 (1 : Int32) v25 v21))])) st27 ?_
    refine Gl.st (g' := (mkF m 150 #[.val (.long p1), .second, .val (.int p2), .val (.int p3), .val (.int p4), .val (.ref a10), .val (.int v22), .val (.int v21), .val (.int v25)] [])) (fun t k => XS.ifYes X27.here hx rfl (pc0 := 145) (pc' := 150) rfl (hb hby at_145) rfl (XT.i0_ne_t (own_siok (kn := 1) rfl hr hk6 (by omega) (by omega) (by omega) (fun q1 q2 => t3 1 q1 q2))) (by decide) (by decide) k) ?_
    refine Gl.st (g' := (mkF m 152 #[.val (.long p1), .second, .val (.int p2), .val (.int p3), .val (.int p4), .val (.ref a10), .val (.int v22), .val (.int v21), .val (.int v25)] [(.ref a10)])) (fun t k => XS.aload X27.here hx rfl (hb hby at_150) rfl rfl k) ?_
    refine Gl.st (g' := (mkF m 153 #[.val (.long p1), .second, .val (.int p2), .val (.int p3), .val (.int p4), .val (.ref a10), .val (.int v22), .val (.int v21), .val (.int v25)] [(.int (2 : Int32)), (.ref a10)])) (fun t k => XT.iconstV X27.here hx rfl (2 : Int32) (hb hby at_152) rfl k) ?_
    refine Gl.st (g' := (mkF m 155 #[.val (.long p1), .second, .val (.int p2), .val (.int p3), .val (.int p4), .val (.ref a10), .val (.int v22), .val (.int v21), .val (.int v25)] [(.int v25), (.int (2 : Int32)), (.ref a10)])) (fun t k => XS.iload X27.here hx rfl (hb hby at_153) rfl k) ?_
    refine Gl.st (g' := (mkF m 157 #[.val (.long p1), .second, .val (.int p2), .val (.int p3), .val (.int p4), .val (.ref a10), .val (.int v22), .val (.int v21), .val (.int v25)] [(.int v21), (.int v25), (.int (2 : Int32)), (.ref a10)])) (fun t k => XS.iload X27.here hx rfl (hb hby at_155) rfl k) ?_
    obtain ⟨_, _, ⟨T28, L28, k28, n28⟩, -, X28, ⟨Lc28, hQ28, l28, y28, z28⟩, st28⟩ := Jvm.LawKit.callS X27 hx (y := (⟨"com/example/archwright/archwright/xsd/ValueTypeTrimEndPinLaw", "spaceIfInside", "([BIII)Z"⟩ : MethodName)) hown (mvT hZ (hw _ (List.mem_of_getElem? (i := 13) rfl))) (mvT hZ (hw _ (List.mem_of_getElem? (i := 14) rfl))) (mvT hZ (hw _ (List.mem_of_getElem? (i := 3) rfl))) (mvT hZ (hw _ (List.mem_of_getElem? (i := 15) rfl))) (by decide) (backOf (W := 0) (rm3 l Z a0 hw a10 (2 : Int32) v25 v21 [b12, b14, b16, b18, b20] cA10 (5 : Int32) b16 h20 n0 Z20 V20 (by decide) rfl) hZ (hw _ (List.mem_of_getElem? (i := 15) rfl)) (hw _ (List.mem_of_getElem? (i := 3) rfl)) (by decide) (by decide)) (g := (mkF m 157 #[.val (.long p1), .second, .val (.int p2), .val (.int p3), .val (.int p4), .val (.ref a10), .val (.int v22), .val (.int v21), .val (.int v25)] [(.int v21), (.int v25), (.int (2 : Int32)), (.ref a10)])) rfl (by rw [hml]; rfl) (argsL := [(.ref a10), (.int (2 : Int32)), (.int v25), (.int v21)]) (rest := []) (lenOf pd_2 rfl) rfl (by show 2 * 0 + _ ≤ _; exact Nat.le_of_eq rfl) (hb hby at_157) (fun _ _ => ⟨rfl, e27, (by decide : 0 + 1 + 0 + 0 + 0 + 0 + 0 + 0 + 0 + 0 + 0 ≤ _), (by decide : 0 + 5 + 0 + 0 + 0 + 0 + 0 + 0 + 0 + 0 + 0 ≤ _)⟩)
    dsimp only [Pt.U, Pt.locs, Pt.cells, Pt.slots] at X28 l28 y28 z28 st28 hQ28
    subst l28 y28 z28
    obtain ⟨rfl, Nq28, e28⟩ := hQ28
    have N28 := Fr.app N27 Nq28
    refine Gl.st (g' := (mkF m 160 #[.val (.long p1), .second, .val (.int p2), .val (.int p3), .val (.int p4), .val (.ref a10), .val (.int v22), .val (.int v21), .val (.int v25)] [(.int (own_si b16 (2 : Int32) v25 v21))])) st28 ?_
    refine Gl.st (g' := (mkF m 165 #[.val (.long p1), .second, .val (.int p2), .val (.int p3), .val (.int p4), .val (.ref a10), .val (.int v22), .val (.int v21), .val (.int v25)] [])) (fun t k => XS.ifYes X28.here hx rfl (pc0 := 160) (pc' := 165) rfl (hb hby at_160) rfl (XT.i0_ne_t (own_siok (kn := 2) rfl hr hk6 (by omega) (by omega) (by omega) (fun q1 q2 => t3 2 q1 q2))) (by decide) (by decide) k) ?_
    refine Gl.st (g' := (mkF m 167 #[.val (.long p1), .second, .val (.int p2), .val (.int p3), .val (.int p4), .val (.ref a10), .val (.int v22), .val (.int v21), .val (.int v25)] [(.ref a10)])) (fun t k => XS.aload X28.here hx rfl (hb hby at_165) rfl rfl k) ?_
    refine Gl.st (g' := (mkF m 168 #[.val (.long p1), .second, .val (.int p2), .val (.int p3), .val (.int p4), .val (.ref a10), .val (.int v22), .val (.int v21), .val (.int v25)] [(.int (3 : Int32)), (.ref a10)])) (fun t k => XT.iconstV X28.here hx rfl (3 : Int32) (hb hby at_167) rfl k) ?_
    refine Gl.st (g' := (mkF m 170 #[.val (.long p1), .second, .val (.int p2), .val (.int p3), .val (.int p4), .val (.ref a10), .val (.int v22), .val (.int v21), .val (.int v25)] [(.int v25), (.int (3 : Int32)), (.ref a10)])) (fun t k => XS.iload X28.here hx rfl (hb hby at_168) rfl k) ?_
    refine Gl.st (g' := (mkF m 172 #[.val (.long p1), .second, .val (.int p2), .val (.int p3), .val (.int p4), .val (.ref a10), .val (.int v22), .val (.int v21), .val (.int v25)] [(.int v21), (.int v25), (.int (3 : Int32)), (.ref a10)])) (fun t k => XS.iload X28.here hx rfl (hb hby at_170) rfl k) ?_
    obtain ⟨_, _, ⟨T29, L29, k29, n29⟩, -, X29, ⟨Lc29, hQ29, l29, y29, z29⟩, st29⟩ := Jvm.LawKit.callS X28 hx (y := (⟨"com/example/archwright/archwright/xsd/ValueTypeTrimEndPinLaw", "spaceIfInside", "([BIII)Z"⟩ : MethodName)) hown (mvT hZ (hw _ (List.mem_of_getElem? (i := 13) rfl))) (mvT hZ (hw _ (List.mem_of_getElem? (i := 14) rfl))) (mvT hZ (hw _ (List.mem_of_getElem? (i := 3) rfl))) (mvT hZ (hw _ (List.mem_of_getElem? (i := 15) rfl))) (by decide) (backOf (W := 0) (rm3 l Z a0 hw a10 (3 : Int32) v25 v21 [b12, b14, b16, b18, b20] cA10 (5 : Int32) b18 h20 n0 Z20 V20 (by decide) rfl) hZ (hw _ (List.mem_of_getElem? (i := 15) rfl)) (hw _ (List.mem_of_getElem? (i := 3) rfl)) (by decide) (by decide)) (g := (mkF m 172 #[.val (.long p1), .second, .val (.int p2), .val (.int p3), .val (.int p4), .val (.ref a10), .val (.int v22), .val (.int v21), .val (.int v25)] [(.int v21), (.int v25), (.int (3 : Int32)), (.ref a10)])) rfl (by rw [hml]; rfl) (argsL := [(.ref a10), (.int (3 : Int32)), (.int v25), (.int v21)]) (rest := []) (lenOf pd_2 rfl) rfl (by show 2 * 0 + _ ≤ _; exact Nat.le_of_eq rfl) (hb hby at_172) (fun _ _ => ⟨rfl, e28, (by decide : 0 + 1 + 0 + 0 + 0 + 0 + 0 + 0 + 0 + 0 + 0 + 0 ≤ _), (by decide : 0 + 5 + 0 + 0 + 0 + 0 + 0 + 0 + 0 + 0 + 0 + 0 ≤ _)⟩)
    dsimp only [Pt.U, Pt.locs, Pt.cells, Pt.slots] at X29 l29 y29 z29 st29 hQ29
    subst l29 y29 z29
    obtain ⟨rfl, Nq29, e29⟩ := hQ29
    have N29 := Fr.app N28 Nq29
    refine Gl.st (g' := (mkF m 175 #[.val (.long p1), .second, .val (.int p2), .val (.int p3), .val (.int p4), .val (.ref a10), .val (.int v22), .val (.int v21), .val (.int v25)] [(.int (own_si b18 (3 : Int32) v25 v21))])) st29 ?_
    refine Gl.st (g' := (mkF m 180 #[.val (.long p1), .second, .val (.int p2), .val (.int p3), .val (.int p4), .val (.ref a10), .val (.int v22), .val (.int v21), .val (.int v25)] [])) (fun t k => XS.ifYes X29.here hx rfl (pc0 := 175) (pc' := 180) rfl (hb hby at_175) rfl (XT.i0_ne_t (own_siok (kn := 3) rfl hr hk6 (by omega) (by omega) (by omega) (fun q1 q2 => t3 3 q1 q2))) (by decide) (by decide) k) ?_
    refine Gl.st (g' := (mkF m 182 #[.val (.long p1), .second, .val (.int p2), .val (.int p3), .val (.int p4), .val (.ref a10), .val (.int v22), .val (.int v21), .val (.int v25)] [(.ref a10)])) (fun t k => XS.aload X29.here hx rfl (hb hby at_180) rfl rfl k) ?_
    refine Gl.st (g' := (mkF m 183 #[.val (.long p1), .second, .val (.int p2), .val (.int p3), .val (.int p4), .val (.ref a10), .val (.int v22), .val (.int v21), .val (.int v25)] [(.int (4 : Int32)), (.ref a10)])) (fun t k => XT.iconstV X29.here hx rfl (4 : Int32) (hb hby at_182) rfl k) ?_
    refine Gl.st (g' := (mkF m 185 #[.val (.long p1), .second, .val (.int p2), .val (.int p3), .val (.int p4), .val (.ref a10), .val (.int v22), .val (.int v21), .val (.int v25)] [(.int v25), (.int (4 : Int32)), (.ref a10)])) (fun t k => XS.iload X29.here hx rfl (hb hby at_183) rfl k) ?_
    refine Gl.st (g' := (mkF m 187 #[.val (.long p1), .second, .val (.int p2), .val (.int p3), .val (.int p4), .val (.ref a10), .val (.int v22), .val (.int v21), .val (.int v25)] [(.int v21), (.int v25), (.int (4 : Int32)), (.ref a10)])) (fun t k => XS.iload X29.here hx rfl (hb hby at_185) rfl k) ?_
    obtain ⟨_, _, ⟨T30, L30, k30, n30⟩, -, X30, ⟨Lc30, hQ30, l30, y30, z30⟩, st30⟩ := Jvm.LawKit.callS X29 hx (y := (⟨"com/example/archwright/archwright/xsd/ValueTypeTrimEndPinLaw", "spaceIfInside", "([BIII)Z"⟩ : MethodName)) hown (mvT hZ (hw _ (List.mem_of_getElem? (i := 13) rfl))) (mvT hZ (hw _ (List.mem_of_getElem? (i := 14) rfl))) (mvT hZ (hw _ (List.mem_of_getElem? (i := 3) rfl))) (mvT hZ (hw _ (List.mem_of_getElem? (i := 15) rfl))) (by decide) (backOf (W := 0) (rm3 l Z a0 hw a10 (4 : Int32) v25 v21 [b12, b14, b16, b18, b20] cA10 (5 : Int32) b20 h20 n0 Z20 V20 (by decide) rfl) hZ (hw _ (List.mem_of_getElem? (i := 15) rfl)) (hw _ (List.mem_of_getElem? (i := 3) rfl)) (by decide) (by decide)) (g := (mkF m 187 #[.val (.long p1), .second, .val (.int p2), .val (.int p3), .val (.int p4), .val (.ref a10), .val (.int v22), .val (.int v21), .val (.int v25)] [(.int v21), (.int v25), (.int (4 : Int32)), (.ref a10)])) rfl (by rw [hml]; rfl) (argsL := [(.ref a10), (.int (4 : Int32)), (.int v25), (.int v21)]) (rest := []) (lenOf pd_2 rfl) rfl (by show 2 * 0 + _ ≤ _; exact Nat.le_of_eq rfl) (hb hby at_187) (fun _ _ => ⟨rfl, e29, (by decide : 0 + 1 + 0 + 0 + 0 + 0 + 0 + 0 + 0 + 0 + 0 + 0 + 0 ≤ _), (by decide : 0 + 5 + 0 + 0 + 0 + 0 + 0 + 0 + 0 + 0 + 0 + 0 + 0 ≤ _)⟩)
    dsimp only [Pt.U, Pt.locs, Pt.cells, Pt.slots] at X30 l30 y30 z30 st30 hQ30
    subst l30 y30 z30
    obtain ⟨rfl, Nq30, e30⟩ := hQ30
    have N30 := Fr.app N29 Nq30
    refine Gl.st (g' := (mkF m 190 #[.val (.long p1), .second, .val (.int p2), .val (.int p3), .val (.int p4), .val (.ref a10), .val (.int v22), .val (.int v21), .val (.int v25)] [(.int (own_si b20 (4 : Int32) v25 v21))])) st30 ?_
    refine Gl.st (g' := (mkF m 195 #[.val (.long p1), .second, .val (.int p2), .val (.int p3), .val (.int p4), .val (.ref a10), .val (.int v22), .val (.int v21), .val (.int v25)] [])) (fun t k => XS.ifYes X30.here hx rfl (pc0 := 190) (pc' := 195) rfl (hb hby at_190) rfl (XT.i0_ne_t (own_siok (kn := 4) rfl hr hk6 (by omega) (by omega) (by omega) (fun q1 q2 => t3 4 q1 q2))) (by decide) (by decide) k) ?_
    refine Gl.st (g' := (mkF m 197 #[.val (.long p1), .second, .val (.int p2), .val (.int p3), .val (.int p4), .val (.ref a10), .val (.int v22), .val (.int v21), .val (.int v25)] [(.int v25)])) (fun t k => XS.iload X30.here hx rfl (hb hby at_195) rfl k) ?_
    refine Gl.st (g' := (mkF m 199 #[.val (.long p1), .second, .val (.int p2), .val (.int p3), .val (.int p4), .val (.ref a10), .val (.int v22), .val (.int v21), .val (.int v25)] [(.int v22), (.int v25)])) (fun t k => XS.iload X30.here hx rfl (hb hby at_197) rfl k) ?_
    by_cases c31 : v22 < v25
    · skip
      refine Gl.st (g' := (mkF m 202 #[.val (.long p1), .second, .val (.int p2), .val (.int p3), .val (.int p4), .val (.ref a10), .val (.int v22), .val (.int v21), .val (.int v25)] [])) (fun t k => XS.icmpNo X30.here hx rfl (hb hby at_199) rfl (XT.ii_le_f c31) k) ?_
      refine Gl.st (g' := (mkF m 204 #[.val (.long p1), .second, .val (.int p2), .val (.int p3), .val (.int p4), .val (.ref a10), .val (.int v22), .val (.int v21), .val (.int v25)] [(.ref a10)])) (fun t k => XS.aload X30.here hx rfl (hb hby at_202) rfl rfl k) ?_
      refine Gl.st (g' := (mkF m 206 #[.val (.long p1), .second, .val (.int p2), .val (.int p3), .val (.int p4), .val (.ref a10), .val (.int v22), .val (.int v21), .val (.int v25)] [(.int v25), (.ref a10)])) (fun t k => XS.iload X30.here hx rfl (hb hby at_204) rfl k) ?_
      refine Gl.st (g' := (mkF m 207 #[.val (.long p1), .second, .val (.int p2), .val (.int p3), .val (.int p4), .val (.ref a10), .val (.int v22), .val (.int v21), .val (.int v25)] [(.int (1 : Int32)), (.int v25), (.ref a10)])) (fun t k => XT.iconstV X30.here hx rfl (1 : Int32) (hb hby at_206) rfl k) ?_
      refine Gl.st (g' := (mkF m 208 #[.val (.long p1), .second, .val (.int p2), .val (.int p3), .val (.int p4), .val (.ref a10), .val (.int v22), .val (.int v21), .val (.int v25)] [(.int (v25 - (1 : Int32))), (.ref a10)])) (fun t k => XS.isub X30.here hx rfl (hb hby at_207) rfl k) ?_
      have hlt : k7 < rn := own_li hk7 hr c31 (by omega) (by omega)
      obtain ⟨rk, hrk⟩ : ∃ z, rn = z + 1 := ⟨rn - 1, by omega⟩
      have hrd : v25 - (1 : Int32) = Int32.ofNat rk := by rw [hr, hrk]; exact own_dec rk
      refine Gl.st (g' := (mkF m 209 #[.val (.long p1), .second, .val (.int p2), .val (.int p3), .val (.int p4), .val (.ref a10), .val (.int v22), .val (.int v21), .val (.int v25)] [(.int (List.getD [b12, b14, b16, b18, b20] rk 0))])) (own_ldB X30 hx hZ e30 V20 (j := (v25 - (1 : Int32))) (v := (.int (List.getD [b12, b14, b16, b18, b20] rk 0))) ⟨own_ge0 hrd (by omega), own_il hrd (n := 5) rfl (by omega) (by decide)⟩ (own_get [b12, b14, b16, b18, b20] hrd (by omega)) (g := (mkF m 208 #[.val (.long p1), .second, .val (.int p2), .val (.int p3), .val (.int p4), .val (.ref a10), .val (.int v22), .val (.int v21), .val (.int v25)] [(.int (v25 - (1 : Int32))), (.ref a10)])) rfl rfl (hb hby at_208)) ?_
      refine Gl.st (g' := (mkF m 211 #[.val (.long p1), .second, .val (.int p2), .val (.int p3), .val (.int p4), .val (.ref a10), .val (.int v22), .val (.int v21), .val (.int v25)] [(.int (32 : Int32)), (.int (List.getD [b12, b14, b16, b18, b20] rk 0))])) (fun t k => XT.bipushV X30.here hx rfl (32 : Int32) (hb hby at_209) rfl k) ?_
      refine Gl.st (g' := (mkF m 216 #[.val (.long p1), .second, .val (.int p2), .val (.int p3), .val (.int p4), .val (.ref a10), .val (.int v22), .val (.int v21), .val (.int v25)] [])) (fun t k => XS.icmpYes X30.here hx rfl (pc0 := 211) (pc' := 216) rfl (hb hby at_211) rfl (XT.ii_ne_t (by have q := t4 hlt; rw [hrk, Nat.add_sub_cancel] at q; exact q)) (by decide) (by decide) k) ?_
      refine Gl.st (g' := (mkF m 217 #[.val (.long p1), .second, .val (.int p2), .val (.int p3), .val (.int p4), .val (.ref a10), .val (.int v22), .val (.int v21), .val (.int v25)] [(.int (1 : Int32))])) (fun t k => XT.iconstV X30.here hx rfl (1 : Int32) (hb hby at_216) rfl k) ?_
      refine Gl.retZ X30 hx hlk .boolean (by simp) Bd.returns (hb hby at_217) e30 (by decide) (by decide) ?_
      rw [Q0, own_z1]
      exact ⟨rfl, N30⟩
    · skip
      refine Gl.st (g' := (mkF m 216 #[.val (.long p1), .second, .val (.int p2), .val (.int p3), .val (.int p4), .val (.ref a10), .val (.int v22), .val (.int v21), .val (.int v25)] [])) (fun t k => XS.icmpYes X30.here hx rfl (pc0 := 199) (pc' := 216) rfl (hb hby at_199) rfl (XT.ii_le_t c31) (by decide) (by decide) k) ?_
      refine Gl.st (g' := (mkF m 217 #[.val (.long p1), .second, .val (.int p2), .val (.int p3), .val (.int p4), .val (.ref a10), .val (.int v22), .val (.int v21), .val (.int v25)] [(.int (1 : Int32))])) (fun t k => XT.iconstV X30.here hx rfl (1 : Int32) (hb hby at_216) rfl k) ?_
      refine Gl.retZ X30 hx hlk .boolean (by simp) Bd.returns (hb hby at_217) e30 (by decide) (by decide) ?_
      rw [Q0, own_z1]
      exact ⟨rfl, N30⟩
  · skip
    refine Gl.st (g' := (mkF m 93 #[.val (.long p1), .second, .val (.int p2), .val (.int p3), .val (.int p4), .val (.ref a10), .val (.int v21), .val (.int v22), .unset] [])) (fun t k => XS.icmpYes X20.here hx rfl (pc0 := 78) (pc' := 93) rfl (hb hby at_78) rfl (XT.ii_le_t c23) (by decide) (by decide) k) ?_
    have hse : k6 ≤ k7 := Nat.le_of_not_lt fun w => c23 (own_il hk7 hk6 w (by omega))
    refine Gl.st (g' := (mkF m 95 #[.val (.long p1), .second, .val (.int p2), .val (.int p3), .val (.int p4), .val (.ref a10), .val (.int v21), .val (.int v22), .unset] [(.ref a10)])) (fun t k => XS.aload X20.here hx rfl (hb hby at_93) rfl rfl k) ?_
    refine Gl.st (g' := (mkF m 97 #[.val (.long p1), .second, .val (.int p2), .val (.int p3), .val (.int p4), .val (.ref a10), .val (.int v21), .val (.int v22), .unset] [(.int v21), (.ref a10)])) (fun t k => XS.iload X20.here hx rfl (hb hby at_95) rfl k) ?_
    refine Gl.st (g' := (mkF m 99 #[.val (.long p1), .second, .val (.int p2), .val (.int p3), .val (.int p4), .val (.ref a10), .val (.int v21), .val (.int v22), .unset] [(.int v22), (.int v21), (.ref a10)])) (fun t k => XS.iload X20.here hx rfl (hb hby at_97) rfl k) ?_
    obtain ⟨_, _, ⟨T32, L32, k32, n32⟩, -, X32, ⟨Lc32, hQ32, l32, y32, z32⟩, st32⟩ := Jvm.LawKit.callS X20 hx (y := (⟨"com/example/archwright/archwright/xsd/ValueType", "trimEnd", "([BII)I"⟩ : MethodName)) hown (mvT hZ (hw _ (List.mem_of_getElem? (i := 6) rfl))) (mvT hZ (hw _ (List.mem_of_getElem? (i := 7) rfl))) (mvT hZ (hw _ (List.mem_of_getElem? (i := 8) rfl))) (mvT hZ (hw _ (List.mem_of_getElem? (i := 9) rfl))) (by decide) (backOf (W := 0) (rm4 l Z a0 hw a10 v21 v22 [b12, b14, b16, b18, b20] cA10 (5 : Int32) k6 k7 h20 n0 Z20 V20 rfl (by decide : 5 ≤ 16) hk6 hk7 hse (by show _ ≤ 5; omega)) hZ (hw _ (List.mem_of_getElem? (i := 9) rfl)) (hw _ (List.mem_of_getElem? (i := 8) rfl)) (by decide) (by decide)) (g := (mkF m 99 #[.val (.long p1), .second, .val (.int p2), .val (.int p3), .val (.int p4), .val (.ref a10), .val (.int v21), .val (.int v22), .unset] [(.int v22), (.int v21), (.ref a10)])) rfl (by rw [hml]; rfl) (argsL := [(.ref a10), (.int v21), (.int v22)]) (rest := []) (lenOf pd_3 rfl) rfl (by show 2 * 0 + _ ≤ _; exact Nat.le_of_eq rfl) (hb hby at_99) (fun _ _ => ⟨rfl, e20, (by decide : 0 + 1 + 0 + 0 + 0 + 0 + 0 + 0 ≤ _), (by decide : 0 + 5 + 0 + 0 + 0 + 0 + 0 + 0 ≤ _)⟩)
    dsimp only [Pt.U, Pt.locs, Pt.cells, Pt.slots] at X32 l32 y32 z32 st32 hQ32
    subst l32 y32 z32
    obtain ⟨rfl, Nq32, e32⟩ := hQ32
    have N32 := Fr.app N20 Nq32
    refine Gl.st (g' := (mkF m 102 #[.val (.long p1), .second, .val (.int p2), .val (.int p3), .val (.int p4), .val (.ref a10), .val (.int v21), .val (.int v22), .unset] [(.int (Int32.ofNat (own_tr [b12, b14, b16, b18, b20] k6 k7)))])) st32 ?_
    generalize hv33 : (Int32.ofNat (own_tr [b12, b14, b16, b18, b20] k6 k7)) = v33
    refine Gl.st (g' := (mkF m 104 #[.val (.long p1), .second, .val (.int p2), .val (.int p3), .val (.int p4), .val (.ref a10), .val (.int v21), .val (.int v22), .val (.int v33)] [])) (fun t k => XS.istore X32.here hx rfl (hb hby at_102) rfl (l' := #[.val (.long p1), .second, .val (.int p2), .val (.int p3), .val (.int p4), .val (.ref a10), .val (.int v21), .val (.int v22), .val (.int v33)]) rfl k) ?_
    obtain ⟨t1, t2, t3, t4⟩ := own_tr_spec [b12, b14, b16, b18, b20] k6 k7 hse
    have hr := hv33.symm
    generalize own_tr [b12, b14, b16, b18, b20] k6 k7 = rn at hr t1 t2 t3 t4
    refine Gl.st (g' := (mkF m 106 #[.val (.long p1), .second, .val (.int p2), .val (.int p3), .val (.int p4), .val (.ref a10), .val (.int v21), .val (.int v22), .val (.int v33)] [(.int v33)])) (fun t k => XS.iload X32.here hx rfl (hb hby at_104) rfl k) ?_
    refine Gl.st (g' := (mkF m 108 #[.val (.long p1), .second, .val (.int p2), .val (.int p3), .val (.int p4), .val (.ref a10), .val (.int v21), .val (.int v22), .val (.int v33)] [(.int v21), (.int v33)])) (fun t k => XS.iload X32.here hx rfl (hb hby at_106) rfl k) ?_
    refine Gl.st (g' := (mkF m 111 #[.val (.long p1), .second, .val (.int p2), .val (.int p3), .val (.int p4), .val (.ref a10), .val (.int v21), .val (.int v22), .val (.int v33)] [])) (fun t k => XS.icmpNo X32.here hx rfl (hb hby at_108) rfl (XT.ii_lt_f (own_nlt (by rw [hr, hk6, own_nat (by omega), own_nat (by omega)]; omega))) k) ?_
    refine Gl.st (g' := (mkF m 113 #[.val (.long p1), .second, .val (.int p2), .val (.int p3), .val (.int p4), .val (.ref a10), .val (.int v21), .val (.int v22), .val (.int v33)] [(.int v33)])) (fun t k => XS.iload X32.here hx rfl (hb hby at_111) rfl k) ?_
    refine Gl.st (g' := (mkF m 115 #[.val (.long p1), .second, .val (.int p2), .val (.int p3), .val (.int p4), .val (.ref a10), .val (.int v21), .val (.int v22), .val (.int v33)] [(.int v22), (.int v33)])) (fun t k => XS.iload X32.here hx rfl (hb hby at_113) rfl k) ?_
    refine Gl.st (g' := (mkF m 120 #[.val (.long p1), .second, .val (.int p2), .val (.int p3), .val (.int p4), .val (.ref a10), .val (.int v21), .val (.int v22), .val (.int v33)] [])) (fun t k => XS.icmpYes X32.here hx rfl (pc0 := 115) (pc' := 120) rfl (hb hby at_115) rfl (XT.ii_le_t (own_nlt (by rw [hr, hk7, own_nat (by omega), own_nat (by omega)]; omega))) (by decide) (by decide) k) ?_
    refine Gl.st (g' := (mkF m 122 #[.val (.long p1), .second, .val (.int p2), .val (.int p3), .val (.int p4), .val (.ref a10), .val (.int v21), .val (.int v22), .val (.int v33)] [(.ref a10)])) (fun t k => XS.aload X32.here hx rfl (hb hby at_120) rfl rfl k) ?_
    refine Gl.st (g' := (mkF m 123 #[.val (.long p1), .second, .val (.int p2), .val (.int p3), .val (.int p4), .val (.ref a10), .val (.int v21), .val (.int v22), .val (.int v33)] [(.int (0 : Int32)), (.ref a10)])) (fun t k => XT.iconstV X32.here hx rfl (0 : Int32) (hb hby at_122) rfl k) ?_
    refine Gl.st (g' := (mkF m 125 #[.val (.long p1), .second, .val (.int p2), .val (.int p3), .val (.int p4), .val (.ref a10), .val (.int v21), .val (.int v22), .val (.int v33)] [(.int v33), (.int (0 : Int32)), (.ref a10)])) (fun t k => XS.iload X32.here hx rfl (hb hby at_123) rfl k) ?_
    refine Gl.st (g' := (mkF m 127 #[.val (.long p1), .second, .val (.int p2), .val (.int p3), .val (.int p4), .val (.ref a10), .val (.int v21), .val (.int v22), .val (.int v33)] [(.int v22), (.int v33), (.int (0 : Int32)), (.ref a10)])) (fun t k => XS.iload X32.here hx rfl (hb hby at_125) rfl k) ?_
    obtain ⟨_, _, ⟨T34, L34, k34, n34⟩, -, X34, ⟨Lc34, hQ34, l34, y34, z34⟩, st34⟩ := Jvm.LawKit.callS X32 hx (y := (⟨"com/example/archwright/archwright/xsd/ValueTypeTrimEndPinLaw", "spaceIfInside", "([BIII)Z"⟩ : MethodName)) hown (mvT hZ (hw _ (List.mem_of_getElem? (i := 13) rfl))) (mvT hZ (hw _ (List.mem_of_getElem? (i := 14) rfl))) (mvT hZ (hw _ (List.mem_of_getElem? (i := 3) rfl))) (mvT hZ (hw _ (List.mem_of_getElem? (i := 15) rfl))) (by decide) (backOf (W := 0) (rm3 l Z a0 hw a10 (0 : Int32) v33 v22 [b12, b14, b16, b18, b20] cA10 (5 : Int32) b12 h20 n0 Z20 V20 (by decide) rfl) hZ (hw _ (List.mem_of_getElem? (i := 15) rfl)) (hw _ (List.mem_of_getElem? (i := 3) rfl)) (by decide) (by decide)) (g := (mkF m 127 #[.val (.long p1), .second, .val (.int p2), .val (.int p3), .val (.int p4), .val (.ref a10), .val (.int v21), .val (.int v22), .val (.int v33)] [(.int v22), (.int v33), (.int (0 : Int32)), (.ref a10)])) rfl (by rw [hml]; rfl) (argsL := [(.ref a10), (.int (0 : Int32)), (.int v33), (.int v22)]) (rest := []) (lenOf pd_2 rfl) rfl (by show 2 * 0 + _ ≤ _; exact Nat.le_of_eq rfl) (hb hby at_127) (fun _ _ => ⟨rfl, e32, (by decide : 0 + 1 + 0 + 0 + 0 + 0 + 0 + 0 + 0 ≤ _), (by decide : 0 + 5 + 0 + 0 + 0 + 0 + 0 + 0 + 0 ≤ _)⟩)
    dsimp only [Pt.U, Pt.locs, Pt.cells, Pt.slots] at X34 l34 y34 z34 st34 hQ34
    subst l34 y34 z34
    obtain ⟨rfl, Nq34, e34⟩ := hQ34
    have N34 := Fr.app N32 Nq34
    refine Gl.st (g' := (mkF m 130 #[.val (.long p1), .second, .val (.int p2), .val (.int p3), .val (.int p4), .val (.ref a10), .val (.int v21), .val (.int v22), .val (.int v33)] [(.int (own_si b12 (0 : Int32) v33 v22))])) st34 ?_
    refine Gl.st (g' := (mkF m 135 #[.val (.long p1), .second, .val (.int p2), .val (.int p3), .val (.int p4), .val (.ref a10), .val (.int v21), .val (.int v22), .val (.int v33)] [])) (fun t k => XS.ifYes X34.here hx rfl (pc0 := 130) (pc' := 135) rfl (hb hby at_130) rfl (XT.i0_ne_t (own_siok (kn := 0) rfl hr hk7 (by omega) (by omega) (by omega) (fun q1 q2 => t3 0 q1 q2))) (by decide) (by decide) k) ?_
    refine Gl.st (g' := (mkF m 137 #[.val (.long p1), .second, .val (.int p2), .val (.int p3), .val (.int p4), .val (.ref a10), .val (.int v21), .val (.int v22), .val (.int v33)] [(.ref a10)])) (fun t k => XS.aload X34.here hx rfl (hb hby at_135) rfl rfl k) ?_
    refine Gl.st (g' := (mkF m 138 #[.val (.long p1), .second, .val (.int p2), .val (.int p3), .val (.int p4), .val (.ref a10), .val (.int v21), .val (.int v22), .val (.int v33)] [(.int (1 : Int32)), (.ref a10)])) (fun t k => XT.iconstV X34.here hx rfl (1 : Int32) (hb hby at_137) rfl k) ?_
    refine Gl.st (g' := (mkF m 140 #[.val (.long p1), .second, .val (.int p2), .val (.int p3), .val (.int p4), .val (.ref a10), .val (.int v21), .val (.int v22), .val (.int v33)] [(.int v33), (.int (1 : Int32)), (.ref a10)])) (fun t k => XS.iload X34.here hx rfl (hb hby at_138) rfl k) ?_
    refine Gl.st (g' := (mkF m 142 #[.val (.long p1), .second, .val (.int p2), .val (.int p3), .val (.int p4), .val (.ref a10), .val (.int v21), .val (.int v22), .val (.int v33)] [(.int v22), (.int v33), (.int (1 : Int32)), (.ref a10)])) (fun t k => XS.iload X34.here hx rfl (hb hby at_140) rfl k) ?_
    obtain ⟨_, _, ⟨T35, L35, k35, n35⟩, -, X35, ⟨Lc35, hQ35, l35, y35, z35⟩, st35⟩ := Jvm.LawKit.callS X34 hx (y := (⟨"com/example/archwright/archwright/xsd/ValueTypeTrimEndPinLaw", "spaceIfInside", "([BIII)Z"⟩ : MethodName)) hown (mvT hZ (hw _ (List.mem_of_getElem? (i := 13) rfl))) (mvT hZ (hw _ (List.mem_of_getElem? (i := 14) rfl))) (mvT hZ (hw _ (List.mem_of_getElem? (i := 3) rfl))) (mvT hZ (hw _ (List.mem_of_getElem? (i := 15) rfl))) (by decide) (backOf (W := 0) (rm3 l Z a0 hw a10 (1 : Int32) v33 v22 [b12, b14, b16, b18, b20] cA10 (5 : Int32) b14 h20 n0 Z20 V20 (by decide) rfl) hZ (hw _ (List.mem_of_getElem? (i := 15) rfl)) (hw _ (List.mem_of_getElem? (i := 3) rfl)) (by decide) (by decide)) (g := (mkF m 142 #[.val (.long p1), .second, .val (.int p2), .val (.int p3), .val (.int p4), .val (.ref a10), .val (.int v21), .val (.int v22), .val (.int v33)] [(.int v22), (.int v33), (.int (1 : Int32)), (.ref a10)])) rfl (by rw [hml]; rfl) (argsL := [(.ref a10), (.int (1 : Int32)), (.int v33), (.int v22)]) (rest := []) (lenOf pd_2 rfl) rfl (by show 2 * 0 + _ ≤ _; exact Nat.le_of_eq rfl) (hb hby at_142) (fun _ _ => ⟨rfl, e34, (by decide : 0 + 1 + 0 + 0 + 0 + 0 + 0 + 0 + 0 + 0 ≤ _), (by decide : 0 + 5 + 0 + 0 + 0 + 0 + 0 + 0 + 0 + 0 ≤ _)⟩)
    dsimp only [Pt.U, Pt.locs, Pt.cells, Pt.slots] at X35 l35 y35 z35 st35 hQ35
    subst l35 y35 z35
    obtain ⟨rfl, Nq35, e35⟩ := hQ35
    have N35 := Fr.app N34 Nq35
    refine Gl.st (g' := (mkF m 145 #[.val (.long p1), .second, .val (.int p2), .val (.int p3), .val (.int p4), .val (.ref a10), .val (.int v21), .val (.int v22), .val (.int v33)] [(.int (own_si b14 (1 : Int32) v33 v22))])) st35 ?_
    refine Gl.st (g' := (mkF m 150 #[.val (.long p1), .second, .val (.int p2), .val (.int p3), .val (.int p4), .val (.ref a10), .val (.int v21), .val (.int v22), .val (.int v33)] [])) (fun t k => XS.ifYes X35.here hx rfl (pc0 := 145) (pc' := 150) rfl (hb hby at_145) rfl (XT.i0_ne_t (own_siok (kn := 1) rfl hr hk7 (by omega) (by omega) (by omega) (fun q1 q2 => t3 1 q1 q2))) (by decide) (by decide) k) ?_
    refine Gl.st (g' := (mkF m 152 #[.val (.long p1), .second, .val (.int p2), .val (.int p3), .val (.int p4), .val (.ref a10), .val (.int v21), .val (.int v22), .val (.int v33)] [(.ref a10)])) (fun t k => XS.aload X35.here hx rfl (hb hby at_150) rfl rfl k) ?_
    refine Gl.st (g' := (mkF m 153 #[.val (.long p1), .second, .val (.int p2), .val (.int p3), .val (.int p4), .val (.ref a10), .val (.int v21), .val (.int v22), .val (.int v33)] [(.int (2 : Int32)), (.ref a10)])) (fun t k => XT.iconstV X35.here hx rfl (2 : Int32) (hb hby at_152) rfl k) ?_
    refine Gl.st (g' := (mkF m 155 #[.val (.long p1), .second, .val (.int p2), .val (.int p3), .val (.int p4), .val (.ref a10), .val (.int v21), .val (.int v22), .val (.int v33)] [(.int v33), (.int (2 : Int32)), (.ref a10)])) (fun t k => XS.iload X35.here hx rfl (hb hby at_153) rfl k) ?_
    refine Gl.st (g' := (mkF m 157 #[.val (.long p1), .second, .val (.int p2), .val (.int p3), .val (.int p4), .val (.ref a10), .val (.int v21), .val (.int v22), .val (.int v33)] [(.int v22), (.int v33), (.int (2 : Int32)), (.ref a10)])) (fun t k => XS.iload X35.here hx rfl (hb hby at_155) rfl k) ?_
    obtain ⟨_, _, ⟨T36, L36, k36, n36⟩, -, X36, ⟨Lc36, hQ36, l36, y36, z36⟩, st36⟩ := Jvm.LawKit.callS X35 hx (y := (⟨"com/example/archwright/archwright/xsd/ValueTypeTrimEndPinLaw", "spaceIfInside", "([BIII)Z"⟩ : MethodName)) hown (mvT hZ (hw _ (List.mem_of_getElem? (i := 13) rfl))) (mvT hZ (hw _ (List.mem_of_getElem? (i := 14) rfl))) (mvT hZ (hw _ (List.mem_of_getElem? (i := 3) rfl))) (mvT hZ (hw _ (List.mem_of_getElem? (i := 15) rfl))) (by decide) (backOf (W := 0) (rm3 l Z a0 hw a10 (2 : Int32) v33 v22 [b12, b14, b16, b18, b20] cA10 (5 : Int32) b16 h20 n0 Z20 V20 (by decide) rfl) hZ (hw _ (List.mem_of_getElem? (i := 15) rfl)) (hw _ (List.mem_of_getElem? (i := 3) rfl)) (by decide) (by decide)) (g := (mkF m 157 #[.val (.long p1), .second, .val (.int p2), .val (.int p3), .val (.int p4), .val (.ref a10), .val (.int v21), .val (.int v22), .val (.int v33)] [(.int v22), (.int v33), (.int (2 : Int32)), (.ref a10)])) rfl (by rw [hml]; rfl) (argsL := [(.ref a10), (.int (2 : Int32)), (.int v33), (.int v22)]) (rest := []) (lenOf pd_2 rfl) rfl (by show 2 * 0 + _ ≤ _; exact Nat.le_of_eq rfl) (hb hby at_157) (fun _ _ => ⟨rfl, e35, (by decide : 0 + 1 + 0 + 0 + 0 + 0 + 0 + 0 + 0 + 0 + 0 ≤ _), (by decide : 0 + 5 + 0 + 0 + 0 + 0 + 0 + 0 + 0 + 0 + 0 ≤ _)⟩)
    dsimp only [Pt.U, Pt.locs, Pt.cells, Pt.slots] at X36 l36 y36 z36 st36 hQ36
    subst l36 y36 z36
    obtain ⟨rfl, Nq36, e36⟩ := hQ36
    have N36 := Fr.app N35 Nq36
    refine Gl.st (g' := (mkF m 160 #[.val (.long p1), .second, .val (.int p2), .val (.int p3), .val (.int p4), .val (.ref a10), .val (.int v21), .val (.int v22), .val (.int v33)] [(.int (own_si b16 (2 : Int32) v33 v22))])) st36 ?_
    refine Gl.st (g' := (mkF m 165 #[.val (.long p1), .second, .val (.int p2), .val (.int p3), .val (.int p4), .val (.ref a10), .val (.int v21), .val (.int v22), .val (.int v33)] [])) (fun t k => XS.ifYes X36.here hx rfl (pc0 := 160) (pc' := 165) rfl (hb hby at_160) rfl (XT.i0_ne_t (own_siok (kn := 2) rfl hr hk7 (by omega) (by omega) (by omega) (fun q1 q2 => t3 2 q1 q2))) (by decide) (by decide) k) ?_
    refine Gl.st (g' := (mkF m 167 #[.val (.long p1), .second, .val (.int p2), .val (.int p3), .val (.int p4), .val (.ref a10), .val (.int v21), .val (.int v22), .val (.int v33)] [(.ref a10)])) (fun t k => XS.aload X36.here hx rfl (hb hby at_165) rfl rfl k) ?_
    refine Gl.st (g' := (mkF m 168 #[.val (.long p1), .second, .val (.int p2), .val (.int p3), .val (.int p4), .val (.ref a10), .val (.int v21), .val (.int v22), .val (.int v33)] [(.int (3 : Int32)), (.ref a10)])) (fun t k => XT.iconstV X36.here hx rfl (3 : Int32) (hb hby at_167) rfl k) ?_
    refine Gl.st (g' := (mkF m 170 #[.val (.long p1), .second, .val (.int p2), .val (.int p3), .val (.int p4), .val (.ref a10), .val (.int v21), .val (.int v22), .val (.int v33)] [(.int v33), (.int (3 : Int32)), (.ref a10)])) (fun t k => XS.iload X36.here hx rfl (hb hby at_168) rfl k) ?_
    refine Gl.st (g' := (mkF m 172 #[.val (.long p1), .second, .val (.int p2), .val (.int p3), .val (.int p4), .val (.ref a10), .val (.int v21), .val (.int v22), .val (.int v33)] [(.int v22), (.int v33), (.int (3 : Int32)), (.ref a10)])) (fun t k => XS.iload X36.here hx rfl (hb hby at_170) rfl k) ?_
    obtain ⟨_, _, ⟨T37, L37, k37, n37⟩, -, X37, ⟨Lc37, hQ37, l37, y37, z37⟩, st37⟩ := Jvm.LawKit.callS X36 hx (y := (⟨"com/example/archwright/archwright/xsd/ValueTypeTrimEndPinLaw", "spaceIfInside", "([BIII)Z"⟩ : MethodName)) hown (mvT hZ (hw _ (List.mem_of_getElem? (i := 13) rfl))) (mvT hZ (hw _ (List.mem_of_getElem? (i := 14) rfl))) (mvT hZ (hw _ (List.mem_of_getElem? (i := 3) rfl))) (mvT hZ (hw _ (List.mem_of_getElem? (i := 15) rfl))) (by decide) (backOf (W := 0) (rm3 l Z a0 hw a10 (3 : Int32) v33 v22 [b12, b14, b16, b18, b20] cA10 (5 : Int32) b18 h20 n0 Z20 V20 (by decide) rfl) hZ (hw _ (List.mem_of_getElem? (i := 15) rfl)) (hw _ (List.mem_of_getElem? (i := 3) rfl)) (by decide) (by decide)) (g := (mkF m 172 #[.val (.long p1), .second, .val (.int p2), .val (.int p3), .val (.int p4), .val (.ref a10), .val (.int v21), .val (.int v22), .val (.int v33)] [(.int v22), (.int v33), (.int (3 : Int32)), (.ref a10)])) rfl (by rw [hml]; rfl) (argsL := [(.ref a10), (.int (3 : Int32)), (.int v33), (.int v22)]) (rest := []) (lenOf pd_2 rfl) rfl (by show 2 * 0 + _ ≤ _; exact Nat.le_of_eq rfl) (hb hby at_172) (fun _ _ => ⟨rfl, e36, (by decide : 0 + 1 + 0 + 0 + 0 + 0 + 0 + 0 + 0 + 0 + 0 + 0 ≤ _), (by decide : 0 + 5 + 0 + 0 + 0 + 0 + 0 + 0 + 0 + 0 + 0 + 0 ≤ _)⟩)
    dsimp only [Pt.U, Pt.locs, Pt.cells, Pt.slots] at X37 l37 y37 z37 st37 hQ37
    subst l37 y37 z37
    obtain ⟨rfl, Nq37, e37⟩ := hQ37
    have N37 := Fr.app N36 Nq37
    refine Gl.st (g' := (mkF m 175 #[.val (.long p1), .second, .val (.int p2), .val (.int p3), .val (.int p4), .val (.ref a10), .val (.int v21), .val (.int v22), .val (.int v33)] [(.int (own_si b18 (3 : Int32) v33 v22))])) st37 ?_
    refine Gl.st (g' := (mkF m 180 #[.val (.long p1), .second, .val (.int p2), .val (.int p3), .val (.int p4), .val (.ref a10), .val (.int v21), .val (.int v22), .val (.int v33)] [])) (fun t k => XS.ifYes X37.here hx rfl (pc0 := 175) (pc' := 180) rfl (hb hby at_175) rfl (XT.i0_ne_t (own_siok (kn := 3) rfl hr hk7 (by omega) (by omega) (by omega) (fun q1 q2 => t3 3 q1 q2))) (by decide) (by decide) k) ?_
    refine Gl.st (g' := (mkF m 182 #[.val (.long p1), .second, .val (.int p2), .val (.int p3), .val (.int p4), .val (.ref a10), .val (.int v21), .val (.int v22), .val (.int v33)] [(.ref a10)])) (fun t k => XS.aload X37.here hx rfl (hb hby at_180) rfl rfl k) ?_
    refine Gl.st (g' := (mkF m 183 #[.val (.long p1), .second, .val (.int p2), .val (.int p3), .val (.int p4), .val (.ref a10), .val (.int v21), .val (.int v22), .val (.int v33)] [(.int (4 : Int32)), (.ref a10)])) (fun t k => XT.iconstV X37.here hx rfl (4 : Int32) (hb hby at_182) rfl k) ?_
    refine Gl.st (g' := (mkF m 185 #[.val (.long p1), .second, .val (.int p2), .val (.int p3), .val (.int p4), .val (.ref a10), .val (.int v21), .val (.int v22), .val (.int v33)] [(.int v33), (.int (4 : Int32)), (.ref a10)])) (fun t k => XS.iload X37.here hx rfl (hb hby at_183) rfl k) ?_
    refine Gl.st (g' := (mkF m 187 #[.val (.long p1), .second, .val (.int p2), .val (.int p3), .val (.int p4), .val (.ref a10), .val (.int v21), .val (.int v22), .val (.int v33)] [(.int v22), (.int v33), (.int (4 : Int32)), (.ref a10)])) (fun t k => XS.iload X37.here hx rfl (hb hby at_185) rfl k) ?_
    obtain ⟨_, _, ⟨T38, L38, k38, n38⟩, -, X38, ⟨Lc38, hQ38, l38, y38, z38⟩, st38⟩ := Jvm.LawKit.callS X37 hx (y := (⟨"com/example/archwright/archwright/xsd/ValueTypeTrimEndPinLaw", "spaceIfInside", "([BIII)Z"⟩ : MethodName)) hown (mvT hZ (hw _ (List.mem_of_getElem? (i := 13) rfl))) (mvT hZ (hw _ (List.mem_of_getElem? (i := 14) rfl))) (mvT hZ (hw _ (List.mem_of_getElem? (i := 3) rfl))) (mvT hZ (hw _ (List.mem_of_getElem? (i := 15) rfl))) (by decide) (backOf (W := 0) (rm3 l Z a0 hw a10 (4 : Int32) v33 v22 [b12, b14, b16, b18, b20] cA10 (5 : Int32) b20 h20 n0 Z20 V20 (by decide) rfl) hZ (hw _ (List.mem_of_getElem? (i := 15) rfl)) (hw _ (List.mem_of_getElem? (i := 3) rfl)) (by decide) (by decide)) (g := (mkF m 187 #[.val (.long p1), .second, .val (.int p2), .val (.int p3), .val (.int p4), .val (.ref a10), .val (.int v21), .val (.int v22), .val (.int v33)] [(.int v22), (.int v33), (.int (4 : Int32)), (.ref a10)])) rfl (by rw [hml]; rfl) (argsL := [(.ref a10), (.int (4 : Int32)), (.int v33), (.int v22)]) (rest := []) (lenOf pd_2 rfl) rfl (by show 2 * 0 + _ ≤ _; exact Nat.le_of_eq rfl) (hb hby at_187) (fun _ _ => ⟨rfl, e37, (by decide : 0 + 1 + 0 + 0 + 0 + 0 + 0 + 0 + 0 + 0 + 0 + 0 + 0 ≤ _), (by decide : 0 + 5 + 0 + 0 + 0 + 0 + 0 + 0 + 0 + 0 + 0 + 0 + 0 ≤ _)⟩)
    dsimp only [Pt.U, Pt.locs, Pt.cells, Pt.slots] at X38 l38 y38 z38 st38 hQ38
    subst l38 y38 z38
    obtain ⟨rfl, Nq38, e38⟩ := hQ38
    have N38 := Fr.app N37 Nq38
    refine Gl.st (g' := (mkF m 190 #[.val (.long p1), .second, .val (.int p2), .val (.int p3), .val (.int p4), .val (.ref a10), .val (.int v21), .val (.int v22), .val (.int v33)] [(.int (own_si b20 (4 : Int32) v33 v22))])) st38 ?_
    refine Gl.st (g' := (mkF m 195 #[.val (.long p1), .second, .val (.int p2), .val (.int p3), .val (.int p4), .val (.ref a10), .val (.int v21), .val (.int v22), .val (.int v33)] [])) (fun t k => XS.ifYes X38.here hx rfl (pc0 := 190) (pc' := 195) rfl (hb hby at_190) rfl (XT.i0_ne_t (own_siok (kn := 4) rfl hr hk7 (by omega) (by omega) (by omega) (fun q1 q2 => t3 4 q1 q2))) (by decide) (by decide) k) ?_
    refine Gl.st (g' := (mkF m 197 #[.val (.long p1), .second, .val (.int p2), .val (.int p3), .val (.int p4), .val (.ref a10), .val (.int v21), .val (.int v22), .val (.int v33)] [(.int v33)])) (fun t k => XS.iload X38.here hx rfl (hb hby at_195) rfl k) ?_
    refine Gl.st (g' := (mkF m 199 #[.val (.long p1), .second, .val (.int p2), .val (.int p3), .val (.int p4), .val (.ref a10), .val (.int v21), .val (.int v22), .val (.int v33)] [(.int v21), (.int v33)])) (fun t k => XS.iload X38.here hx rfl (hb hby at_197) rfl k) ?_
    by_cases c39 : v21 < v33
    · skip
      refine Gl.st (g' := (mkF m 202 #[.val (.long p1), .second, .val (.int p2), .val (.int p3), .val (.int p4), .val (.ref a10), .val (.int v21), .val (.int v22), .val (.int v33)] [])) (fun t k => XS.icmpNo X38.here hx rfl (hb hby at_199) rfl (XT.ii_le_f c39) k) ?_
      refine Gl.st (g' := (mkF m 204 #[.val (.long p1), .second, .val (.int p2), .val (.int p3), .val (.int p4), .val (.ref a10), .val (.int v21), .val (.int v22), .val (.int v33)] [(.ref a10)])) (fun t k => XS.aload X38.here hx rfl (hb hby at_202) rfl rfl k) ?_
      refine Gl.st (g' := (mkF m 206 #[.val (.long p1), .second, .val (.int p2), .val (.int p3), .val (.int p4), .val (.ref a10), .val (.int v21), .val (.int v22), .val (.int v33)] [(.int v33), (.ref a10)])) (fun t k => XS.iload X38.here hx rfl (hb hby at_204) rfl k) ?_
      refine Gl.st (g' := (mkF m 207 #[.val (.long p1), .second, .val (.int p2), .val (.int p3), .val (.int p4), .val (.ref a10), .val (.int v21), .val (.int v22), .val (.int v33)] [(.int (1 : Int32)), (.int v33), (.ref a10)])) (fun t k => XT.iconstV X38.here hx rfl (1 : Int32) (hb hby at_206) rfl k) ?_
      refine Gl.st (g' := (mkF m 208 #[.val (.long p1), .second, .val (.int p2), .val (.int p3), .val (.int p4), .val (.ref a10), .val (.int v21), .val (.int v22), .val (.int v33)] [(.int (v33 - (1 : Int32))), (.ref a10)])) (fun t k => XS.isub X38.here hx rfl (hb hby at_207) rfl k) ?_
      have hlt : k6 < rn := own_li hk6 hr c39 (by omega) (by omega)
      obtain ⟨rk, hrk⟩ : ∃ z, rn = z + 1 := ⟨rn - 1, by omega⟩
      have hrd : v33 - (1 : Int32) = Int32.ofNat rk := by rw [hr, hrk]; exact own_dec rk
      refine Gl.st (g' := (mkF m 209 #[.val (.long p1), .second, .val (.int p2), .val (.int p3), .val (.int p4), .val (.ref a10), .val (.int v21), .val (.int v22), .val (.int v33)] [(.int (List.getD [b12, b14, b16, b18, b20] rk 0))])) (own_ldB X38 hx hZ e38 V20 (j := (v33 - (1 : Int32))) (v := (.int (List.getD [b12, b14, b16, b18, b20] rk 0))) ⟨own_ge0 hrd (by omega), own_il hrd (n := 5) rfl (by omega) (by decide)⟩ (own_get [b12, b14, b16, b18, b20] hrd (by omega)) (g := (mkF m 208 #[.val (.long p1), .second, .val (.int p2), .val (.int p3), .val (.int p4), .val (.ref a10), .val (.int v21), .val (.int v22), .val (.int v33)] [(.int (v33 - (1 : Int32))), (.ref a10)])) rfl rfl (hb hby at_208)) ?_
      refine Gl.st (g' := (mkF m 211 #[.val (.long p1), .second, .val (.int p2), .val (.int p3), .val (.int p4), .val (.ref a10), .val (.int v21), .val (.int v22), .val (.int v33)] [(.int (32 : Int32)), (.int (List.getD [b12, b14, b16, b18, b20] rk 0))])) (fun t k => XT.bipushV X38.here hx rfl (32 : Int32) (hb hby at_209) rfl k) ?_
      refine Gl.st (g' := (mkF m 216 #[.val (.long p1), .second, .val (.int p2), .val (.int p3), .val (.int p4), .val (.ref a10), .val (.int v21), .val (.int v22), .val (.int v33)] [])) (fun t k => XS.icmpYes X38.here hx rfl (pc0 := 211) (pc' := 216) rfl (hb hby at_211) rfl (XT.ii_ne_t (by have q := t4 hlt; rw [hrk, Nat.add_sub_cancel] at q; exact q)) (by decide) (by decide) k) ?_
      refine Gl.st (g' := (mkF m 217 #[.val (.long p1), .second, .val (.int p2), .val (.int p3), .val (.int p4), .val (.ref a10), .val (.int v21), .val (.int v22), .val (.int v33)] [(.int (1 : Int32))])) (fun t k => XT.iconstV X38.here hx rfl (1 : Int32) (hb hby at_216) rfl k) ?_
      refine Gl.retZ X38 hx hlk .boolean (by simp) Bd.returns (hb hby at_217) e38 (by decide) (by decide) ?_
      rw [Q0, own_z1]
      exact ⟨rfl, N38⟩
    · skip
      refine Gl.st (g' := (mkF m 216 #[.val (.long p1), .second, .val (.int p2), .val (.int p3), .val (.int p4), .val (.ref a10), .val (.int v21), .val (.int v22), .val (.int v33)] [])) (fun t k => XS.icmpYes X38.here hx rfl (pc0 := 199) (pc' := 216) rfl (hb hby at_199) rfl (XT.ii_le_t c39) (by decide) (by decide) k) ?_
      refine Gl.st (g' := (mkF m 217 #[.val (.long p1), .second, .val (.int p2), .val (.int p3), .val (.int p4), .val (.ref a10), .val (.int v21), .val (.int v22), .val (.int v33)] [(.int (1 : Int32))])) (fun t k => XT.iconstV X38.here hx rfl (1 : Int32) (hb hby at_216) rfl k) ?_
      refine Gl.retZ X38 hx hlk .boolean (by simp) Bd.returns (hb hby at_217) e38 (by decide) (by decide) ?_
      rw [Q0, own_z1]
      exact ⟨rfl, N38⟩
set_option maxRecDepth 65536 in
set_option maxHeartbeats 40000000 in
theorem comes_1 {Post : Tables → Env → Array Value → State → Outcome → State → Prop} (hpost : ∀ tb e args s v u, (limb_1_1.after args s (.returned v) u = true ∧ limb_1_2.after args s (.returned v) u = true ∧ True) → FrameEnd s (.returned v) u (Jvm.fieldLocs frame_1_writes args s ++ Jvm.arrayLocs frame_1_arrays args s ++ Jvm.staticLocs frame_1_statics s) 16 128 → Post tb e args s (.returned v) u) :
    ArmFor flags0 classFile x code maxLocals ret World_1 tables_1 room_1 Calls_1 rest_1 Pre_1 Post := by
  intro l hfl _ _ p e ha hc hk s m args below hf hA hF happ hP
  obtain ⟨hcalls, hrest, hpre⟩ := hP
  obtain ⟨-, -, -, hnamed, -, -, -, hat⟩ := (Spec.applies_iff hf).mp happ
  obtain ⟨hg, hn⟩ := and_e (Cond.before_iff.mp (show (Jvm.Cond.and given_1 narrow_1).before args s = true from hpre))
  obtain ⟨hcount, hk1⟩ := and_e hg
  obtain ⟨hi1, hk2⟩ := and_e hk1
  obtain ⟨hi2, hk3⟩ := and_e hk2
  obtain ⟨hi3, hk4⟩ := and_e hk3
  obtain ⟨w0, w1, w2, w3, rfl⟩ : ∃ w0 w1 w2 w3 : Value, args = #[w0, w1, w2, w3] := by
    have hs : args.size = 4 := by simpa [Cond.value, given_1] using hcount
    obtain ⟨L⟩ := args
    match L, hs with
    | [w0, w1, w2, w3], _ => exact ⟨w0, w1, w2, w3, rfl⟩
  have hw := fun d (hd : d ∈ tables_1) => atoms_spec (ws := Jvm.Cond.code x code maxLocals ret :: tables_1) hat d (List.mem_cons_of_mem _ hd)
  obtain ⟨i0, q0⟩ := isL_v hi1
  obtain rfl : w0 = (.long i0) := Option.some.inj q0
  obtain ⟨i1, q1⟩ := is_v hi2
  obtain rfl : w1 = (.int i1) := Option.some.inj q1
  obtain ⟨i2, q2⟩ := is_v hi3
  obtain rfl : w2 = (.int i2) := Option.some.inj q2
  obtain ⟨i3, q3⟩ := is_v hk4
  obtain rfl : w3 = (.int i3) := Option.some.inj q3
  obtain ⟨n, o, h1, h2, h3, _, L, rfl, ⟨rfl, N⟩, hq⟩ := rm0 l s _ hw tables_1 i0 i1 i2 i3 s.heap s.heap.size (Nat.le_refl _)  p e ha hc hk s m _ below hf ((Spec.applies_iff_loose hf).mp happ).1 ⟨rfl, State.Warmed39.refl s, rfl⟩ trivial
  refine ⟨n, _, h1, h2, h3, hpost _ _ _ _ _ _ ⟨Cond.after_iff.mpr rfl, Cond.after_iff.mpr (eq_i res_at (Term.int_eval (1)) rfl), trivial⟩ ⟨hq.1, hq.2.1, (hq.2.2.sift fun y hy => Or.inr (N y hy)).mono (by decide) (by decide)⟩⟩
theorem main_1_1 : Claimed_1_1 := comes_1 fun _ _ _ _ _ _ h hF => ⟨h.1, hF⟩
theorem main_1_2 : Claimed_1_2 := comes_1 fun _ _ _ _ _ _ h hF => ⟨h.2.1, hF⟩
end Jvm.Pilot.@@N@@
namespace Jvm.Pilot.@@N@@
open Jvm Jvm.ClassFile Sem Op Lib Jvm.Free Jvm.Stand Jvm.Pilot.@@N@@.Jvm.D
/-! MADE BY PROGRAM (witnessworld.py) out of the Statement's table words and the real class files: 9 classes; the members and pool entries that the words name. The judged class is class 1, her method 3. -/
namespace start1
open Jvm.ClassFile
def u (s : String) : CpInfo := .utf8 (stringToUtf16 s)
/-- a pool by its gaps: so many unusable entries, then the entry; so many at the end -/
def gap : Nat → List CpInfo → List CpInfo
  | 0, r => r
  | n + 1, r => .unusable :: gap n r
def poolList (es : List (Nat × CpInfo)) (last : Nat) : List CpInfo := es.foldr (fun e r => gap e.1 (e.2 :: r)) (gap last [])
def pool (es : List (Nat × CpInfo)) (last : Nat) : Array CpInfo := ⟨poolList es last⟩
def fileOf (pool : Array CpInfo) (this : Nat) (attrs : Array Attribute := #[]) (ms : Array MethodInfo := #[]) (fl : Nat := 33) (sup : Nat := 0) (ifs : Array Nat := #[]) (fds : Array FieldInfo := #[]) : ClassFile where
  minorVersion := 0
  majorVersion := 65
  constantPool := pool
  accessFlags := fl
  thisClass := this
  superClass := sup
  interfaces := ifs
  fields := fds
  methods := ms
  attributes := attrs
def plain (name : String) (sup : Option ClassId) : Class where
  name := name
  kind := .ordinary
  loader := none
  accessFlags := 33
  super := sup
  interfaces := #[]
  cf := none
  fields := #[]
  methods := #[]
  instanceTypes := #[]
  staticTypes := #[]
  resolved := #[]
  callSites := []
  init := .initialized
  statics := none
  mirror := none

def pool0 : Array CpInfo := pool [(5, u "<init>"), (0, u "()V"), (1, .class_ 10), (1, u "java/lang/Object")] 113

def k0m0 : Method := { name := "<init>", desc := "()V", sig := { parameters := [], returnType := none }, accessFlags := 1, code := none }
/-- java/lang/Object -/
def k0 : Class := { plain "java/lang/Object" none with
  accessFlags := 33
  interfaces := #[]
  cf := some (fileOf pool0 8 #[] #[{ accessFlags := 1, nameIndex := 5, descriptorIndex := 6, attributes := #[] }] 33 0 #[] #[])
  fields := #[]
  methods := #[k0m0]
  instanceTypes := #[]
  staticTypes := #[]
  resolved := Array.replicate 124 none
  statics := none }

def pool1 : Array CpInfo := pool [(2, .class_ 4), (1, u "java/lang/Object"), (0, u "<init>"), (0, u "()V"), (0, .methodref 8 9), (0, .class_ 10), (0, .nameAndType 11 12), (0, u "com/example/archwright/archwright/xsd/ValueTypeTrimEndPinLaw"), (0, u "pick"), (0, u "(JII)B"), (0, .integer 2147483647), (0, .methodref 15 16), (0, .class_ 17), (0, .nameAndType 18 19), (0, u "com/example/archwright/archwright/xsd/ValueType"), (0, u "trimEnd"), (0, u "([BII)I"), (0, .methodref 8 21), (0, .nameAndType 22 23), (0, u "spaceIfInside"), (0, u "([BIII)Z"), (3, u "law"), (0, u "(JIII)Z")] 4

def k1m0 : Method := { name := "<init>", desc := "()V", sig := { parameters := [], returnType := none }, accessFlags := 2, code := none }
def k1c1 : Code := { maxStack := 4, maxLocals := 4, code := method_2_code, exceptionTable := #[], attributes := #[] }
def k1m1 : Method := { name := "pick", desc := "(JII)B", sig := { parameters := [.long, .int, .int], returnType := some .byte }, accessFlags := 10, code := some k1c1 }
def k1c2 : Code := { maxStack := 2, maxLocals := 4, code := method_3_code, exceptionTable := #[], attributes := #[] }
def k1m2 : Method := { name := "spaceIfInside", desc := "([BIII)Z", sig := { parameters := [(.array .byte), .int, .int, .int], returnType := some .boolean }, accessFlags := 10, code := some k1c2 }
def k1c3 : Code := { maxStack := 6, maxLocals := 9, code := code, exceptionTable := #[], attributes := #[] }
def k1m3 : Method := { name := "law", desc := "(JIII)Z", sig := { parameters := [.long, .int, .int, .int], returnType := some .boolean }, accessFlags := 9, code := some k1c3 }
/-- com/example/archwright/archwright/xsd/ValueTypeTrimEndPinLaw -/
def k1 : Class := { plain "com/example/archwright/archwright/xsd/ValueTypeTrimEndPinLaw" (some 0) with
  accessFlags := 49
  interfaces := #[]
  cf := some (fileOf pool1 8 #[] #[{ accessFlags := 2, nameIndex := 5, descriptorIndex := 6, attributes := #[] }, { accessFlags := 10, nameIndex := 11, descriptorIndex := 12, attributes := #[] }, { accessFlags := 10, nameIndex := 22, descriptorIndex := 23, attributes := #[] }, { accessFlags := 9, nameIndex := 27, descriptorIndex := 28, attributes := #[] }] 49 2 #[] #[])
  fields := #[]
  methods := #[k1m0, k1m1, k1m2, k1m3]
  instanceTypes := #[]
  staticTypes := #[]
  resolved := Array.replicate 33 none
  statics := none }

def pool2 : Array CpInfo := pool [(2, .class_ 4), (1, u "java/lang/Object"), (0, u "<init>"), (0, u "()V"), (41, .class_ 50), (1, u "com/example/archwright/archwright/xsd/ValueType"), (0, u "ANY"), (0, u "Lcom/example/archwright/archwright/xsd/ValueType;"), (0, .class_ 54), (0, u "com/example/archwright/archwright/xsd/ValueType$Names"), (1, .class_ 58), (1, u "com/example/archwright/archwright/xsd/ValueType$Names$Role"), (0, u "NONE"), (10, u "URI"), (0, .class_ 72), (0, u "com/example/archwright/archwright/xsd/ValueType$Calendar"), (19, .class_ 93), (0, u "com/example/archwright/archwright/xsd/ValueType$Matching"), (9, .class_ 104), (0, u "com/example/archwright/archwright/xsd/ValueType$OneOf"), (28, .class_ 134), (0, u "com/example/archwright/archwright/xsd/ValueType$Union"), (3, .methodref 48 139), (0, .nameAndType 140 141), (0, u "isSpace"), (0, u "(B)Z"), (3, u "([BII)I"), (2, u "trimEnd"), (16, .class_ 166), (0, u "com/example/archwright/archwright/xsd/ValueType$Any"), (1, .class_ 169), (0, u "com/example/archwright/archwright/xsd/ValueType$None"), (1, .class_ 172), (0, u "com/example/archwright/archwright/xsd/ValueType$UriList"), (3, u "SCHEMA_LOCATION"), (0, .class_ 178), (0, u "com/example/archwright/archwright/xsd/ValueType$Uri")] 58

def k2m0 : Method := { name := "<init>", desc := "()V", sig := { parameters := [], returnType := none }, accessFlags := 0, code := none }
def k2c1 : Code := { maxStack := 2, maxLocals := 1, code := prog_83_method_7_code, exceptionTable := #[], attributes := #[] }
def k2m1 : Method := { name := "isSpace", desc := "(B)Z", sig := { parameters := [.byte], returnType := some .boolean }, accessFlags := 8, code := some k2c1 }
def k2c2 : Code := { maxStack := 3, maxLocals := 3, code := prog_83_method_9_code, exceptionTable := #[], attributes := #[] }
def k2m2 : Method := { name := "trimEnd", desc := "([BII)I", sig := { parameters := [(.array .byte), .int, .int], returnType := some .int }, accessFlags := 8, code := some k2c2 }
/-- com/example/archwright/archwright/xsd/ValueType -/
def k2 : Class := { plain "com/example/archwright/archwright/xsd/ValueType" (some 0) with
  accessFlags := 1056
  interfaces := #[]
  cf := some (fileOf pool2 48 #[.nestMembers #[133, 103, 92, 71, 171, 177, 53, 56, 168, 165]] #[{ accessFlags := 0, nameIndex := 5, descriptorIndex := 6, attributes := #[] }, { accessFlags := 8, nameIndex := 140, descriptorIndex := 141, attributes := #[] }, { accessFlags := 8, nameIndex := 148, descriptorIndex := 145, attributes := #[] }] 1056 2 #[] #[{ accessFlags := 24, nameIndex := 51, descriptorIndex := 52, attributes := #[] }, { accessFlags := 24, nameIndex := 59, descriptorIndex := 52, attributes := #[] }, { accessFlags := 24, nameIndex := 176, descriptorIndex := 52, attributes := #[] }, { accessFlags := 24, nameIndex := 70, descriptorIndex := 52, attributes := #[] }])
  fields := #[{ name := "ANY", type := (.object "com/example/archwright/archwright/xsd/ValueType"), accessFlags := 24, slot := 0, constantValue := 0 }, { name := "NONE", type := (.object "com/example/archwright/archwright/xsd/ValueType"), accessFlags := 24, slot := 1, constantValue := 0 }, { name := "SCHEMA_LOCATION", type := (.object "com/example/archwright/archwright/xsd/ValueType"), accessFlags := 24, slot := 2, constantValue := 0 }, { name := "URI", type := (.object "com/example/archwright/archwright/xsd/ValueType"), accessFlags := 24, slot := 3, constantValue := 0 }]
  methods := #[k2m0, k2m1, k2m2]
  instanceTypes := #[]
  staticTypes := #[(.object "com/example/archwright/archwright/xsd/ValueType"), (.object "com/example/archwright/archwright/xsd/ValueType"), (.object "com/example/archwright/archwright/xsd/ValueType"), (.object "com/example/archwright/archwright/xsd/ValueType")]
  resolved := Array.replicate 237 none
  statics := none }

def pool3 : Array CpInfo := pool [(1, u "java/lang/Cloneable"), (0, .class_ 1), (0, u "java/lang/Object"), (0, .class_ 3)] 3

/-- java/lang/Cloneable -/
def k3 : Class := { plain "java/lang/Cloneable" (some 0) with
  accessFlags := 1537
  interfaces := #[]
  cf := some (fileOf pool3 2 #[] #[] 1537 4 #[] #[])
  fields := #[]
  methods := #[]
  instanceTypes := #[]
  staticTypes := #[]
  resolved := Array.replicate 8 none
  statics := none }

def pool4 : Array CpInfo := pool [(1, u "java/io/Serializable"), (0, .class_ 1), (0, u "java/lang/Object"), (0, .class_ 3)] 3

/-- java/io/Serializable -/
def k4 : Class := { plain "java/io/Serializable" (some 0) with
  accessFlags := 1537
  interfaces := #[]
  cf := some (fileOf pool4 2 #[] #[] 1537 4 #[] #[])
  fields := #[]
  methods := #[]
  instanceTypes := #[]
  staticTypes := #[]
  resolved := Array.replicate 8 none
  statics := none }

/-- the primitive byte -/
def k5 : Class := { plain "byte" none with kind := .primitive 'B', accessFlags := 0x411 }
/-- [B -/
def k6 : Class := { plain "[B" (some 0) with kind := .array 5 .byte, interfaces := #[3, 4], accessFlags := 1041 }

/-- the primitive int -/
def k7 : Class := { plain "int" none with kind := .primitive 'I', accessFlags := 0x411 }
/-- [I -/
def k8 : Class := { plain "[I" (some 0) with kind := .array 7 .int, interfaces := #[3, 4], accessFlags := 1041 }

def heap : Heap := #[]
def classes : Array Class := #[k0, k1, k2, k3, k4, k5, k6, k7, k8]
def interned : List (Array UInt16 × Addr) := []
def slotsUsed : Nat := 0
def theMethod : MethodId := ⟨1, 3⟩
def args0 : Array Value := #[.long 5, .int 5, .int 5, .int 5]
def aboutOver (below : List Frame) : State where
  vm := { classes := classes, interned := interned.toArray }
  heap := heap
  slotsUsed := slotsUsed
  threads := #[{ frames := .invoking theMethod args0 :: below }]
def below0 : List Frame := [.native { method := ⟨0, 0⟩, args := #[] }]
def about1 : State := aboutOver below0
def p0 : Program := .bare "" "" ""
def e0 : Env := launch0.env 0 0 0
theorem w_frames : about1.frames = Frame.invoking theMethod args0 :: below0 := rfl
set_option maxRecDepth 65536 in
theorem w_args : argsFit about1.vm theMethod args0 = true := by decide +kernel
set_option maxRecDepth 65536 in
theorem w_heap : heapFits about1 = true := by decide +kernel
set_option maxRecDepth 65536 in
theorem w_runnable : about1.curStatus? = some .runnable := by decide +kernel
set_option maxRecDepth 65536 in
theorem w_alone : about1.alone = true := by decide +kernel
set_option maxRecDepth 65536 in
theorem w_named : about1.methodNamed? x = some theMethod := by decide +kernel
set_option maxRecDepth 65536 in
theorem w_hears : about1.hears theMethod below0 = true := by decide +kernel
set_option maxRecDepth 65536 in
theorem w_ripe : about1.ripe theMethod args0 below0 = true := by decide +kernel
theorem w_running : about1.status = .running := rfl
set_option maxRecDepth 65536 in
theorem w_room : about1.hasRoom e0.platform room_1 = true :=
  launch0.hasRoom_least _ room_1 (by decide +kernel) (by decide +kernel) (by decide +kernel) (by decide +kernel) (by decide +kernel) (by decide +kernel)
theorem allAtoms_all (ts : List Jvm.Cond) (a : Array Jvm.Value) (st : Jvm.State) : (allAtoms ts).before a st = ts.all (fun c => c.before a st) := by
  induction ts with
  | nil => rfl
  | cons c t ih =>
    show (Jvm.Cond.and c (allAtoms t)).before a st = _
    rw [Jvm.Cond.before_and, ih, List.all_cons]
def words1 : List Jvm.Cond := Jvm.Cond.code x code maxLocals ret :: tables_1
/-- a 'code' word, met by the world's own term for the bytes: nothing is compared byte by byte -/
theorem code_word {y : MethodName} {bytes : ByteArray} {mx : Nat} {rt : Option FieldType} {a : Array Value} {s : State} {m : MethodId} {meth : Method} {c : Code} (h1 : s.methodNamed? y = some m) (h2 : s.vm.method? m = some meth) (h3 : meth.code = some c) (h4 : c.code = bytes)
    (h5 : (c.maxLocals == mx && c.exceptionTable.isEmpty && decide (c.maxStack ≤ mostOperands) && decide (meth.sig.returnType = rt) && !meth.locks && decide (parseMethodDescriptor y.desc = some meth.sig)) = true) : (Jvm.Cond.code y bytes mx rt).before a s = true := by
  simp only [Bool.and_eq_true, beq_iff_eq, Bool.not_eq_true', decide_eq_true_eq] at h5
  obtain ⟨⟨⟨⟨⟨g1, g2⟩, g3⟩, g4⟩, g5⟩, g6⟩ := h5
  simp [Cond.before, Cond.holds, Cond.value, h1, h2, h3, h4, g1, g2, g3, g4, g5, g6]
def isCode : Jvm.Cond → Bool
  | .code _ _ _ _ => true
  | _ => false
theorem all_split {L : List Jvm.Cond} {P : Jvm.Cond → Bool} (h1 : L.all (fun c => isCode c || P c) = true) (h2 : ∀ c ∈ L.filter isCode, P c = true) : L.all P = true := by
  refine List.all_eq_true.mpr fun c hc => ?_
  have h := List.all_eq_true.mp h1 c hc
  rcases Bool.eq_false_or_eq_true (isCode c) with hi | hi
  · exact h2 c (List.mem_filter.mpr ⟨hc, hi⟩)
  · simpa [hi] using h
set_option maxRecDepth 65536 in
theorem w_c0 : (Jvm.Cond.code x code maxLocals ret).before args0 about1 = true := code_word (m := ⟨1, 3⟩) (meth := k1m3) (c := k1c3) (by decide +kernel) rfl rfl rfl (by decide +kernel)
set_option maxRecDepth 65536 in
theorem w_c1 : (Jvm.Cond.code ({ cls := "com/example/archwright/archwright/xsd/ValueTypeTrimEndPinLaw", name := "pick", desc := "(JII)B" } : Jvm.MethodName) method_2_code (4 : Nat) (Option.some Jvm.ClassFile.FieldType.byte)).before args0 about1 = true := code_word (m := ⟨1, 1⟩) (meth := k1m1) (c := k1c1) (by decide +kernel) rfl rfl rfl (by decide +kernel)
set_option maxRecDepth 65536 in
theorem w_c2 : (Jvm.Cond.code ({ cls := "com/example/archwright/archwright/xsd/ValueType", name := "trimEnd", desc := "([BII)I" } : Jvm.MethodName) prog_83_method_9_code (3 : Nat) (Option.some Jvm.ClassFile.FieldType.int)).before args0 about1 = true := code_word (m := ⟨2, 2⟩) (meth := k2m2) (c := k2c2) (by decide +kernel) rfl rfl rfl (by decide +kernel)
set_option maxRecDepth 65536 in
theorem w_c3 : (Jvm.Cond.code ({ cls := "com/example/archwright/archwright/xsd/ValueType", name := "isSpace", desc := "(B)Z" } : Jvm.MethodName) prog_83_method_7_code (1 : Nat) (Option.some Jvm.ClassFile.FieldType.boolean)).before args0 about1 = true := code_word (m := ⟨2, 1⟩) (meth := k2m1) (c := k2c1) (by decide +kernel) rfl rfl rfl (by decide +kernel)
set_option maxRecDepth 65536 in
theorem w_c4 : (Jvm.Cond.code ({ cls := "com/example/archwright/archwright/xsd/ValueTypeTrimEndPinLaw", name := "spaceIfInside", desc := "([BIII)Z" } : Jvm.MethodName) method_3_code (4 : Nat) (Option.some Jvm.ClassFile.FieldType.boolean)).before args0 about1 = true := code_word (m := ⟨1, 2⟩) (meth := k1m2) (c := k1c2) (by decide +kernel) rfl rfl rfl (by decide +kernel)
def codes1 : List Jvm.Cond := [Jvm.Cond.code x code maxLocals ret, Jvm.Cond.code ({ cls := "com/example/archwright/archwright/xsd/ValueTypeTrimEndPinLaw", name := "pick", desc := "(JII)B" } : Jvm.MethodName) method_2_code (4 : Nat) (Option.some Jvm.ClassFile.FieldType.byte), Jvm.Cond.code ({ cls := "com/example/archwright/archwright/xsd/ValueType", name := "trimEnd", desc := "([BII)I" } : Jvm.MethodName) prog_83_method_9_code (3 : Nat) (Option.some Jvm.ClassFile.FieldType.int), Jvm.Cond.code ({ cls := "com/example/archwright/archwright/xsd/ValueType", name := "isSpace", desc := "(B)Z" } : Jvm.MethodName) prog_83_method_7_code (1 : Nat) (Option.some Jvm.ClassFile.FieldType.boolean), Jvm.Cond.code ({ cls := "com/example/archwright/archwright/xsd/ValueTypeTrimEndPinLaw", name := "spaceIfInside", desc := "([BIII)Z" } : Jvm.MethodName) method_3_code (4 : Nat) (Option.some Jvm.ClassFile.FieldType.boolean)]
set_option maxRecDepth 65536 in
theorem codes_eq : words1.filter isCode = codes1 := rfl
theorem w_codes : ∀ c ∈ words1.filter isCode, c.before args0 about1 = true := by
  rw [codes_eq]
  intro c hc
  simp only [codes1, List.mem_cons, List.not_mem_nil, or_false] at hc
  rcases hc with rfl | rfl | rfl | rfl | rfl
  · exact w_c0
  · exact w_c1
  · exact w_c2
  · exact w_c3
  · exact w_c4
set_option maxRecDepth 65536 in
theorem w_t1 : words1.all (fun c => isCode c || c.before args0 about1) = true := by decide +kernel
theorem w_tables : (allAtoms (Jvm.Cond.code x code maxLocals ret :: tables_1)).before args0 about1 = true := by
  rw [allAtoms_all]
  show words1.all (fun c => c.before args0 about1) = true
  refine all_split ?_ w_codes
  rw [w_t1]
set_option maxRecDepth 65536 in
theorem w_case : (Jvm.Cond.and given_1 narrow_1).before args0 about1 = true := by decide +kernel
theorem w_applies : (headSpec (Jvm.Cond.code x code maxLocals ret :: tables_1) room_1).applies x e0.platform about1 = true :=
  (Spec.applies_iff w_frames).mpr ⟨w_running, w_runnable, w_alone, w_named, w_hears, w_ripe, w_room, w_tables⟩
theorem atStart : AtStart classFile x code maxLocals ret World_1 tables_1 room_1 Calls_1 rest_1 Pre_1 launch0 p0 e0 about1 theMethod args0 below0 :=
  ⟨lists_1, trivial, launch0.admits_env _ _ _, launch0.least_env, fairChoices_fair.cas, fairChoices_fair.clock, w_frames, w_args, w_heap, w_applies, trivial, trivial, w_case⟩
end start1
theorem witness_1 : WitnessClaimed_1 := ⟨start1.p0, start1.e0, start1.about1, start1.theMethod, start1.args0, start1.below0, start1.atStart⟩
end Jvm.Pilot.@@N@@
