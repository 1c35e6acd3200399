import JvmDerived
import JvmDerived.Pilot.@@N@@Statement
import JvmDerived.Pilot.@@N@@Code
set_option linter.unusedVariables false
set_option linter.unusedSimpArgs false
namespace Jvm.Pilot.@@N@@
open Jvm Jvm.ClassFile Sem Op Lib Jvm.Free Jvm.Stand Jvm.LawKit Jvm.RoadKit Bundle Jvm.Pilot.@@N@@.Jvm.D
section OwnKit
variable {p : Program} {l : Launch} {e : Env} {R : Room} {s : State} {m : MethodId} {args : Array Value} {below : List Frame} {meth : Method} {c : Code} {T T' : State} {locs : List Loc} {cells slots : Nat} {h : Heap} {Q : Option Value → Heap → List Loc → Prop} {kc ks : Nat} {g g' : JFrame}
/-- from this state and frame the method comes to its end, and what it leaves is Q -/
def Gl (p : Program) (e : Env) (below : List Frame) (s : State) (Q : Option Value → Heap → List Loc → Prop) (kc ks : Nat) (T : State) (g : JFrame) : Prop :=
  ∃ s₂ o, Steps p.tables e below (T.setTop g) s₂ ∧ s₂.status = .running ∧ Ended s₂ below o ∧ ∃ v L, o = .returned v ∧ Q v s₂.heap L ∧ FrameEnd s o s₂ L kc ks
theorem Gl.st (h : ∀ t, Steps p.tables e below (T'.setTop g') t → Steps p.tables e below (T.setTop g) t) (k : Gl p e below s Q kc ks T' g') : Gl p e below s Q kc ks T g := by
  obtain ⟨s₂, o, h1, r⟩ := k
  exact ⟨s₂, o, h _ h1, r⟩
theorem Gl.ret (X : Stand p l e R s m args below meth c T locs cells slots) (hlk : meth.locks = false) (v : Option Value) (hv : meth.sig.returnType = none → v = none) (eT : T.heap = h) (hc : cells ≤ kc) (hs : slots ≤ ks)
    (hst : ∀ fs, (∀ (f : JFrame) (acts : List Action), f.method = m → f.locked = none → f.entered = [] → (doReturn e (T.setTop f) acts v).1 = T.setFrames fs) → Steps p.tables e below (T.setTop g) (T.setFrames fs))
    (hq : Q v h locs) : Gl p e below s Q kc ks T g := by
  obtain ⟨fs, hr, hrun, hended, hW, hsame⟩ := X.leave (v := v) hv hlk
  refine ⟨_, _, hst fs hr, hrun, hended, v, locs, rfl, ?_, ⟨_, rfl⟩, hW, hsame.mono hc hs⟩
  show Q v T.heap locs
  rw [eT]; exact hq
theorem Gl.retI (X : Stand p l e R s m args below meth c T locs cells slots) (hx : p.tables.exec = Jvm.exec) (hlk : meth.locks = false) {pc : Nat} {Ls : Array Slot} {z : Int32} {rest : List Value} (hret : meth.sig.returnType = some .int) (hd : decode c.code pc = .ok (.ireturn, 1)) (eT : T.heap = h) (hc : cells ≤ kc) (hs : slots ≤ ks)
    (hq : Q (some (.int z)) h locs) : Gl p e below s Q kc ks T (mkF m pc Ls (.int z :: rest)) := by
  refine Gl.ret X hlk (some (.int z)) (fun q => by rw [hret] at q; cases q) eT hc hs (fun fs hl => ?_) hq
  exact retOut X hx hret (t := .int) rfl (Or.inl ⟨rfl, Or.inl rfl, _, rfl⟩) hd hl
theorem Gl.retZ (X : Stand p l e R s m args below meth c T locs cells slots) (hx : p.tables.exec = Jvm.exec) (hlk : meth.locks = false) {pc : Nat} {Ls : Array Slot} {z : Int32} {rest : List Value} (t : FieldType) (ht : t = .boolean ∨ t = .byte ∨ t = .char ∨ t = .short) (hret : meth.sig.returnType = some t) (hd : decode c.code pc = .ok (.ireturn, 1)) (eT : T.heap = h) (hc : cells ≤ kc) (hs : slots ≤ ks)
    (hq : Q (some (.int (nar t z))) h locs) : Gl p e below s Q kc ks T (mkF m pc Ls (.int z :: rest)) := by
  refine Gl.ret X hlk (some (.int (nar t z))) (fun q => by rw [hret] at q; cases q) eT hc hs (fun fs hl => ?_) hq
  exact retN X hx (t := t) hret ht hd hl
theorem Gl.retL (X : Stand p l e R s m args below meth c T locs cells slots) (hx : p.tables.exec = Jvm.exec) (hlk : meth.locks = false) {pc : Nat} {Ls : Array Slot} {z : Int64} (hret : meth.sig.returnType = some .long) (hd : decode c.code pc = .ok (.lreturn, 1)) (eT : T.heap = h) (hc : cells ≤ kc) (hs : slots ≤ ks)
    (hq : Q (some (.long z)) h locs) : Gl p e below s Q kc ks T (mkF m pc Ls [.long z]) := by
  refine Gl.ret X hlk (some (.long z)) (fun q => by rw [hret] at q; cases q) eT hc hs (fun fs hl => ?_) hq
  exact X.lreturnOut hx hret hd hl
theorem Gl.retV (X : Stand p l e R s m args below meth c T locs cells slots) (hx : p.tables.exec = Jvm.exec) (hlk : meth.locks = false) {pc : Nat} {Ls : Array Slot} (hret : meth.sig.returnType = none) (hd : decode c.code pc = .ok (.return_, 1)) (eT : T.heap = h) (hc : cells ≤ kc) (hs : slots ≤ ks)
    (hq : Q none h locs) : Gl p e below s Q kc ks T (mkF m pc Ls []) := by
  refine Gl.ret X hlk none (fun _ => rfl) eT hc hs (fun fs hl => ?_) hq
  exact X.returnOut hx hret hd hl
end OwnKit

section OwnArr
variable {p : Program} {l : Launch} {e : Env} {R : Room} {s : State} {m : MethodId} {args : Array Value} {below : List Frame} {meth : Method} {c : Code} {T : State} {locs : List Loc} {cells slots : Nat} {Z : State} {h : Heap} {a : Addr} {k : ClassId} {z j x : Int32} {vs : List Value} {dv v : Value} {g : JFrame} {rest : List Value}
theorem own_ldB (X : Stand p l e R s m args below meth c T locs cells slots) (hx : p.tables.exec = Jvm.exec) (hZ : Z.Warmed39 s.vm) (eT : T.heap = h) (F : Arv Z h a k .byte z vs dv) (hj : ¬ j < 0 ∧ j < z) (u : vs.getD j.toNatClampNeg dv = v) (hg : g.method = m) (hs : g.stack = .int j :: .ref a :: rest) (hd : decode c.code g.pc = .ok (.baload, 1)) :
    ∀ t, Steps p.tables e below (T.setTop { g with pc := g.pc + 1, stack := v :: rest }) t → Steps p.tables e below (T.setTop g) t := by
  obtain ⟨cl, A, q1, S, q3, H, G⟩ := F
  have hin := inb_of S hj
  intro t kk
  exact X.baloadBytes hx (by rw [eT]; exact A.1) (State.isArrayOf_alike hZ.alike A.2.1) A.2.2 hin (Has.at H hin u) hg hs hd t kk
theorem own_ldC (X : Stand p l e R s m args below meth c T locs cells slots) (hx : p.tables.exec = Jvm.exec) (hZ : Z.Warmed39 s.vm) (eT : T.heap = h) (F : Arv Z h a k .char z vs dv) (hj : ¬ j < 0 ∧ j < z) (u : vs.getD j.toNatClampNeg dv = v) (hg : g.method = m) (hs : g.stack = .int j :: .ref a :: rest) (hd : decode c.code g.pc = .ok (.caload, 1)) :
    ∀ t, Steps p.tables e below (T.setTop { g with pc := g.pc + 1, stack := v :: rest }) t → Steps p.tables e below (T.setTop g) t := by
  obtain ⟨cl, A, q1, S, q3, H, G⟩ := F
  have hin := inb_of S hj
  intro t kk
  exact X.caload hx (by rw [eT]; exact A.1) (State.isArrayOf_alike hZ.alike A.2.1) A.2.2 hin (Has.at H hin u) hg hs hd t kk
theorem own_len {ty : FieldType} (X : Stand p l e R s m args below meth c T locs cells slots) (hx : p.tables.exec = Jvm.exec) (hZ : Z.Warmed39 s.vm) (eT : T.heap = h) (F : Arv Z h a k ty z vs dv) (hg : g.method = m) (hs : g.stack = .ref a :: rest) (hd : decode c.code g.pc = .ok (.arraylength, 1)) :
    ∀ t, Steps p.tables e below (T.setTop { g with pc := g.pc + 1, stack := .int z :: rest }) t → Steps p.tables e below (T.setTop g) t := by
  obtain ⟨cl, A, q1, S, q3, H, G⟩ := F
  intro t kk
  exact X.arraylength hx (by rw [eT]; exact A.1) (State.isArrayOf_alike hZ.alike A.2.1) hg hs hd t (by rw [len_of S q3]; exact kk)
theorem own_stB (X : Stand p l e R s m args below meth c T locs cells slots) (hx : p.tables.exec = Jvm.exec) (hZ : Z.Warmed39 s.vm) (eT : T.heap = h) (F : Arv Z h a k .byte z vs dv) (hj : ¬ j < 0 ∧ j < z) (i : Nat) (hi : j.toNatClampNeg = i) (hl : i < vs.length) (hg : g.method = m) (hs : g.stack = .int x :: .int j :: .ref a :: rest) (hd : decode c.code g.pc = .ok (.bastore, 1)) :
    ∃ T' h' y, Stand p l e R s m args below meth c T' (locs ++ [⟨a, j.toNatClampNeg⟩]) cells slots ∧ T'.heap = h' ∧ Wr h h' a j.toNatClampNeg (.int y) ∧ y = nar .byte x ∧ Arv Z h' a k .byte z (vs.set i (.int y)) dv ∧
      ∀ t, Steps p.tables e below (T'.setTop { g with pc := g.pc + 1, stack := rest }) t → Steps p.tables e below (T.setTop g) t := by
  obtain ⟨cl, A, q1, S, q3, H, G⟩ := F
  obtain ⟨T', h', X', e', W', st'⟩ := stB X hx hZ eT A (inb_of S hj) hg hs hd
  exact ⟨T', h', _, X', e', W', rfl, Arv.set A q1 S q3 H G (fits_nar_byte _) W' i hi hl, st'⟩
theorem own_stC (X : Stand p l e R s m args below meth c T locs cells slots) (hx : p.tables.exec = Jvm.exec) (hZ : Z.Warmed39 s.vm) (eT : T.heap = h) (F : Arv Z h a k .char z vs dv) (hj : ¬ j < 0 ∧ j < z) (i : Nat) (hi : j.toNatClampNeg = i) (hl : i < vs.length) (hg : g.method = m) (hs : g.stack = .int x :: .int j :: .ref a :: rest) (hd : decode c.code g.pc = .ok (.castore, 1)) :
    ∃ T' h' y, Stand p l e R s m args below meth c T' (locs ++ [⟨a, j.toNatClampNeg⟩]) cells slots ∧ T'.heap = h' ∧ Wr h h' a j.toNatClampNeg (.int y) ∧ y = nar .char x ∧ Arv Z h' a k .char z (vs.set i (.int y)) dv ∧
      ∀ t, Steps p.tables e below (T'.setTop { g with pc := g.pc + 1, stack := rest }) t → Steps p.tables e below (T.setTop g) t := by
  obtain ⟨cl, A, q1, S, q3, H, G⟩ := F
  obtain ⟨T', h', X', e', W', st'⟩ := stC X hx hZ eT A (inb_of S hj) hg hs hd
  exact ⟨T', h', _, X', e', W', rfl, Arv.set A q1 S q3 H G (fits_nar_char _) W' i hi hl, st'⟩
theorem own_stI (X : Stand p l e R s m args below meth c T locs cells slots) (hx : p.tables.exec = Jvm.exec) (hZ : Z.Warmed39 s.vm) (eT : T.heap = h) (F : Arv Z h a k .int z vs dv) (hj : ¬ j < 0 ∧ j < z) (i : Nat) (hi : j.toNatClampNeg = i) (hl : i < vs.length) (hg : g.method = m) (hs : g.stack = .int x :: .int j :: .ref a :: rest) (hd : decode c.code g.pc = .ok (.iastore, 1)) :
    ∃ T' h', Stand p l e R s m args below meth c T' (locs ++ [⟨a, j.toNatClampNeg⟩]) cells slots ∧ T'.heap = h' ∧ Wr h h' a j.toNatClampNeg (.int x) ∧ Arv Z h' a k .int z (vs.set i (.int x)) dv ∧
      ∀ t, Steps p.tables e below (T'.setTop { g with pc := g.pc + 1, stack := rest }) t → Steps p.tables e below (T.setTop g) t := by
  obtain ⟨cl, A, q1, S, q3, H, G⟩ := F
  obtain ⟨T', h', X', e', W', st'⟩ := stI X hx hZ eT A (inb_of S hj) hg hs hd
  exact ⟨T', h', X', e', W', Arv.set A q1 S q3 H G rfl W' i hi hl, st'⟩
end OwnArr

theorem own_z0 : nar .boolean (0 : Int32) = 0 := by decide
theorem own_z1 : nar .boolean (1 : Int32) = 1 := by decide
theorem own_nn (x : Int32) : 0 ≤ (x &&& (2147483647 : Int32)).toInt := by
  rw [c_mask x 2147483647 31 (by decide) (by decide)]
  exact Int.emod_nonneg _ (by decide)
theorem own_lt {x y : Int32} (h : x.toInt < y.toInt) : x < y := Int32.lt_iff_toInt_lt.mpr h
theorem own_nlt {x y : Int32} (h : y.toInt ≤ x.toInt) : ¬ x < y := fun q => by
  have := Int32.lt_iff_toInt_lt.mp q; omega
theorem own_eq {x y : Int32} (h : x.toInt = y.toInt) : x = y := Int32.toInt_inj.mp h
theorem own_ltI {x y : Int32} (h : x < y) : x.toInt < y.toInt := Int32.lt_iff_toInt_lt.mp h
theorem own_nltI {x y : Int32} (h : ¬ x < y) : y.toInt ≤ x.toInt := by
  rcases Int.lt_or_le x.toInt y.toInt with q | q
  · exact absurd (own_lt q) h
  · exact q
theorem own_rem {x y : Int32} (hx : 0 ≤ x.toInt) (hy : 0 < y.toInt) : 0 ≤ (x % y).toInt ∧ (x % y).toInt < y.toInt := by
  have h := (c_irem x y y.toInt rfl).1 hx
  rw [h]; exact ⟨Int.emod_nonneg _ (by omega), Int.emod_lt_of_pos _ hy⟩
theorem own_add {x y : Int32} (h1 : -2147483648 ≤ x.toInt + y.toInt) (h2 : x.toInt + y.toInt < 2147483648) : (x + y).toInt = x.toInt + y.toInt := by
  have a := c_iadd x y; have b := (x + y).toInt_lt; have c := (x + y).le_toInt; omega
theorem own_sub {x y : Int32} (h1 : -2147483648 ≤ x.toInt - y.toInt) (h2 : x.toInt - y.toInt < 2147483648) : (x - y).toInt = x.toInt - y.toInt := by
  have a := c_isub x y; have b := (x - y).toInt_lt; have c := (x - y).le_toInt; omega
theorem own_and (x : Int32) (m : Int32) (k : Nat) (hk : k ≤ 31) (hm : m.toBitVec.toNat = 2 ^ k - 1) : 0 ≤ (x &&& m).toInt ∧ (x &&& m).toInt ≤ m.toInt ∧ (x &&& m).toInt = x.toInt % (2 ^ k : Nat) := by
  have h := c_mask x m k hk hm
  have hm0 : 0 ≤ m.toInt := by
    have e : m.toInt = m.toBitVec.toInt := rfl
    have q : 2 ^ k ≤ 2 ^ 31 := Nat.pow_le_pow_right (by decide) hk
    have l := m.toBitVec.isLt
    rw [e, BitVec.toInt_eq_toNat_cond, hm]; split <;> omega
  exact ⟨(c_and x m hm0).1, (c_and x m hm0).2, h⟩
def own_st (h b : Int32) : Int32 := ((h + b) + ((h + b) <<< ((10 : Int32) &&& 31))) ^^^ XT.ushr ((h + b) + ((h + b) <<< ((10 : Int32) &&& 31))) (6 : Int32)
def own_f1 (h : Int32) : Int32 := h + (h <<< ((3 : Int32) &&& 31))
def own_f2 (h : Int32) : Int32 := own_f1 h ^^^ XT.ushr (own_f1 h) (11 : Int32)
def own_f3 (h : Int32) : Int32 := own_f2 h + (own_f2 h <<< ((15 : Int32) &&& 31))
def own_ul (z : Int32) : Int64 := z.toInt64 &&& (4294967295 : Int64)
def own_oat (ys : List Int32) (n : Nat) : Int64 := own_ul (own_f3 (List.foldl own_st 0 (ys.take n)))
def own_stL (h b : Int32) : Int32 := ((h + b) * (1025 : Int32)) ^^^ XT.ushr ((h + b) * (1025 : Int32)) (6 : Int32)
def own_g2 (h : Int32) : Int32 := (h * (9 : Int32)) ^^^ XT.ushr (h * (9 : Int32)) (11 : Int32)
def own_finL (h : Int32) : Int64 := own_ul (own_g2 h * (32769 : Int32))
theorem own_sh (x k a b : Int32) (h : (1 : Int32) <<< (k &&& 31) = a) (h2 : a + 1 = b) : x + (x <<< (k &&& 31)) = x * b := by
  rw [shlm h, ← h2, Int32.mul_add, Int32.mul_one, Int32.add_comm]
theorem own_st_eq : own_st = own_stL := by
  funext h b
  unfold own_st own_stL
  rw [own_sh (h + b) 10 1024 1025 (by decide) (by decide)]
theorem own_oat_eq (ys : List Int32) (n : Nat) : own_oat ys n = own_finL (List.foldl own_stL 0 (ys.take n)) := by
  unfold own_oat own_finL
  rw [own_st_eq]
  generalize List.foldl own_stL 0 (ys.take n) = h
  unfold own_f3 own_f2 own_f1 own_g2
  rw [own_sh _ 15 32768 32769 (by decide) (by decide), own_sh h 3 8 9 (by decide) (by decide)]
theorem own_nat {i : Nat} (h : i ≤ 16) : (Int32.ofNat i).toInt = i := by
  have q : ∀ k : Fin 17, (Int32.ofNat k.1).toInt = k.1 := by decide
  exact q ⟨i, by omega⟩
theorem own_inc (i : Nat) : Int32.ofNat i + (1 : Int32) = Int32.ofNat (i + 1) := by rw [Int32.ofNat_add]; rfl
theorem own_il {i n : Nat} {p z : Int32} (hp : p = z) (hz : z = Int32.ofNat n) (h : i < n) (hn : n ≤ 16) : Int32.ofNat i < p := by
  subst hp; subst hz
  exact own_lt (by rw [own_nat hn, own_nat (by omega)]; omega)
theorem own_inl {i n : Nat} {p : Int32} (hz : p = Int32.ofNat n) (h : n ≤ i) (hn : i ≤ 16) : ¬ Int32.ofNat i < p := by
  subst hz
  exact own_nlt (by rw [own_nat hn, own_nat (by omega)]; omega)
theorem own_get {i : Nat} (ys : List Int32) (hi : i ≤ 16) : (ys.map Value.int).getD (Int32.ofNat i).toNatClampNeg (.int (0 : Int32)) = .int (ys.getD i 0) := by
  have e : (Int32.ofNat i).toNatClampNeg = i := by
    simp only [Int32.toNatClampNeg, own_nat hi]; rfl
  rw [e, List.getD_eq_getElem?_getD, List.getD_eq_getElem?_getD, List.getElem?_map]
  cases ys[i]? <;> rfl
theorem own_ge0 {i : Nat} (hi : i ≤ 16) : ¬ Int32.ofNat i < 0 := own_nlt (by rw [own_nat hi]; show (0 : Int) ≤ _; omega)
theorem own_turn {ys : List Int32} {i k nn : Nat} {hh H : Int32} (hl : nn ≤ ys.length) (hik : i + (k + 1) = nn) (hf : List.foldl own_st hh ((ys.drop i).take (k + 1)) = H) : List.foldl own_st (own_st hh (ys.getD i 0)) ((ys.drop (i + 1)).take k) = H := by
  have hi : i < ys.length := by omega
  rw [List.drop_eq_getElem_cons hi, List.take_succ_cons, List.foldl_cons] at hf
  have e : ys.getD i 0 = ys[i] := by rw [List.getD_eq_getElem?_getD, List.getElem?_eq_getElem hi]; rfl
  rw [e]; exact hf
theorem own_up {v a b : Int32} (h : v < a) (hab : a < b) : v < b := own_lt (Int.lt_trans (own_ltI h) (own_ltI hab))
theorem own_pin {v : Int32} (k : Int32) (h1 : ¬ v < k) (h2 : v < k + 1) (h3 : (k + 1).toInt = k.toInt + 1) : v = k := own_eq (by have := own_nltI h1; have := own_ltI h2; omega)
theorem own_n {x v : Int32} (e : ((x &&& (7 : Int32)) % (5 : Int32)) = v) : ¬ v < 0 ∧ v < 5 := by
  have h := own_rem (x := x &&& (7 : Int32)) (y := 5) (own_and x 7 3 (by decide) (by decide)).1 (by decide)
  rw [e] at h
  exact ⟨own_nlt h.1, own_lt h.2⟩
theorem own_anchor {b : Int32} (e : b = nar .byte (97 : Int32)) : own_oat [b] 1 = (3392050242 : Int64) := by
  subst e; decide +kernel
theorem d1_0 : decode jdk_33_method_42_code 0 = .ok (.iload_n 0, 1) := by decide +kernel
theorem d1_1 : decode jdk_33_method_42_code 1 = .ok (.i2l, 1) := by decide +kernel
theorem d1_2 : decode jdk_33_method_42_code 2 = .ok (.ldc2_w 262, 3) := by decide +kernel
theorem d1_5 : decode jdk_33_method_42_code 5 = .ok (.land, 1) := by decide +kernel
theorem d1_6 : decode jdk_33_method_42_code 6 = .ok (.lreturn, 1) := by decide +kernel
theorem pn_0 : plainName "java/lang/Integer" = true := by first | (simp [plainName, overriddenIn]; done) | decide +kernel
theorem ef_1 (m : MethodId) (p1 : Int32) : entryFrame m #[(.int p1)] 1 = mkF m 0 #[.val (.int p1)] [] := by first | (simp [entryFrame, mkF, argsToLocals, Value.category]; done) | rfl
def Q1 (Z : State) (p1 : Int32)  (h0 : Heap) (n0 : Nat) (v : Option Value) (h : Heap) (L : List Loc) : Prop := v = some (.long (own_ul p1)) ∧ Fr n0 L ∧ h = h0
set_option maxRecDepth 65536 in
set_option maxHeartbeats 40000000 in
theorem rm1 (l : Launch) (Z : State) (a0 : Array Value) (hw : ∀ d ∈ tables_1, d.before a0 Z = true) (p1 : Int32)  (h0 : Heap) (n0 : Nat) (Z0 : n0 ≤ h0.size)  :
    MetFree l (⟨"java/lang/Integer", "toUnsignedLong", "(I)J"⟩ : MethodName) (head1 [Jvm.Cond.code (⟨"java/lang/Integer", "toUnsignedLong", "(I)J"⟩ : MethodName) jdk_33_method_42_code 1 (some .long)] ({ frames := 0, cells := 0, slots := 0, locals := 0 } : Room)) (fun a U => a = #[(.int p1)] ∧ Z.Warmed39 U.vm ∧ U.heap = h0) (fun _ _ _ _ _ => True) (fun _ U o U' => ∃ v L, o = .returned v ∧ Q1 Z p1  h0 n0 v U'.heap L ∧ FrameEnd U o U' L ({ frames := 0, cells := 0, slots := 0, locals := 0 } : Room).cells ({ frames := 0, cells := 0, slots := 0, locals := 0 } : Room).slots) := by
  refine MetFree.of_bodySF (plainFor_of_name pn_0) hisR ?_
  intro p e s m args below meth c s₁ Bd hml0 hP hK
  obtain ⟨rfl, hZ, hh⟩ := hP
  have hx := Bd.exec
  have hby := Bd.bytes
  have hlk : meth.locks = false := Bd.notSynchronized
  have hml : c.maxLocals = 1 := hml0
  have hown : s.vm.findClass "java/lang/Integer" = some m.cls := findClass_of_methodNamed Bd.named
  have hnm := (name_of_methodNamed Bd.named Bd.method).1
  have X0 : Stand p l e ({ frames := 0, cells := 0, slots := 0, locals := 0 } : Room) s m #[(.int p1)] below meth c s₁ [] 0 0 := Stand.of_body Bd
  have e0 : s₁.heap = h0 := by rw [← hh, Bd.state]; rfl
  have N0 := Fr.nil n0
  show Gl p e below s (Q1 Z p1  h0 n0) 0 0 s₁ (entryFrame m #[(.int p1)] 1)
  rw [ef_1 m p1]
  refine Gl.st (g' := (mkF m 1 #[.val (.int p1)] [(.int p1)])) (fun t k => XS.iloadN X0.here hx rfl (hb hby d1_0) rfl k) ?_
  refine Gl.st (g' := (mkF m 2 #[.val (.int p1)] [(.long (p1.toInt64))])) (fun t k => XS.i2l X0.here hx rfl (hb hby d1_1) rfl k) ?_
  refine Gl.st (g' := (mkF m 5 #[.val (.int p1)] [(.long (4294967295 : Int64)), (.long (p1.toInt64))])) (fun t k => X0.ldc2J hx hown (mvT hZ (hw _ (List.mem_of_getElem? (i := 15) rfl))) rfl (hb hby d1_2) k) ?_
  refine Gl.st (g' := (mkF m 6 #[.val (.int p1)] [(.long ((p1.toInt64) &&& (4294967295 : Int64)))])) (fun t k => XS.land X0.here hx rfl (hb hby d1_5) rfl k) ?_
  refine Gl.retL X0 hx hlk Bd.returns (hb hby d1_6) e0 (by decide) (by decide) ?_
  exact ⟨rfl, N0, rfl⟩
theorem d2_0 : decode method_2_code 0 = .ok (.iload_n 0, 1) := by decide +kernel
theorem d2_1 : decode method_2_code 1 = .ok (.iload_n 1, 1) := by decide +kernel
theorem d2_2 : decode method_2_code 2 = .ok (.iadd, 1) := by decide +kernel
theorem d2_3 : decode method_2_code 3 = .ok (.sipush 1025, 3) := by decide +kernel
theorem d2_6 : decode method_2_code 6 = .ok (.imul, 1) := by decide +kernel
theorem d2_7 : decode method_2_code 7 = .ok (.istore_n 2, 1) := by decide +kernel
theorem d2_8 : decode method_2_code 8 = .ok (.iload_n 2, 1) := by decide +kernel
theorem d2_9 : decode method_2_code 9 = .ok (.iload_n 2, 1) := by decide +kernel
theorem d2_10 : decode method_2_code 10 = .ok (.bipush 6, 2) := by decide +kernel
theorem d2_12 : decode method_2_code 12 = .ok (.iushr, 1) := by decide +kernel
theorem d2_13 : decode method_2_code 13 = .ok (.ixor, 1) := by decide +kernel
theorem d2_14 : decode method_2_code 14 = .ok (.ireturn, 1) := by decide +kernel
theorem pn_1 : plainName "keyhalo/KeyHashOneAtATimePinLaw" = true := by first | (simp [plainName, overriddenIn]; done) | decide +kernel
theorem ef_2 (m : MethodId) (p1 : Int32) (p2 : Int32) : entryFrame m #[(.int p1), (.int p2)] 3 = mkF m 0 #[.val (.int p1), .val (.int p2), .unset] [] := by first | (simp [entryFrame, mkF, argsToLocals, Value.category]; done) | rfl
def Q2 (Z : State) (p1 : Int32) (p2 : Int32)  (h0 : Heap) (n0 : Nat) (v : Option Value) (h : Heap) (L : List Loc) : Prop := v = some (.int (own_stL p1 p2)) ∧ Fr n0 L ∧ h = h0
set_option maxRecDepth 65536 in
set_option maxHeartbeats 40000000 in
theorem rm2 (l : Launch) (Z : State) (a0 : Array Value) (hw : ∀ d ∈ tables_1, d.before a0 Z = true) (p1 : Int32) (p2 : Int32)  (h0 : Heap) (n0 : Nat) (Z0 : n0 ≤ h0.size)  :
    MetFree l (⟨"keyhalo/KeyHashOneAtATimePinLaw", "step", "(IB)I"⟩ : MethodName) (head1 [Jvm.Cond.code (⟨"keyhalo/KeyHashOneAtATimePinLaw", "step", "(IB)I"⟩ : MethodName) method_2_code 3 (some .int)] ({ frames := 0, cells := 0, slots := 0, locals := 0 } : Room)) (fun a U => a = #[(.int p1), (.int p2)] ∧ Z.Warmed39 U.vm ∧ U.heap = h0) (fun _ _ _ _ _ => True) (fun _ U o U' => ∃ v L, o = .returned v ∧ Q2 Z p1 p2  h0 n0 v U'.heap L ∧ FrameEnd U o U' L ({ frames := 0, cells := 0, slots := 0, locals := 0 } : Room).cells ({ frames := 0, cells := 0, slots := 0, locals := 0 } : Room).slots) := by
  refine MetFree.of_bodySF (plainFor_of_name pn_1) hisR ?_
  intro p e s m args below meth c s₁ Bd hml0 hP hK
  obtain ⟨rfl, hZ, hh⟩ := hP
  have hx := Bd.exec
  have hby := Bd.bytes
  have hlk : meth.locks = false := Bd.notSynchronized
  have hml : c.maxLocals = 3 := hml0
  have hown : s.vm.findClass "keyhalo/KeyHashOneAtATimePinLaw" = some m.cls := findClass_of_methodNamed Bd.named
  have hnm := (name_of_methodNamed Bd.named Bd.method).1
  have X0 : Stand p l e ({ frames := 0, cells := 0, slots := 0, locals := 0 } : Room) s m #[(.int p1), (.int p2)] below meth c s₁ [] 0 0 := Stand.of_body Bd
  have e0 : s₁.heap = h0 := by rw [← hh, Bd.state]; rfl
  have N0 := Fr.nil n0
  show Gl p e below s (Q2 Z p1 p2  h0 n0) 0 0 s₁ (entryFrame m #[(.int p1), (.int p2)] 3)
  rw [ef_2 m p1 p2]
  refine Gl.st (g' := (mkF m 1 #[.val (.int p1), .val (.int p2), .unset] [(.int p1)])) (fun t k => XS.iloadN X0.here hx rfl (hb hby d2_0) rfl k) ?_
  refine Gl.st (g' := (mkF m 2 #[.val (.int p1), .val (.int p2), .unset] [(.int p2), (.int p1)])) (fun t k => XS.iloadN X0.here hx rfl (hb hby d2_1) rfl k) ?_
  refine Gl.st (g' := (mkF m 3 #[.val (.int p1), .val (.int p2), .unset] [(.int (p1 + p2))])) (fun t k => XS.iadd X0.here hx rfl (hb hby d2_2) rfl k) ?_
  refine Gl.st (g' := (mkF m 6 #[.val (.int p1), .val (.int p2), .unset] [(.int (1025 : Int32)), (.int (p1 + p2))])) (fun t k => XT.sipushV X0.here hx rfl (1025 : Int32) (hb hby d2_3) rfl k) ?_
  refine Gl.st (g' := (mkF m 7 #[.val (.int p1), .val (.int p2), .unset] [(.int ((p1 + p2) * (1025 : Int32)))])) (fun t k => XS.imul X0.here hx rfl (hb hby d2_6) rfl k) ?_
  refine Gl.st (g' := (mkF m 8 #[.val (.int p1), .val (.int p2), .val (.int ((p1 + p2) * (1025 : Int32)))] [])) (fun t k => XS.istoreN X0.here hx rfl (hb hby d2_7) rfl (l' := #[.val (.int p1), .val (.int p2), .val (.int ((p1 + p2) * (1025 : Int32)))]) rfl k) ?_
  refine Gl.st (g' := (mkF m 9 #[.val (.int p1), .val (.int p2), .val (.int ((p1 + p2) * (1025 : Int32)))] [(.int ((p1 + p2) * (1025 : Int32)))])) (fun t k => XS.iloadN X0.here hx rfl (hb hby d2_8) rfl k) ?_
  refine Gl.st (g' := (mkF m 10 #[.val (.int p1), .val (.int p2), .val (.int ((p1 + p2) * (1025 : Int32)))] [(.int ((p1 + p2) * (1025 : Int32))), (.int ((p1 + p2) * (1025 : Int32)))])) (fun t k => XS.iloadN X0.here hx rfl (hb hby d2_9) rfl k) ?_
  refine Gl.st (g' := (mkF m 12 #[.val (.int p1), .val (.int p2), .val (.int ((p1 + p2) * (1025 : Int32)))] [(.int (6 : Int32)), (.int ((p1 + p2) * (1025 : Int32))), (.int ((p1 + p2) * (1025 : Int32)))])) (fun t k => XT.bipushV X0.here hx rfl (6 : Int32) (hb hby d2_10) rfl k) ?_
  refine Gl.st (g' := (mkF m 13 #[.val (.int p1), .val (.int p2), .val (.int ((p1 + p2) * (1025 : Int32)))] [(.int (XT.ushr ((p1 + p2) * (1025 : Int32)) (6 : Int32))), (.int ((p1 + p2) * (1025 : Int32)))])) (fun t k => XT.iushr X0.here hx rfl (hb hby d2_12) rfl k) ?_
  refine Gl.st (g' := (mkF m 14 #[.val (.int p1), .val (.int p2), .val (.int ((p1 + p2) * (1025 : Int32)))] [(.int (((p1 + p2) * (1025 : Int32)) ^^^ (XT.ushr ((p1 + p2) * (1025 : Int32)) (6 : Int32))))])) (fun t k => XS.ixor X0.here hx rfl (hb hby d2_13) rfl k) ?_
  refine Gl.retI X0 hx hlk Bd.returns (hb hby d2_14) e0 (by decide) (by decide) ?_
  exact ⟨rfl, N0, rfl⟩
theorem d3_0 : decode method_3_code 0 = .ok (.iload_n 0, 1) := by decide +kernel
theorem d3_1 : decode method_3_code 1 = .ok (.bipush 9, 2) := by decide +kernel
theorem d3_3 : decode method_3_code 3 = .ok (.imul, 1) := by decide +kernel
theorem d3_4 : decode method_3_code 4 = .ok (.istore_n 1, 1) := by decide +kernel
theorem d3_5 : decode method_3_code 5 = .ok (.iload_n 1, 1) := by decide +kernel
theorem d3_6 : decode method_3_code 6 = .ok (.iload_n 1, 1) := by decide +kernel
theorem d3_7 : decode method_3_code 7 = .ok (.bipush 11, 2) := by decide +kernel
theorem d3_9 : decode method_3_code 9 = .ok (.iushr, 1) := by decide +kernel
theorem d3_10 : decode method_3_code 10 = .ok (.ixor, 1) := by decide +kernel
theorem d3_11 : decode method_3_code 11 = .ok (.istore_n 1, 1) := by decide +kernel
theorem d3_12 : decode method_3_code 12 = .ok (.iload_n 1, 1) := by decide +kernel
theorem d3_13 : decode method_3_code 13 = .ok (.ldc 7, 2) := by decide +kernel
theorem d3_15 : decode method_3_code 15 = .ok (.imul, 1) := by decide +kernel
theorem d3_16 : decode method_3_code 16 = .ok (.istore_n 1, 1) := by decide +kernel
theorem d3_17 : decode method_3_code 17 = .ok (.iload_n 1, 1) := by decide +kernel
theorem d3_18 : decode method_3_code 18 = .ok (.i2l, 1) := by decide +kernel
theorem d3_19 : decode method_3_code 19 = .ok (.ldc2_w 8, 3) := by decide +kernel
theorem d3_22 : decode method_3_code 22 = .ok (.land, 1) := by decide +kernel
theorem d3_23 : decode method_3_code 23 = .ok (.lreturn, 1) := by decide +kernel
theorem ef_3 (m : MethodId) (p1 : Int32) : entryFrame m #[(.int p1)] 2 = mkF m 0 #[.val (.int p1), .unset] [] := by first | (simp [entryFrame, mkF, argsToLocals, Value.category]; done) | rfl
def Q3 (Z : State) (p1 : Int32)  (h0 : Heap) (n0 : Nat) (v : Option Value) (h : Heap) (L : List Loc) : Prop := v = some (.long (own_finL p1)) ∧ Fr n0 L ∧ h = h0
set_option maxRecDepth 65536 in
set_option maxHeartbeats 40000000 in
theorem rm3 (l : Launch) (Z : State) (a0 : Array Value) (hw : ∀ d ∈ tables_1, d.before a0 Z = true) (p1 : Int32)  (h0 : Heap) (n0 : Nat) (Z0 : n0 ≤ h0.size)  :
    MetFree l (⟨"keyhalo/KeyHashOneAtATimePinLaw", "fin", "(I)J"⟩ : MethodName) (head1 [Jvm.Cond.code (⟨"keyhalo/KeyHashOneAtATimePinLaw", "fin", "(I)J"⟩ : MethodName) method_3_code 2 (some .long)] ({ frames := 0, cells := 0, slots := 0, locals := 0 } : Room)) (fun a U => a = #[(.int p1)] ∧ Z.Warmed39 U.vm ∧ U.heap = h0) (fun _ _ _ _ _ => True) (fun _ U o U' => ∃ v L, o = .returned v ∧ Q3 Z p1  h0 n0 v U'.heap L ∧ FrameEnd U o U' L ({ frames := 0, cells := 0, slots := 0, locals := 0 } : Room).cells ({ frames := 0, cells := 0, slots := 0, locals := 0 } : Room).slots) := by
  refine MetFree.of_bodySF (plainFor_of_name pn_1) hisR ?_
  intro p e s m args below meth c s₁ Bd hml0 hP hK
  obtain ⟨rfl, hZ, hh⟩ := hP
  have hx := Bd.exec
  have hby := Bd.bytes
  have hlk : meth.locks = false := Bd.notSynchronized
  have hml : c.maxLocals = 2 := hml0
  have hown : s.vm.findClass "keyhalo/KeyHashOneAtATimePinLaw" = some m.cls := findClass_of_methodNamed Bd.named
  have hnm := (name_of_methodNamed Bd.named Bd.method).1
  have X0 : Stand p l e ({ frames := 0, cells := 0, slots := 0, locals := 0 } : Room) s m #[(.int p1)] below meth c s₁ [] 0 0 := Stand.of_body Bd
  have e0 : s₁.heap = h0 := by rw [← hh, Bd.state]; rfl
  have N0 := Fr.nil n0
  show Gl p e below s (Q3 Z p1  h0 n0) 0 0 s₁ (entryFrame m #[(.int p1)] 2)
  rw [ef_3 m p1]
  refine Gl.st (g' := (mkF m 1 #[.val (.int p1), .unset] [(.int p1)])) (fun t k => XS.iloadN X0.here hx rfl (hb hby d3_0) rfl k) ?_
  refine Gl.st (g' := (mkF m 3 #[.val (.int p1), .unset] [(.int (9 : Int32)), (.int p1)])) (fun t k => XT.bipushV X0.here hx rfl (9 : Int32) (hb hby d3_1) rfl k) ?_
  refine Gl.st (g' := (mkF m 4 #[.val (.int p1), .unset] [(.int (p1 * (9 : Int32)))])) (fun t k => XS.imul X0.here hx rfl (hb hby d3_3) rfl k) ?_
  refine Gl.st (g' := (mkF m 5 #[.val (.int p1), .val (.int (p1 * (9 : Int32)))] [])) (fun t k => XS.istoreN X0.here hx rfl (hb hby d3_4) rfl (l' := #[.val (.int p1), .val (.int (p1 * (9 : Int32)))]) rfl k) ?_
  refine Gl.st (g' := (mkF m 6 #[.val (.int p1), .val (.int (p1 * (9 : Int32)))] [(.int (p1 * (9 : Int32)))])) (fun t k => XS.iloadN X0.here hx rfl (hb hby d3_5) rfl k) ?_
  refine Gl.st (g' := (mkF m 7 #[.val (.int p1), .val (.int (p1 * (9 : Int32)))] [(.int (p1 * (9 : Int32))), (.int (p1 * (9 : Int32)))])) (fun t k => XS.iloadN X0.here hx rfl (hb hby d3_6) rfl k) ?_
  refine Gl.st (g' := (mkF m 9 #[.val (.int p1), .val (.int (p1 * (9 : Int32)))] [(.int (11 : Int32)), (.int (p1 * (9 : Int32))), (.int (p1 * (9 : Int32)))])) (fun t k => XT.bipushV X0.here hx rfl (11 : Int32) (hb hby d3_7) rfl k) ?_
  refine Gl.st (g' := (mkF m 10 #[.val (.int p1), .val (.int (p1 * (9 : Int32)))] [(.int (XT.ushr (p1 * (9 : Int32)) (11 : Int32))), (.int (p1 * (9 : Int32)))])) (fun t k => XT.iushr X0.here hx rfl (hb hby d3_9) rfl k) ?_
  refine Gl.st (g' := (mkF m 11 #[.val (.int p1), .val (.int (p1 * (9 : Int32)))] [(.int ((p1 * (9 : Int32)) ^^^ (XT.ushr (p1 * (9 : Int32)) (11 : Int32))))])) (fun t k => XS.ixor X0.here hx rfl (hb hby d3_10) rfl k) ?_
  refine Gl.st (g' := (mkF m 12 #[.val (.int p1), .val (.int ((p1 * (9 : Int32)) ^^^ (XT.ushr (p1 * (9 : Int32)) (11 : Int32))))] [])) (fun t k => XS.istoreN X0.here hx rfl (hb hby d3_11) rfl (l' := #[.val (.int p1), .val (.int ((p1 * (9 : Int32)) ^^^ (XT.ushr (p1 * (9 : Int32)) (11 : Int32))))]) rfl k) ?_
  refine Gl.st (g' := (mkF m 13 #[.val (.int p1), .val (.int ((p1 * (9 : Int32)) ^^^ (XT.ushr (p1 * (9 : Int32)) (11 : Int32))))] [(.int ((p1 * (9 : Int32)) ^^^ (XT.ushr (p1 * (9 : Int32)) (11 : Int32))))])) (fun t k => XS.iloadN X0.here hx rfl (hb hby d3_12) rfl k) ?_
  refine Gl.st (g' := (mkF m 15 #[.val (.int p1), .val (.int ((p1 * (9 : Int32)) ^^^ (XT.ushr (p1 * (9 : Int32)) (11 : Int32))))] [(.int (32769 : Int32)), (.int ((p1 * (9 : Int32)) ^^^ (XT.ushr (p1 * (9 : Int32)) (11 : Int32))))])) (fun t k => X0.ldcI hx hown (mvT hZ (hw _ (List.mem_of_getElem? (i := 5) rfl))) rfl (hb hby d3_13) k) ?_
  refine Gl.st (g' := (mkF m 16 #[.val (.int p1), .val (.int ((p1 * (9 : Int32)) ^^^ (XT.ushr (p1 * (9 : Int32)) (11 : Int32))))] [(.int (((p1 * (9 : Int32)) ^^^ (XT.ushr (p1 * (9 : Int32)) (11 : Int32))) * (32769 : Int32)))])) (fun t k => XS.imul X0.here hx rfl (hb hby d3_15) rfl k) ?_
  refine Gl.st (g' := (mkF m 17 #[.val (.int p1), .val (.int (((p1 * (9 : Int32)) ^^^ (XT.ushr (p1 * (9 : Int32)) (11 : Int32))) * (32769 : Int32)))] [])) (fun t k => XS.istoreN X0.here hx rfl (hb hby d3_16) rfl (l' := #[.val (.int p1), .val (.int (((p1 * (9 : Int32)) ^^^ (XT.ushr (p1 * (9 : Int32)) (11 : Int32))) * (32769 : Int32)))]) rfl k) ?_
  refine Gl.st (g' := (mkF m 18 #[.val (.int p1), .val (.int (((p1 * (9 : Int32)) ^^^ (XT.ushr (p1 * (9 : Int32)) (11 : Int32))) * (32769 : Int32)))] [(.int (((p1 * (9 : Int32)) ^^^ (XT.ushr (p1 * (9 : Int32)) (11 : Int32))) * (32769 : Int32)))])) (fun t k => XS.iloadN X0.here hx rfl (hb hby d3_17) rfl k) ?_
  refine Gl.st (g' := (mkF m 19 #[.val (.int p1), .val (.int (((p1 * (9 : Int32)) ^^^ (XT.ushr (p1 * (9 : Int32)) (11 : Int32))) * (32769 : Int32)))] [(.long ((((p1 * (9 : Int32)) ^^^ (XT.ushr (p1 * (9 : Int32)) (11 : Int32))) * (32769 : Int32)).toInt64))])) (fun t k => XS.i2l X0.here hx rfl (hb hby d3_18) rfl k) ?_
  refine Gl.st (g' := (mkF m 22 #[.val (.int p1), .val (.int (((p1 * (9 : Int32)) ^^^ (XT.ushr (p1 * (9 : Int32)) (11 : Int32))) * (32769 : Int32)))] [(.long (4294967295 : Int64)), (.long ((((p1 * (9 : Int32)) ^^^ (XT.ushr (p1 * (9 : Int32)) (11 : Int32))) * (32769 : Int32)).toInt64))])) (fun t k => X0.ldc2J hx hown (mvT hZ (hw _ (List.mem_of_getElem? (i := 6) rfl))) rfl (hb hby d3_19) k) ?_
  refine Gl.st (g' := (mkF m 23 #[.val (.int p1), .val (.int (((p1 * (9 : Int32)) ^^^ (XT.ushr (p1 * (9 : Int32)) (11 : Int32))) * (32769 : Int32)))] [(.long (((((p1 * (9 : Int32)) ^^^ (XT.ushr (p1 * (9 : Int32)) (11 : Int32))) * (32769 : Int32)).toInt64) &&& (4294967295 : Int64)))])) (fun t k => XS.land X0.here hx rfl (hb hby d3_22) rfl k) ?_
  refine Gl.retL X0 hx hlk Bd.returns (hb hby d3_23) e0 (by decide) (by decide) ?_
  exact ⟨rfl, N0, rfl⟩
theorem pd_0 : parseMethodDescriptor "(I)J" = some ⟨[.int], some .long⟩ := by decide +kernel
theorem pd_1 : parseMethodDescriptor "(IB)I" = some ⟨[.int, .byte], some .int⟩ := by decide +kernel
theorem d4_0 : decode prog_4_method_3_code 0 = .ok (.iconst 0, 1) := by decide +kernel
theorem d4_1 : decode prog_4_method_3_code 1 = .ok (.istore_n 2, 1) := by decide +kernel
theorem d4_2 : decode prog_4_method_3_code 2 = .ok (.iconst 0, 1) := by decide +kernel
theorem d4_3 : decode prog_4_method_3_code 3 = .ok (.istore_n 3, 1) := by decide +kernel
theorem d4_4 : decode prog_4_method_3_code 4 = .ok (.iload_n 3, 1) := by decide +kernel
theorem d4_5 : decode prog_4_method_3_code 5 = .ok (.iload_n 1, 1) := by decide +kernel
theorem d4_6 : decode prog_4_method_3_code 6 = .ok (.if_icmp .ge 29, 3) := by decide +kernel
theorem d4_9 : decode prog_4_method_3_code 9 = .ok (.iload_n 2, 1) := by decide +kernel
theorem d4_10 : decode prog_4_method_3_code 10 = .ok (.aload_n 0, 1) := by decide +kernel
theorem d4_11 : decode prog_4_method_3_code 11 = .ok (.iload_n 3, 1) := by decide +kernel
theorem d4_12 : decode prog_4_method_3_code 12 = .ok (.baload, 1) := by decide +kernel
theorem d4_13 : decode prog_4_method_3_code 13 = .ok (.iadd, 1) := by decide +kernel
theorem d4_14 : decode prog_4_method_3_code 14 = .ok (.istore_n 2, 1) := by decide +kernel
theorem d4_15 : decode prog_4_method_3_code 15 = .ok (.iload_n 2, 1) := by decide +kernel
theorem d4_16 : decode prog_4_method_3_code 16 = .ok (.iload_n 2, 1) := by decide +kernel
theorem d4_17 : decode prog_4_method_3_code 17 = .ok (.bipush 10, 2) := by decide +kernel
theorem d4_19 : decode prog_4_method_3_code 19 = .ok (.ishl, 1) := by decide +kernel
theorem d4_20 : decode prog_4_method_3_code 20 = .ok (.iadd, 1) := by decide +kernel
theorem d4_21 : decode prog_4_method_3_code 21 = .ok (.istore_n 2, 1) := by decide +kernel
theorem d4_22 : decode prog_4_method_3_code 22 = .ok (.iload_n 2, 1) := by decide +kernel
theorem d4_23 : decode prog_4_method_3_code 23 = .ok (.iload_n 2, 1) := by decide +kernel
theorem d4_24 : decode prog_4_method_3_code 24 = .ok (.bipush 6, 2) := by decide +kernel
theorem d4_26 : decode prog_4_method_3_code 26 = .ok (.iushr, 1) := by decide +kernel
theorem d4_27 : decode prog_4_method_3_code 27 = .ok (.ixor, 1) := by decide +kernel
theorem d4_28 : decode prog_4_method_3_code 28 = .ok (.istore_n 2, 1) := by decide +kernel
theorem d4_29 : decode prog_4_method_3_code 29 = .ok (.iinc 3 1, 3) := by decide +kernel
theorem d4_32 : decode prog_4_method_3_code 32 = .ok (.goto (-28), 3) := by decide +kernel
theorem d4_35 : decode prog_4_method_3_code 35 = .ok (.iload_n 2, 1) := by decide +kernel
theorem d4_36 : decode prog_4_method_3_code 36 = .ok (.iload_n 2, 1) := by decide +kernel
theorem d4_37 : decode prog_4_method_3_code 37 = .ok (.iconst 3, 1) := by decide +kernel
theorem d4_38 : decode prog_4_method_3_code 38 = .ok (.ishl, 1) := by decide +kernel
theorem d4_39 : decode prog_4_method_3_code 39 = .ok (.iadd, 1) := by decide +kernel
theorem d4_40 : decode prog_4_method_3_code 40 = .ok (.istore_n 2, 1) := by decide +kernel
theorem d4_41 : decode prog_4_method_3_code 41 = .ok (.iload_n 2, 1) := by decide +kernel
theorem d4_42 : decode prog_4_method_3_code 42 = .ok (.iload_n 2, 1) := by decide +kernel
theorem d4_43 : decode prog_4_method_3_code 43 = .ok (.bipush 11, 2) := by decide +kernel
theorem d4_45 : decode prog_4_method_3_code 45 = .ok (.iushr, 1) := by decide +kernel
theorem d4_46 : decode prog_4_method_3_code 46 = .ok (.ixor, 1) := by decide +kernel
theorem d4_47 : decode prog_4_method_3_code 47 = .ok (.istore_n 2, 1) := by decide +kernel
theorem d4_48 : decode prog_4_method_3_code 48 = .ok (.iload_n 2, 1) := by decide +kernel
theorem d4_49 : decode prog_4_method_3_code 49 = .ok (.iload_n 2, 1) := by decide +kernel
theorem d4_50 : decode prog_4_method_3_code 50 = .ok (.bipush 15, 2) := by decide +kernel
theorem d4_52 : decode prog_4_method_3_code 52 = .ok (.ishl, 1) := by decide +kernel
theorem d4_53 : decode prog_4_method_3_code 53 = .ok (.iadd, 1) := by decide +kernel
theorem d4_54 : decode prog_4_method_3_code 54 = .ok (.istore_n 2, 1) := by decide +kernel
theorem d4_55 : decode prog_4_method_3_code 55 = .ok (.iload_n 2, 1) := by decide +kernel
theorem d4_56 : decode prog_4_method_3_code 56 = .ok (.invokestatic 19, 3) := by decide +kernel
theorem d4_59 : decode prog_4_method_3_code 59 = .ok (.lreturn, 1) := by decide +kernel
theorem pn_2 : plainName "keyhalo/KeyHash" = true := by first | (simp [plainName, overriddenIn]; done) | decide +kernel
theorem ef_4 (m : MethodId) (p1 : Addr) (p2 : Int32) : entryFrame m #[(.ref p1), (.int p2)] 4 = mkF m 0 #[.val (.ref p1), .val (.int p2), .unset, .unset] [] := by first | (simp [entryFrame, mkF, argsToLocals, Value.category]; done) | rfl
def Q4 (Z : State) (p1 : Addr) (p2 : Int32) (ys : List Int32) (nn : Nat) (kA : ClassId) (zz : Int32) (h0 : Heap) (n0 : Nat) (v : Option Value) (h : Heap) (L : List Loc) : Prop := v = some (.long (own_oat ys nn)) ∧ Fr n0 L ∧ h = h0
set_option maxRecDepth 65536 in
set_option maxHeartbeats 40000000 in
theorem rm4 (l : Launch) (Z : State) (a0 : Array Value) (hw : ∀ d ∈ tables_1, d.before a0 Z = true) (p1 : Addr) (p2 : Int32) (ys : List Int32) (nn : Nat) (kA : ClassId) (zz : Int32) (h0 : Heap) (n0 : Nat) (Z0 : n0 ≤ h0.size) (F : Arv Z h0 p1 kA .byte zz (ys.map Value.int) (.int (0 : Int32))) (hn : p2 = Int32.ofNat nn) (hl : nn ≤ ys.length) (hz : zz = Int32.ofNat ys.length) (hs : ys.length ≤ 16) :
    MetFree l (⟨"keyhalo/KeyHash", "oneAtATime", "([BI)J"⟩ : MethodName) (head1 [Jvm.Cond.code (⟨"keyhalo/KeyHash", "oneAtATime", "([BI)J"⟩ : MethodName) prog_4_method_3_code 4 (some .long)] ({ frames := 1, cells := 0, slots := 0, locals := 12 } : Room)) (fun a U => a = #[(.ref p1), (.int p2)] ∧ Z.Warmed39 U.vm ∧ U.heap = h0) (fun _ _ _ _ _ => True) (fun _ U o U' => ∃ v L, o = .returned v ∧ Q4 Z p1 p2 ys nn kA zz h0 n0 v U'.heap L ∧ FrameEnd U o U' L ({ frames := 1, cells := 0, slots := 0, locals := 12 } : Room).cells ({ frames := 1, cells := 0, slots := 0, locals := 12 } : Room).slots) := by
  refine MetFree.of_bodySF (plainFor_of_name pn_2) hisR ?_
  intro p e s m args below meth c s₁ Bd hml0 hP hK
  obtain ⟨rfl, hZ, hh⟩ := hP
  have hx := Bd.exec
  have hby := Bd.bytes
  have hlk : meth.locks = false := Bd.notSynchronized
  have hml : c.maxLocals = 4 := hml0
  have hown : s.vm.findClass "keyhalo/KeyHash" = some m.cls := findClass_of_methodNamed Bd.named
  have hnm := (name_of_methodNamed Bd.named Bd.method).1
  have X0 : Stand p l e ({ frames := 1, cells := 0, slots := 0, locals := 12 } : Room) s m #[(.ref p1), (.int p2)] below meth c s₁ [] 0 0 := Stand.of_body Bd
  have e0 : s₁.heap = h0 := by rw [← hh, Bd.state]; rfl
  have N0 := Fr.nil n0
  show Gl p e below s (Q4 Z p1 p2 ys nn kA zz h0 n0) 0 0 s₁ (entryFrame m #[(.ref p1), (.int p2)] 4)
  rw [ef_4 m p1 p2]
  refine Gl.st (g' := (mkF m 1 #[.val (.ref p1), .val (.int p2), .unset, .unset] [(.int (0 : Int32))])) (fun t k => XT.iconstV X0.here hx rfl (0 : Int32) (hb hby d4_0) rfl k) ?_
  refine Gl.st (g' := (mkF m 2 #[.val (.ref p1), .val (.int p2), .val (.int (0 : Int32)), .unset] [])) (fun t k => XS.istoreN X0.here hx rfl (hb hby d4_1) rfl (l' := #[.val (.ref p1), .val (.int p2), .val (.int (0 : Int32)), .unset]) rfl k) ?_
  refine Gl.st (g' := (mkF m 3 #[.val (.ref p1), .val (.int p2), .val (.int (0 : Int32)), .unset] [(.int (0 : Int32))])) (fun t k => XT.iconstV X0.here hx rfl (0 : Int32) (hb hby d4_2) rfl k) ?_
  refine Gl.st (g' := (mkF m 4 #[.val (.ref p1), .val (.int p2), .val (.int (0 : Int32)), .val (.int (0 : Int32))] [])) (fun t k => XS.istoreN X0.here hx rfl (hb hby d4_3) rfl (l' := #[.val (.ref p1), .val (.int p2), .val (.int (0 : Int32)), .val (.int (0 : Int32))]) rfl k) ?_
  have loop : ∀ (k i : Nat) (hh : Int32), i + k = nn → List.foldl own_st hh ((ys.drop i).take k) = List.foldl own_st 0 (ys.take nn) → Gl p e below s (Q4 Z p1 p2 ys nn kA zz h0 n0) 0 0 s₁ (mkF m 4 #[.val (.ref p1), .val (.int p2), .val (.int hh), .val (.int (Int32.ofNat i))] []) := by
    intro k
    induction k with
    | zero =>
      intro i hh hik hf
      have hi : i = nn := by omega
      have hf0 : hh = List.foldl own_st 0 (ys.take nn) := hf
      refine Gl.st (g' := (mkF m 5 #[.val (.ref p1), .val (.int p2), .val (.int hh), .val (.int (Int32.ofNat i))] [(.int (Int32.ofNat i))])) (fun t k => XS.iloadN X0.here hx rfl (hb hby d4_4) rfl k) ?_
      refine Gl.st (g' := (mkF m 6 #[.val (.ref p1), .val (.int p2), .val (.int hh), .val (.int (Int32.ofNat i))] [(.int p2), (.int (Int32.ofNat i))])) (fun t k => XS.iloadN X0.here hx rfl (hb hby d4_5) rfl k) ?_
      refine Gl.st (g' := (mkF m 35 #[.val (.ref p1), .val (.int p2), .val (.int hh), .val (.int (Int32.ofNat i))] [])) (fun t k => XS.icmpYes X0.here hx rfl (pc0 := 6) (pc' := 35) rfl (hb hby d4_6) rfl (XT.ii_ge_t (own_inl hn (by omega) (by omega))) (by decide) (by decide) k) ?_
      refine Gl.st (g' := (mkF m 36 #[.val (.ref p1), .val (.int p2), .val (.int hh), .val (.int (Int32.ofNat i))] [(.int hh)])) (fun t k => XS.iloadN X0.here hx rfl (hb hby d4_35) rfl k) ?_
      refine Gl.st (g' := (mkF m 37 #[.val (.ref p1), .val (.int p2), .val (.int hh), .val (.int (Int32.ofNat i))] [(.int hh), (.int hh)])) (fun t k => XS.iloadN X0.here hx rfl (hb hby d4_36) rfl k) ?_
      refine Gl.st (g' := (mkF m 38 #[.val (.ref p1), .val (.int p2), .val (.int hh), .val (.int (Int32.ofNat i))] [(.int (3 : Int32)), (.int hh), (.int hh)])) (fun t k => XT.iconstV X0.here hx rfl (3 : Int32) (hb hby d4_37) rfl k) ?_
      refine Gl.st (g' := (mkF m 39 #[.val (.ref p1), .val (.int p2), .val (.int hh), .val (.int (Int32.ofNat i))] [(.int (hh <<< ((3 : Int32) &&& 31))), (.int hh)])) (fun t k => XS.ishl X0.here hx rfl (hb hby d4_38) rfl k) ?_
      refine Gl.st (g' := (mkF m 40 #[.val (.ref p1), .val (.int p2), .val (.int hh), .val (.int (Int32.ofNat i))] [(.int (hh + (hh <<< ((3 : Int32) &&& 31))))])) (fun t k => XS.iadd X0.here hx rfl (hb hby d4_39) rfl k) ?_
      refine Gl.st (g' := (mkF m 41 #[.val (.ref p1), .val (.int p2), .val (.int (hh + (hh <<< ((3 : Int32) &&& 31)))), .val (.int (Int32.ofNat i))] [])) (fun t k => XS.istoreN X0.here hx rfl (hb hby d4_40) rfl (l' := #[.val (.ref p1), .val (.int p2), .val (.int (hh + (hh <<< ((3 : Int32) &&& 31)))), .val (.int (Int32.ofNat i))]) rfl k) ?_
      refine Gl.st (g' := (mkF m 42 #[.val (.ref p1), .val (.int p2), .val (.int (hh + (hh <<< ((3 : Int32) &&& 31)))), .val (.int (Int32.ofNat i))] [(.int (hh + (hh <<< ((3 : Int32) &&& 31))))])) (fun t k => XS.iloadN X0.here hx rfl (hb hby d4_41) rfl k) ?_
      refine Gl.st (g' := (mkF m 43 #[.val (.ref p1), .val (.int p2), .val (.int (hh + (hh <<< ((3 : Int32) &&& 31)))), .val (.int (Int32.ofNat i))] [(.int (hh + (hh <<< ((3 : Int32) &&& 31)))), (.int (hh + (hh <<< ((3 : Int32) &&& 31))))])) (fun t k => XS.iloadN X0.here hx rfl (hb hby d4_42) rfl k) ?_
      refine Gl.st (g' := (mkF m 45 #[.val (.ref p1), .val (.int p2), .val (.int (hh + (hh <<< ((3 : Int32) &&& 31)))), .val (.int (Int32.ofNat i))] [(.int (11 : Int32)), (.int (hh + (hh <<< ((3 : Int32) &&& 31)))), (.int (hh + (hh <<< ((3 : Int32) &&& 31))))])) (fun t k => XT.bipushV X0.here hx rfl (11 : Int32) (hb hby d4_43) rfl k) ?_
      refine Gl.st (g' := (mkF m 46 #[.val (.ref p1), .val (.int p2), .val (.int (hh + (hh <<< ((3 : Int32) &&& 31)))), .val (.int (Int32.ofNat i))] [(.int (XT.ushr (hh + (hh <<< ((3 : Int32) &&& 31))) (11 : Int32))), (.int (hh + (hh <<< ((3 : Int32) &&& 31))))])) (fun t k => XT.iushr X0.here hx rfl (hb hby d4_45) rfl k) ?_
      refine Gl.st (g' := (mkF m 47 #[.val (.ref p1), .val (.int p2), .val (.int (hh + (hh <<< ((3 : Int32) &&& 31)))), .val (.int (Int32.ofNat i))] [(.int ((hh + (hh <<< ((3 : Int32) &&& 31))) ^^^ (XT.ushr (hh + (hh <<< ((3 : Int32) &&& 31))) (11 : Int32))))])) (fun t k => XS.ixor X0.here hx rfl (hb hby d4_46) rfl k) ?_
      refine Gl.st (g' := (mkF m 48 #[.val (.ref p1), .val (.int p2), .val (.int ((hh + (hh <<< ((3 : Int32) &&& 31))) ^^^ (XT.ushr (hh + (hh <<< ((3 : Int32) &&& 31))) (11 : Int32)))), .val (.int (Int32.ofNat i))] [])) (fun t k => XS.istoreN X0.here hx rfl (hb hby d4_47) rfl (l' := #[.val (.ref p1), .val (.int p2), .val (.int ((hh + (hh <<< ((3 : Int32) &&& 31))) ^^^ (XT.ushr (hh + (hh <<< ((3 : Int32) &&& 31))) (11 : Int32)))), .val (.int (Int32.ofNat i))]) rfl k) ?_
      refine Gl.st (g' := (mkF m 49 #[.val (.ref p1), .val (.int p2), .val (.int ((hh + (hh <<< ((3 : Int32) &&& 31))) ^^^ (XT.ushr (hh + (hh <<< ((3 : Int32) &&& 31))) (11 : Int32)))), .val (.int (Int32.ofNat i))] [(.int ((hh + (hh <<< ((3 : Int32) &&& 31))) ^^^ (XT.ushr (hh + (hh <<< ((3 : Int32) &&& 31))) (11 : Int32))))])) (fun t k => XS.iloadN X0.here hx rfl (hb hby d4_48) rfl k) ?_
      refine Gl.st (g' := (mkF m 50 #[.val (.ref p1), .val (.int p2), .val (.int ((hh + (hh <<< ((3 : Int32) &&& 31))) ^^^ (XT.ushr (hh + (hh <<< ((3 : Int32) &&& 31))) (11 : Int32)))), .val (.int (Int32.ofNat i))] [(.int ((hh + (hh <<< ((3 : Int32) &&& 31))) ^^^ (XT.ushr (hh + (hh <<< ((3 : Int32) &&& 31))) (11 : Int32)))), (.int ((hh + (hh <<< ((3 : Int32) &&& 31))) ^^^ (XT.ushr (hh + (hh <<< ((3 : Int32) &&& 31))) (11 : Int32))))])) (fun t k => XS.iloadN X0.here hx rfl (hb hby d4_49) rfl k) ?_
      refine Gl.st (g' := (mkF m 52 #[.val (.ref p1), .val (.int p2), .val (.int ((hh + (hh <<< ((3 : Int32) &&& 31))) ^^^ (XT.ushr (hh + (hh <<< ((3 : Int32) &&& 31))) (11 : Int32)))), .val (.int (Int32.ofNat i))] [(.int (15 : Int32)), (.int ((hh + (hh <<< ((3 : Int32) &&& 31))) ^^^ (XT.ushr (hh + (hh <<< ((3 : Int32) &&& 31))) (11 : Int32)))), (.int ((hh + (hh <<< ((3 : Int32) &&& 31))) ^^^ (XT.ushr (hh + (hh <<< ((3 : Int32) &&& 31))) (11 : Int32))))])) (fun t k => XT.bipushV X0.here hx rfl (15 : Int32) (hb hby d4_50) rfl k) ?_
      refine Gl.st (g' := (mkF m 53 #[.val (.ref p1), .val (.int p2), .val (.int ((hh + (hh <<< ((3 : Int32) &&& 31))) ^^^ (XT.ushr (hh + (hh <<< ((3 : Int32) &&& 31))) (11 : Int32)))), .val (.int (Int32.ofNat i))] [(.int (((hh + (hh <<< ((3 : Int32) &&& 31))) ^^^ (XT.ushr (hh + (hh <<< ((3 : Int32) &&& 31))) (11 : Int32))) <<< ((15 : Int32) &&& 31))), (.int ((hh + (hh <<< ((3 : Int32) &&& 31))) ^^^ (XT.ushr (hh + (hh <<< ((3 : Int32) &&& 31))) (11 : Int32))))])) (fun t k => XS.ishl X0.here hx rfl (hb hby d4_52) rfl k) ?_
      refine Gl.st (g' := (mkF m 54 #[.val (.ref p1), .val (.int p2), .val (.int ((hh + (hh <<< ((3 : Int32) &&& 31))) ^^^ (XT.ushr (hh + (hh <<< ((3 : Int32) &&& 31))) (11 : Int32)))), .val (.int (Int32.ofNat i))] [(.int (((hh + (hh <<< ((3 : Int32) &&& 31))) ^^^ (XT.ushr (hh + (hh <<< ((3 : Int32) &&& 31))) (11 : Int32))) + (((hh + (hh <<< ((3 : Int32) &&& 31))) ^^^ (XT.ushr (hh + (hh <<< ((3 : Int32) &&& 31))) (11 : Int32))) <<< ((15 : Int32) &&& 31))))])) (fun t k => XS.iadd X0.here hx rfl (hb hby d4_53) rfl k) ?_
      refine Gl.st (g' := (mkF m 55 #[.val (.ref p1), .val (.int p2), .val (.int (((hh + (hh <<< ((3 : Int32) &&& 31))) ^^^ (XT.ushr (hh + (hh <<< ((3 : Int32) &&& 31))) (11 : Int32))) + (((hh + (hh <<< ((3 : Int32) &&& 31))) ^^^ (XT.ushr (hh + (hh <<< ((3 : Int32) &&& 31))) (11 : Int32))) <<< ((15 : Int32) &&& 31)))), .val (.int (Int32.ofNat i))] [])) (fun t k => XS.istoreN X0.here hx rfl (hb hby d4_54) rfl (l' := #[.val (.ref p1), .val (.int p2), .val (.int (((hh + (hh <<< ((3 : Int32) &&& 31))) ^^^ (XT.ushr (hh + (hh <<< ((3 : Int32) &&& 31))) (11 : Int32))) + (((hh + (hh <<< ((3 : Int32) &&& 31))) ^^^ (XT.ushr (hh + (hh <<< ((3 : Int32) &&& 31))) (11 : Int32))) <<< ((15 : Int32) &&& 31)))), .val (.int (Int32.ofNat i))]) rfl k) ?_
      refine Gl.st (g' := (mkF m 56 #[.val (.ref p1), .val (.int p2), .val (.int (((hh + (hh <<< ((3 : Int32) &&& 31))) ^^^ (XT.ushr (hh + (hh <<< ((3 : Int32) &&& 31))) (11 : Int32))) + (((hh + (hh <<< ((3 : Int32) &&& 31))) ^^^ (XT.ushr (hh + (hh <<< ((3 : Int32) &&& 31))) (11 : Int32))) <<< ((15 : Int32) &&& 31)))), .val (.int (Int32.ofNat i))] [(.int (((hh + (hh <<< ((3 : Int32) &&& 31))) ^^^ (XT.ushr (hh + (hh <<< ((3 : Int32) &&& 31))) (11 : Int32))) + (((hh + (hh <<< ((3 : Int32) &&& 31))) ^^^ (XT.ushr (hh + (hh <<< ((3 : Int32) &&& 31))) (11 : Int32))) <<< ((15 : Int32) &&& 31))))])) (fun t k => XS.iloadN X0.here hx rfl (hb hby d4_55) rfl k) ?_
      obtain ⟨_, _, ⟨T1, L1, k1, n1⟩, -, X1, ⟨Lc1, hQ1, l1, y1, z1⟩, st1⟩ := Jvm.LawKit.callS X0 hx (y := (⟨"java/lang/Integer", "toUnsignedLong", "(I)J"⟩ : MethodName)) hown (mvT hZ (hw _ (List.mem_of_getElem? (i := 11) rfl))) (mvT hZ (hw _ (List.mem_of_getElem? (i := 12) rfl))) (mvT hZ (hw _ (List.mem_of_getElem? (i := 13) rfl))) (mvT hZ (hw _ (List.mem_of_getElem? (i := 14) rfl))) (by decide) (backOf (W := 0) (rm1 l Z a0 hw (((hh + (hh <<< ((3 : Int32) &&& 31))) ^^^ (XT.ushr (hh + (hh <<< ((3 : Int32) &&& 31))) (11 : Int32))) + (((hh + (hh <<< ((3 : Int32) &&& 31))) ^^^ (XT.ushr (hh + (hh <<< ((3 : Int32) &&& 31))) (11 : Int32))) <<< ((15 : Int32) &&& 31)))  h0 n0 Z0 ) hZ (hw _ (List.mem_of_getElem? (i := 14) rfl)) (hw _ (List.mem_of_getElem? (i := 13) rfl)) (by decide) (by decide)) (g := (mkF m 56 #[.val (.ref p1), .val (.int p2), .val (.int (((hh + (hh <<< ((3 : Int32) &&& 31))) ^^^ (XT.ushr (hh + (hh <<< ((3 : Int32) &&& 31))) (11 : Int32))) + (((hh + (hh <<< ((3 : Int32) &&& 31))) ^^^ (XT.ushr (hh + (hh <<< ((3 : Int32) &&& 31))) (11 : Int32))) <<< ((15 : Int32) &&& 31)))), .val (.int (Int32.ofNat i))] [(.int (((hh + (hh <<< ((3 : Int32) &&& 31))) ^^^ (XT.ushr (hh + (hh <<< ((3 : Int32) &&& 31))) (11 : Int32))) + (((hh + (hh <<< ((3 : Int32) &&& 31))) ^^^ (XT.ushr (hh + (hh <<< ((3 : Int32) &&& 31))) (11 : Int32))) <<< ((15 : Int32) &&& 31))))])) rfl (by rw [hml]; rfl) (argsL := [(.int (((hh + (hh <<< ((3 : Int32) &&& 31))) ^^^ (XT.ushr (hh + (hh <<< ((3 : Int32) &&& 31))) (11 : Int32))) + (((hh + (hh <<< ((3 : Int32) &&& 31))) ^^^ (XT.ushr (hh + (hh <<< ((3 : Int32) &&& 31))) (11 : Int32))) <<< ((15 : Int32) &&& 31))))]) (rest := []) (lenOf pd_0 rfl) rfl (by show 2 * 0 + _ ≤ _; exact Nat.le_of_eq rfl) (hb hby d4_56) (fun _ _ => ⟨rfl, e0, (by decide : 0 + 0 ≤ _), (by decide : 0 + 0 ≤ _)⟩)
      dsimp only [Pt.U, Pt.locs, Pt.cells, Pt.slots] at X1 l1 y1 z1 st1 hQ1
      subst l1 y1 z1
      obtain ⟨rfl, Nq1, e1⟩ := hQ1
      have N1 := Fr.app N0 Nq1
      refine Gl.st (g' := (mkF m 59 #[.val (.ref p1), .val (.int p2), .val (.int (((hh + (hh <<< ((3 : Int32) &&& 31))) ^^^ (XT.ushr (hh + (hh <<< ((3 : Int32) &&& 31))) (11 : Int32))) + (((hh + (hh <<< ((3 : Int32) &&& 31))) ^^^ (XT.ushr (hh + (hh <<< ((3 : Int32) &&& 31))) (11 : Int32))) <<< ((15 : Int32) &&& 31)))), .val (.int (Int32.ofNat i))] [(.long (own_ul (((hh + (hh <<< ((3 : Int32) &&& 31))) ^^^ (XT.ushr (hh + (hh <<< ((3 : Int32) &&& 31))) (11 : Int32))) + (((hh + (hh <<< ((3 : Int32) &&& 31))) ^^^ (XT.ushr (hh + (hh <<< ((3 : Int32) &&& 31))) (11 : Int32))) <<< ((15 : Int32) &&& 31)))))])) st1 ?_
      refine Gl.retL X1 hx hlk Bd.returns (hb hby d4_59) e1 (by decide) (by decide) ?_
      exact ⟨by rw [hf0]; rfl, N1, rfl⟩
    | succ k ih =>
      intro i hh hik hf
      refine Gl.st (g' := (mkF m 5 #[.val (.ref p1), .val (.int p2), .val (.int hh), .val (.int (Int32.ofNat i))] [(.int (Int32.ofNat i))])) (fun t k => XS.iloadN X0.here hx rfl (hb hby d4_4) rfl k) ?_
      refine Gl.st (g' := (mkF m 6 #[.val (.ref p1), .val (.int p2), .val (.int hh), .val (.int (Int32.ofNat i))] [(.int p2), (.int (Int32.ofNat i))])) (fun t k => XS.iloadN X0.here hx rfl (hb hby d4_5) rfl k) ?_
      refine Gl.st (g' := (mkF m 9 #[.val (.ref p1), .val (.int p2), .val (.int hh), .val (.int (Int32.ofNat i))] [])) (fun t k => XS.icmpNo X0.here hx rfl (hb hby d4_6) rfl (XT.ii_ge_f (own_il rfl hn (by omega) (by omega))) k) ?_
      refine Gl.st (g' := (mkF m 10 #[.val (.ref p1), .val (.int p2), .val (.int hh), .val (.int (Int32.ofNat i))] [(.int hh)])) (fun t k => XS.iloadN X0.here hx rfl (hb hby d4_9) rfl k) ?_
      refine Gl.st (g' := (mkF m 11 #[.val (.ref p1), .val (.int p2), .val (.int hh), .val (.int (Int32.ofNat i))] [(.ref p1), (.int hh)])) (fun t k => XS.aloadN X0.here hx rfl (hb hby d4_10) rfl rfl k) ?_
      refine Gl.st (g' := (mkF m 12 #[.val (.ref p1), .val (.int p2), .val (.int hh), .val (.int (Int32.ofNat i))] [(.int (Int32.ofNat i)), (.ref p1), (.int hh)])) (fun t k => XS.iloadN X0.here hx rfl (hb hby d4_11) rfl k) ?_
      refine Gl.st (g' := (mkF m 13 #[.val (.ref p1), .val (.int p2), .val (.int hh), .val (.int (Int32.ofNat i))] [(.int (ys.getD i 0)), (.int hh)])) (own_ldB X0 hx hZ e0 F (j := (Int32.ofNat i)) (v := (.int (ys.getD i 0))) ⟨own_ge0 (by omega), own_il rfl hz (by omega) hs⟩ (own_get ys (by omega)) (g := (mkF m 12 #[.val (.ref p1), .val (.int p2), .val (.int hh), .val (.int (Int32.ofNat i))] [(.int (Int32.ofNat i)), (.ref p1), (.int hh)])) rfl rfl (hb hby d4_12)) ?_
      refine Gl.st (g' := (mkF m 14 #[.val (.ref p1), .val (.int p2), .val (.int hh), .val (.int (Int32.ofNat i))] [(.int (hh + (ys.getD i 0)))])) (fun t k => XS.iadd X0.here hx rfl (hb hby d4_13) rfl k) ?_
      refine Gl.st (g' := (mkF m 15 #[.val (.ref p1), .val (.int p2), .val (.int (hh + (ys.getD i 0))), .val (.int (Int32.ofNat i))] [])) (fun t k => XS.istoreN X0.here hx rfl (hb hby d4_14) rfl (l' := #[.val (.ref p1), .val (.int p2), .val (.int (hh + (ys.getD i 0))), .val (.int (Int32.ofNat i))]) rfl k) ?_
      refine Gl.st (g' := (mkF m 16 #[.val (.ref p1), .val (.int p2), .val (.int (hh + (ys.getD i 0))), .val (.int (Int32.ofNat i))] [(.int (hh + (ys.getD i 0)))])) (fun t k => XS.iloadN X0.here hx rfl (hb hby d4_15) rfl k) ?_
      refine Gl.st (g' := (mkF m 17 #[.val (.ref p1), .val (.int p2), .val (.int (hh + (ys.getD i 0))), .val (.int (Int32.ofNat i))] [(.int (hh + (ys.getD i 0))), (.int (hh + (ys.getD i 0)))])) (fun t k => XS.iloadN X0.here hx rfl (hb hby d4_16) rfl k) ?_
      refine Gl.st (g' := (mkF m 19 #[.val (.ref p1), .val (.int p2), .val (.int (hh + (ys.getD i 0))), .val (.int (Int32.ofNat i))] [(.int (10 : Int32)), (.int (hh + (ys.getD i 0))), (.int (hh + (ys.getD i 0)))])) (fun t k => XT.bipushV X0.here hx rfl (10 : Int32) (hb hby d4_17) rfl k) ?_
      refine Gl.st (g' := (mkF m 20 #[.val (.ref p1), .val (.int p2), .val (.int (hh + (ys.getD i 0))), .val (.int (Int32.ofNat i))] [(.int ((hh + (ys.getD i 0)) <<< ((10 : Int32) &&& 31))), (.int (hh + (ys.getD i 0)))])) (fun t k => XS.ishl X0.here hx rfl (hb hby d4_19) rfl k) ?_
      refine Gl.st (g' := (mkF m 21 #[.val (.ref p1), .val (.int p2), .val (.int (hh + (ys.getD i 0))), .val (.int (Int32.ofNat i))] [(.int ((hh + (ys.getD i 0)) + ((hh + (ys.getD i 0)) <<< ((10 : Int32) &&& 31))))])) (fun t k => XS.iadd X0.here hx rfl (hb hby d4_20) rfl k) ?_
      refine Gl.st (g' := (mkF m 22 #[.val (.ref p1), .val (.int p2), .val (.int ((hh + (ys.getD i 0)) + ((hh + (ys.getD i 0)) <<< ((10 : Int32) &&& 31)))), .val (.int (Int32.ofNat i))] [])) (fun t k => XS.istoreN X0.here hx rfl (hb hby d4_21) rfl (l' := #[.val (.ref p1), .val (.int p2), .val (.int ((hh + (ys.getD i 0)) + ((hh + (ys.getD i 0)) <<< ((10 : Int32) &&& 31)))), .val (.int (Int32.ofNat i))]) rfl k) ?_
      refine Gl.st (g' := (mkF m 23 #[.val (.ref p1), .val (.int p2), .val (.int ((hh + (ys.getD i 0)) + ((hh + (ys.getD i 0)) <<< ((10 : Int32) &&& 31)))), .val (.int (Int32.ofNat i))] [(.int ((hh + (ys.getD i 0)) + ((hh + (ys.getD i 0)) <<< ((10 : Int32) &&& 31))))])) (fun t k => XS.iloadN X0.here hx rfl (hb hby d4_22) rfl k) ?_
      refine Gl.st (g' := (mkF m 24 #[.val (.ref p1), .val (.int p2), .val (.int ((hh + (ys.getD i 0)) + ((hh + (ys.getD i 0)) <<< ((10 : Int32) &&& 31)))), .val (.int (Int32.ofNat i))] [(.int ((hh + (ys.getD i 0)) + ((hh + (ys.getD i 0)) <<< ((10 : Int32) &&& 31)))), (.int ((hh + (ys.getD i 0)) + ((hh + (ys.getD i 0)) <<< ((10 : Int32) &&& 31))))])) (fun t k => XS.iloadN X0.here hx rfl (hb hby d4_23) rfl k) ?_
      refine Gl.st (g' := (mkF m 26 #[.val (.ref p1), .val (.int p2), .val (.int ((hh + (ys.getD i 0)) + ((hh + (ys.getD i 0)) <<< ((10 : Int32) &&& 31)))), .val (.int (Int32.ofNat i))] [(.int (6 : Int32)), (.int ((hh + (ys.getD i 0)) + ((hh + (ys.getD i 0)) <<< ((10 : Int32) &&& 31)))), (.int ((hh + (ys.getD i 0)) + ((hh + (ys.getD i 0)) <<< ((10 : Int32) &&& 31))))])) (fun t k => XT.bipushV X0.here hx rfl (6 : Int32) (hb hby d4_24) rfl k) ?_
      refine Gl.st (g' := (mkF m 27 #[.val (.ref p1), .val (.int p2), .val (.int ((hh + (ys.getD i 0)) + ((hh + (ys.getD i 0)) <<< ((10 : Int32) &&& 31)))), .val (.int (Int32.ofNat i))] [(.int (XT.ushr ((hh + (ys.getD i 0)) + ((hh + (ys.getD i 0)) <<< ((10 : Int32) &&& 31))) (6 : Int32))), (.int ((hh + (ys.getD i 0)) + ((hh + (ys.getD i 0)) <<< ((10 : Int32) &&& 31))))])) (fun t k => XT.iushr X0.here hx rfl (hb hby d4_26) rfl k) ?_
      refine Gl.st (g' := (mkF m 28 #[.val (.ref p1), .val (.int p2), .val (.int ((hh + (ys.getD i 0)) + ((hh + (ys.getD i 0)) <<< ((10 : Int32) &&& 31)))), .val (.int (Int32.ofNat i))] [(.int (((hh + (ys.getD i 0)) + ((hh + (ys.getD i 0)) <<< ((10 : Int32) &&& 31))) ^^^ (XT.ushr ((hh + (ys.getD i 0)) + ((hh + (ys.getD i 0)) <<< ((10 : Int32) &&& 31))) (6 : Int32))))])) (fun t k => XS.ixor X0.here hx rfl (hb hby d4_27) rfl k) ?_
      refine Gl.st (g' := (mkF m 29 #[.val (.ref p1), .val (.int p2), .val (.int (((hh + (ys.getD i 0)) + ((hh + (ys.getD i 0)) <<< ((10 : Int32) &&& 31))) ^^^ (XT.ushr ((hh + (ys.getD i 0)) + ((hh + (ys.getD i 0)) <<< ((10 : Int32) &&& 31))) (6 : Int32)))), .val (.int (Int32.ofNat i))] [])) (fun t k => XS.istoreN X0.here hx rfl (hb hby d4_28) rfl (l' := #[.val (.ref p1), .val (.int p2), .val (.int (((hh + (ys.getD i 0)) + ((hh + (ys.getD i 0)) <<< ((10 : Int32) &&& 31))) ^^^ (XT.ushr ((hh + (ys.getD i 0)) + ((hh + (ys.getD i 0)) <<< ((10 : Int32) &&& 31))) (6 : Int32)))), .val (.int (Int32.ofNat i))]) rfl k) ?_
      refine Gl.st (g' := (mkF m 32 #[.val (.ref p1), .val (.int p2), .val (.int (((hh + (ys.getD i 0)) + ((hh + (ys.getD i 0)) <<< ((10 : Int32) &&& 31))) ^^^ (XT.ushr ((hh + (ys.getD i 0)) + ((hh + (ys.getD i 0)) <<< ((10 : Int32) &&& 31))) (6 : Int32)))), .val (.int ((Int32.ofNat i) + (1 : Int32)))] [])) (fun t k => XT.iincV X0.here hx rfl (1 : Int32) (hb hby d4_29) rfl rfl rfl k) ?_
      refine Gl.st (g' := (mkF m 4 #[.val (.ref p1), .val (.int p2), .val (.int (((hh + (ys.getD i 0)) + ((hh + (ys.getD i 0)) <<< ((10 : Int32) &&& 31))) ^^^ (XT.ushr ((hh + (ys.getD i 0)) + ((hh + (ys.getD i 0)) <<< ((10 : Int32) &&& 31))) (6 : Int32)))), .val (.int ((Int32.ofNat i) + (1 : Int32)))] [])) (fun t k => XS.goto X0.here hx rfl (pc0 := 32) (pc' := 4) rfl (hb hby d4_32) (by decide) (by decide) k) ?_
      rw [own_inc i]
      exact ih (i + 1) (own_st hh (ys.getD i 0)) (by omega) (own_turn hl hik hf)
  exact loop nn 0 0 (by omega) (by simp)
theorem pd_2 : parseMethodDescriptor "([BI)J" = some ⟨[(.array .byte), .int], some .long⟩ := by decide +kernel
theorem ef_0 (m : MethodId) (p1 : Int32) (p2 : Int32) (p3 : Int32) (p4 : Int32) (p5 : Int32) (p6 : Int32) : entryFrame m #[(.int p1), (.int p2), (.int p3), (.int p4), (.int p5), (.int p6)] maxLocals = mkF m 0 #[.val (.int p1), .val (.int p2), .val (.int p3), .val (.int p4), .val (.int p5), .val (.int p6), .unset, .unset, .unset, .unset, .unset, .unset, .unset, .unset] [] := by first | (simp [entryFrame, mkF, argsToLocals, Value.category, maxLocals]; done) | rfl
def Q0 (Z : State) (p1 : Int32) (p2 : Int32) (p3 : Int32) (p4 : Int32) (p5 : Int32) (p6 : Int32)  (h0 : Heap) (n0 : Nat) (v : Option Value) (h : Heap) (L : List Loc) : Prop := v = some (.int 1) ∧ Fr n0 L
set_option maxRecDepth 65536 in
set_option maxHeartbeats 40000000 in
theorem rm0 (l : Launch) (Z : State) (a0 : Array Value) (hw : ∀ d ∈ tables_1, d.before a0 Z = true) (ws : List Jvm.Cond) (p1 : Int32) (p2 : Int32) (p3 : Int32) (p4 : Int32) (p5 : Int32) (p6 : Int32)  (h0 : Heap) (n0 : Nat) (Z0 : n0 ≤ h0.size)  :
    MetFree l x (head1 (Jvm.Cond.code x code maxLocals ret :: ws) room_1) (fun a U => a = #[(.int p1), (.int p2), (.int p3), (.int p4), (.int p5), (.int p6)] ∧ Z.Warmed39 U.vm ∧ U.heap = h0) (fun _ _ _ _ _ => True) (fun _ U o U' => ∃ v L, o = .returned v ∧ Q0 Z p1 p2 p3 p4 p5 p6  h0 n0 v U'.heap L ∧ FrameEnd U o U' L 16 128) := by
  refine MetFree.of_bodySF (plainFor_of_name pn_1) hisR ?_
  intro p e s m args below meth c s₁ Bd hml0 hP hK
  obtain ⟨rfl, hZ, hh⟩ := hP
  have hx := Bd.exec
  have hby := Bd.bytes
  have hlk : meth.locks = false := Bd.notSynchronized
  have hml : c.maxLocals = 14 := hml0
  have hown : s.vm.findClass "keyhalo/KeyHashOneAtATimePinLaw" = some m.cls := findClass_of_methodNamed Bd.named
  have hnm := (name_of_methodNamed Bd.named Bd.method).1
  have X0 : Stand p l e room_1 s m #[(.int p1), (.int p2), (.int p3), (.int p4), (.int p5), (.int p6)] below meth c s₁ [] 0 0 := Stand.of_body Bd
  have e0 : s₁.heap = h0 := by rw [← hh, Bd.state]; rfl
  have N0 := Fr.nil n0
  show Gl p e below s (Q0 Z p1 p2 p3 p4 p5 p6  h0 n0) 16 128 s₁ (entryFrame m #[(.int p1), (.int p2), (.int p3), (.int p4), (.int p5), (.int p6)] maxLocals)
  rw [ef_0 m p1 p2 p3 p4 p5 p6]
  refine Gl.st (g' := (mkF m 1 #[.val (.int p1), .val (.int p2), .val (.int p3), .val (.int p4), .val (.int p5), .val (.int p6), .unset, .unset, .unset, .unset, .unset, .unset, .unset, .unset] [(.int (5 : Int32))])) (fun t k => XT.iconstV X0.here hx rfl (5 : Int32) (hb hby at_0) rfl k) ?_
  obtain ⟨T2, h2, cA2, X2, e2, E2, A2, st2⟩ := newP X0 hx hZ (hw _ (List.mem_of_getElem? (i := 0) rfl)) e0 (g := (mkF m 1 #[.val (.int p1), .val (.int p2), .val (.int p3), .val (.int p4), .val (.int p5), .val (.int p6), .unset, .unset, .unset, .unset, .unset, .unset, .unset, .unset] [(.int (5 : Int32))])) rfl (hb hby at_1) rfl (by decide) (cap := 5) (by decide) (by decide) (by decide) (by decide)
  obtain ⟨a2, g2⟩ : ∃ z, z = h0.size := ⟨_, rfl⟩
  have ge2 : n0 ≤ a2 := Nat.le_trans Z0 (Nat.le_of_eq g2.symm)
  rw [← g2] at A2 st2
  have Z2 : n0 ≤ h2.size := Nat.le_trans Z0 E2.1
  have V2 : Arv Z h2 a2 cA2 .byte (5 : Int32) [(.int (0 : Int32)), (.int (0 : Int32)), (.int (0 : Int32)), (.int (0 : Int32)), (.int (0 : Int32))] (.int (0 : Int32)) := (Arv.new A2 (by decide)).pad (pad_rep [] _ 5)
  refine Gl.st (g' := (mkF m 3 #[.val (.int p1), .val (.int p2), .val (.int p3), .val (.int p4), .val (.int p5), .val (.int p6), .unset, .unset, .unset, .unset, .unset, .unset, .unset, .unset] [(.ref a2)])) st2 ?_
  refine Gl.st (g' := (mkF m 5 #[.val (.int p1), .val (.int p2), .val (.int p3), .val (.int p4), .val (.int p5), .val (.int p6), .val (.ref a2), .unset, .unset, .unset, .unset, .unset, .unset, .unset] [])) (fun t k => XS.astore X2.here hx rfl (hb hby at_3) rfl rfl (l' := #[.val (.int p1), .val (.int p2), .val (.int p3), .val (.int p4), .val (.int p5), .val (.int p6), .val (.ref a2), .unset, .unset, .unset, .unset, .unset, .unset, .unset]) rfl k) ?_
  refine Gl.st (g' := (mkF m 7 #[.val (.int p1), .val (.int p2), .val (.int p3), .val (.int p4), .val (.int p5), .val (.int p6), .val (.ref a2), .unset, .unset, .unset, .unset, .unset, .unset, .unset] [(.ref a2)])) (fun t k => XS.aload X2.here hx rfl (hb hby at_5) rfl rfl k) ?_
  refine Gl.st (g' := (mkF m 8 #[.val (.int p1), .val (.int p2), .val (.int p3), .val (.int p4), .val (.int p5), .val (.int p6), .val (.ref a2), .unset, .unset, .unset, .unset, .unset, .unset, .unset] [(.int (0 : Int32)), (.ref a2)])) (fun t k => XT.iconstV X2.here hx rfl (0 : Int32) (hb hby at_7) rfl k) ?_
  refine Gl.st (g' := (mkF m 9 #[.val (.int p1), .val (.int p2), .val (.int p3), .val (.int p4), .val (.int p5), .val (.int p6), .val (.ref a2), .unset, .unset, .unset, .unset, .unset, .unset, .unset] [(.int p1), (.int (0 : Int32)), (.ref a2)])) (fun t k => XS.iloadN X2.here hx rfl (hb hby at_8) rfl k) ?_
  refine Gl.st (g' := (mkF m 10 #[.val (.int p1), .val (.int p2), .val (.int p3), .val (.int p4), .val (.int p5), .val (.int p6), .val (.ref a2), .unset, .unset, .unset, .unset, .unset, .unset, .unset] [(.int (p1.toInt8.toInt32)), (.int (0 : Int32)), (.ref a2)])) (fun t k => XS.i2b X2.here hx rfl (hb hby at_9) rfl k) ?_
  obtain ⟨T3, h3, b3, X3, e3, W3, hb3, V3, st3⟩ := own_stB X2 hx hZ e2 V2 (j := (0 : Int32)) (by decide) 0 (by decide) (by decide : 0 < 5) (g := (mkF m 10 #[.val (.int p1), .val (.int p2), .val (.int p3), .val (.int p4), .val (.int p5), .val (.int p6), .val (.ref a2), .unset, .unset, .unset, .unset, .unset, .unset, .unset] [(.int (p1.toInt8.toInt32)), (.int (0 : Int32)), (.ref a2)])) rfl rfl (hb hby at_10)
  have N3 := Fr.snoc X3 N0 ge2
  have Z3 : n0 ≤ h3.size := Nat.le_trans Z2 (Keep.of_wr W3).1
  change Arv Z h3 a2 cA2 .byte (5 : Int32) [(.int b3), (.int (0 : Int32)), (.int (0 : Int32)), (.int (0 : Int32)), (.int (0 : Int32))] (.int (0 : Int32)) at V3
  refine Gl.st (g' := (mkF m 11 #[.val (.int p1), .val (.int p2), .val (.int p3), .val (.int p4), .val (.int p5), .val (.int p6), .val (.ref a2), .unset, .unset, .unset, .unset, .unset, .unset, .unset] [])) st3 ?_
  refine Gl.st (g' := (mkF m 13 #[.val (.int p1), .val (.int p2), .val (.int p3), .val (.int p4), .val (.int p5), .val (.int p6), .val (.ref a2), .unset, .unset, .unset, .unset, .unset, .unset, .unset] [(.ref a2)])) (fun t k => XS.aload X3.here hx rfl (hb hby at_11) rfl rfl k) ?_
  refine Gl.st (g' := (mkF m 14 #[.val (.int p1), .val (.int p2), .val (.int p3), .val (.int p4), .val (.int p5), .val (.int p6), .val (.ref a2), .unset, .unset, .unset, .unset, .unset, .unset, .unset] [(.int (1 : Int32)), (.ref a2)])) (fun t k => XT.iconstV X3.here hx rfl (1 : Int32) (hb hby at_13) rfl k) ?_
  refine Gl.st (g' := (mkF m 15 #[.val (.int p1), .val (.int p2), .val (.int p3), .val (.int p4), .val (.int p5), .val (.int p6), .val (.ref a2), .unset, .unset, .unset, .unset, .unset, .unset, .unset] [(.int p2), (.int (1 : Int32)), (.ref a2)])) (fun t k => XS.iloadN X3.here hx rfl (hb hby at_14) rfl k) ?_
  refine Gl.st (g' := (mkF m 16 #[.val (.int p1), .val (.int p2), .val (.int p3), .val (.int p4), .val (.int p5), .val (.int p6), .val (.ref a2), .unset, .unset, .unset, .unset, .unset, .unset, .unset] [(.int (p2.toInt8.toInt32)), (.int (1 : Int32)), (.ref a2)])) (fun t k => XS.i2b X3.here hx rfl (hb hby at_15) rfl k) ?_
  obtain ⟨T4, h4, b4, X4, e4, W4, hb4, V4, st4⟩ := own_stB X3 hx hZ e3 V3 (j := (1 : Int32)) (by decide) 1 (by decide) (by decide : 1 < 5) (g := (mkF m 16 #[.val (.int p1), .val (.int p2), .val (.int p3), .val (.int p4), .val (.int p5), .val (.int p6), .val (.ref a2), .unset, .unset, .unset, .unset, .unset, .unset, .unset] [(.int (p2.toInt8.toInt32)), (.int (1 : Int32)), (.ref a2)])) rfl rfl (hb hby at_16)
  have N4 := Fr.snoc X4 N3 ge2
  have Z4 : n0 ≤ h4.size := Nat.le_trans Z3 (Keep.of_wr W4).1
  change Arv Z h4 a2 cA2 .byte (5 : Int32) [(.int b3), (.int b4), (.int (0 : Int32)), (.int (0 : Int32)), (.int (0 : Int32))] (.int (0 : Int32)) at V4
  refine Gl.st (g' := (mkF m 17 #[.val (.int p1), .val (.int p2), .val (.int p3), .val (.int p4), .val (.int p5), .val (.int p6), .val (.ref a2), .unset, .unset, .unset, .unset, .unset, .unset, .unset] [])) st4 ?_
  refine Gl.st (g' := (mkF m 19 #[.val (.int p1), .val (.int p2), .val (.int p3), .val (.int p4), .val (.int p5), .val (.int p6), .val (.ref a2), .unset, .unset, .unset, .unset, .unset, .unset, .unset] [(.ref a2)])) (fun t k => XS.aload X4.here hx rfl (hb hby at_17) rfl rfl k) ?_
  refine Gl.st (g' := (mkF m 20 #[.val (.int p1), .val (.int p2), .val (.int p3), .val (.int p4), .val (.int p5), .val (.int p6), .val (.ref a2), .unset, .unset, .unset, .unset, .unset, .unset, .unset] [(.int (2 : Int32)), (.ref a2)])) (fun t k => XT.iconstV X4.here hx rfl (2 : Int32) (hb hby at_19) rfl k) ?_
  refine Gl.st (g' := (mkF m 21 #[.val (.int p1), .val (.int p2), .val (.int p3), .val (.int p4), .val (.int p5), .val (.int p6), .val (.ref a2), .unset, .unset, .unset, .unset, .unset, .unset, .unset] [(.int p3), (.int (2 : Int32)), (.ref a2)])) (fun t k => XS.iloadN X4.here hx rfl (hb hby at_20) rfl k) ?_
  refine Gl.st (g' := (mkF m 22 #[.val (.int p1), .val (.int p2), .val (.int p3), .val (.int p4), .val (.int p5), .val (.int p6), .val (.ref a2), .unset, .unset, .unset, .unset, .unset, .unset, .unset] [(.int (p3.toInt8.toInt32)), (.int (2 : Int32)), (.ref a2)])) (fun t k => XS.i2b X4.here hx rfl (hb hby at_21) rfl k) ?_
  obtain ⟨T5, h5, b5, X5, e5, W5, hb5, V5, st5⟩ := own_stB X4 hx hZ e4 V4 (j := (2 : Int32)) (by decide) 2 (by decide) (by decide : 2 < 5) (g := (mkF m 22 #[.val (.int p1), .val (.int p2), .val (.int p3), .val (.int p4), .val (.int p5), .val (.int p6), .val (.ref a2), .unset, .unset, .unset, .unset, .unset, .unset, .unset] [(.int (p3.toInt8.toInt32)), (.int (2 : Int32)), (.ref a2)])) rfl rfl (hb hby at_22)
  have N5 := Fr.snoc X5 N4 ge2
  have Z5 : n0 ≤ h5.size := Nat.le_trans Z4 (Keep.of_wr W5).1
  change Arv Z h5 a2 cA2 .byte (5 : Int32) [(.int b3), (.int b4), (.int b5), (.int (0 : Int32)), (.int (0 : Int32))] (.int (0 : Int32)) at V5
  refine Gl.st (g' := (mkF m 23 #[.val (.int p1), .val (.int p2), .val (.int p3), .val (.int p4), .val (.int p5), .val (.int p6), .val (.ref a2), .unset, .unset, .unset, .unset, .unset, .unset, .unset] [])) st5 ?_
  refine Gl.st (g' := (mkF m 25 #[.val (.int p1), .val (.int p2), .val (.int p3), .val (.int p4), .val (.int p5), .val (.int p6), .val (.ref a2), .unset, .unset, .unset, .unset, .unset, .unset, .unset] [(.ref a2)])) (fun t k => XS.aload X5.here hx rfl (hb hby at_23) rfl rfl k) ?_
  refine Gl.st (g' := (mkF m 26 #[.val (.int p1), .val (.int p2), .val (.int p3), .val (.int p4), .val (.int p5), .val (.int p6), .val (.ref a2), .unset, .unset, .unset, .unset, .unset, .unset, .unset] [(.int (3 : Int32)), (.ref a2)])) (fun t k => XT.iconstV X5.here hx rfl (3 : Int32) (hb hby at_25) rfl k) ?_
  refine Gl.st (g' := (mkF m 27 #[.val (.int p1), .val (.int p2), .val (.int p3), .val (.int p4), .val (.int p5), .val (.int p6), .val (.ref a2), .unset, .unset, .unset, .unset, .unset, .unset, .unset] [(.int p4), (.int (3 : Int32)), (.ref a2)])) (fun t k => XS.iloadN X5.here hx rfl (hb hby at_26) rfl k) ?_
  refine Gl.st (g' := (mkF m 28 #[.val (.int p1), .val (.int p2), .val (.int p3), .val (.int p4), .val (.int p5), .val (.int p6), .val (.ref a2), .unset, .unset, .unset, .unset, .unset, .unset, .unset] [(.int (p4.toInt8.toInt32)), (.int (3 : Int32)), (.ref a2)])) (fun t k => XS.i2b X5.here hx rfl (hb hby at_27) rfl k) ?_
  obtain ⟨T6, h6, b6, X6, e6, W6, hb6, V6, st6⟩ := own_stB X5 hx hZ e5 V5 (j := (3 : Int32)) (by decide) 3 (by decide) (by decide : 3 < 5) (g := (mkF m 28 #[.val (.int p1), .val (.int p2), .val (.int p3), .val (.int p4), .val (.int p5), .val (.int p6), .val (.ref a2), .unset, .unset, .unset, .unset, .unset, .unset, .unset] [(.int (p4.toInt8.toInt32)), (.int (3 : Int32)), (.ref a2)])) rfl rfl (hb hby at_28)
  have N6 := Fr.snoc X6 N5 ge2
  have Z6 : n0 ≤ h6.size := Nat.le_trans Z5 (Keep.of_wr W6).1
  change Arv Z h6 a2 cA2 .byte (5 : Int32) [(.int b3), (.int b4), (.int b5), (.int b6), (.int (0 : Int32))] (.int (0 : Int32)) at V6
  refine Gl.st (g' := (mkF m 29 #[.val (.int p1), .val (.int p2), .val (.int p3), .val (.int p4), .val (.int p5), .val (.int p6), .val (.ref a2), .unset, .unset, .unset, .unset, .unset, .unset, .unset] [])) st6 ?_
  refine Gl.st (g' := (mkF m 31 #[.val (.int p1), .val (.int p2), .val (.int p3), .val (.int p4), .val (.int p5), .val (.int p6), .val (.ref a2), .unset, .unset, .unset, .unset, .unset, .unset, .unset] [(.ref a2)])) (fun t k => XS.aload X6.here hx rfl (hb hby at_29) rfl rfl k) ?_
  refine Gl.st (g' := (mkF m 32 #[.val (.int p1), .val (.int p2), .val (.int p3), .val (.int p4), .val (.int p5), .val (.int p6), .val (.ref a2), .unset, .unset, .unset, .unset, .unset, .unset, .unset] [(.int (4 : Int32)), (.ref a2)])) (fun t k => XT.iconstV X6.here hx rfl (4 : Int32) (hb hby at_31) rfl k) ?_
  refine Gl.st (g' := (mkF m 34 #[.val (.int p1), .val (.int p2), .val (.int p3), .val (.int p4), .val (.int p5), .val (.int p6), .val (.ref a2), .unset, .unset, .unset, .unset, .unset, .unset, .unset] [(.int p6), (.int (4 : Int32)), (.ref a2)])) (fun t k => XS.iload X6.here hx rfl (hb hby at_32) rfl k) ?_
  refine Gl.st (g' := (mkF m 35 #[.val (.int p1), .val (.int p2), .val (.int p3), .val (.int p4), .val (.int p5), .val (.int p6), .val (.ref a2), .unset, .unset, .unset, .unset, .unset, .unset, .unset] [(.int (p6.toInt8.toInt32)), (.int (4 : Int32)), (.ref a2)])) (fun t k => XS.i2b X6.here hx rfl (hb hby at_34) rfl k) ?_
  obtain ⟨T7, h7, b7, X7, e7, W7, hb7, V7, st7⟩ := own_stB X6 hx hZ e6 V6 (j := (4 : Int32)) (by decide) 4 (by decide) (by decide : 4 < 5) (g := (mkF m 35 #[.val (.int p1), .val (.int p2), .val (.int p3), .val (.int p4), .val (.int p5), .val (.int p6), .val (.ref a2), .unset, .unset, .unset, .unset, .unset, .unset, .unset] [(.int (p6.toInt8.toInt32)), (.int (4 : Int32)), (.ref a2)])) rfl rfl (hb hby at_35)
  have N7 := Fr.snoc X7 N6 ge2
  have Z7 : n0 ≤ h7.size := Nat.le_trans Z6 (Keep.of_wr W7).1
  change Arv Z h7 a2 cA2 .byte (5 : Int32) [(.int b3), (.int b4), (.int b5), (.int b6), (.int b7)] (.int (0 : Int32)) at V7
  refine Gl.st (g' := (mkF m 36 #[.val (.int p1), .val (.int p2), .val (.int p3), .val (.int p4), .val (.int p5), .val (.int p6), .val (.ref a2), .unset, .unset, .unset, .unset, .unset, .unset, .unset] [])) st7 ?_
  refine Gl.st (g' := (mkF m 38 #[.val (.int p1), .val (.int p2), .val (.int p3), .val (.int p4), .val (.int p5), .val (.int p6), .val (.ref a2), .unset, .unset, .unset, .unset, .unset, .unset, .unset] [(.int p5)])) (fun t k => XS.iload X7.here hx rfl (hb hby at_36) rfl k) ?_
  refine Gl.st (g' := (mkF m 40 #[.val (.int p1), .val (.int p2), .val (.int p3), .val (.int p4), .val (.int p5), .val (.int p6), .val (.ref a2), .unset, .unset, .unset, .unset, .unset, .unset, .unset] [(.int (7 : Int32)), (.int p5)])) (fun t k => XT.bipushV X7.here hx rfl (7 : Int32) (hb hby at_38) rfl k) ?_
  refine Gl.st (g' := (mkF m 41 #[.val (.int p1), .val (.int p2), .val (.int p3), .val (.int p4), .val (.int p5), .val (.int p6), .val (.ref a2), .unset, .unset, .unset, .unset, .unset, .unset, .unset] [(.int (p5 &&& (7 : Int32)))])) (fun t k => XS.iand X7.here hx rfl (hb hby at_40) rfl k) ?_
  refine Gl.st (g' := (mkF m 42 #[.val (.int p1), .val (.int p2), .val (.int p3), .val (.int p4), .val (.int p5), .val (.int p6), .val (.ref a2), .unset, .unset, .unset, .unset, .unset, .unset, .unset] [(.int (5 : Int32)), (.int (p5 &&& (7 : Int32)))])) (fun t k => XT.iconstV X7.here hx rfl (5 : Int32) (hb hby at_41) rfl k) ?_
  refine Gl.st (g' := (mkF m 43 #[.val (.int p1), .val (.int p2), .val (.int p3), .val (.int p4), .val (.int p5), .val (.int p6), .val (.ref a2), .unset, .unset, .unset, .unset, .unset, .unset, .unset] [(.int ((p5 &&& (7 : Int32)) % (5 : Int32)))])) (fun t k => iremM X7 hx rfl (hb hby at_42) rfl (by decide) k) ?_
  generalize hv8 : ((p5 &&& (7 : Int32)) % (5 : Int32)) = v8
  refine Gl.st (g' := (mkF m 45 #[.val (.int p1), .val (.int p2), .val (.int p3), .val (.int p4), .val (.int p5), .val (.int p6), .val (.ref a2), .val (.int v8), .unset, .unset, .unset, .unset, .unset, .unset] [])) (fun t k => XS.istore X7.here hx rfl (hb hby at_43) rfl (l' := #[.val (.int p1), .val (.int p2), .val (.int p3), .val (.int p4), .val (.int p5), .val (.int p6), .val (.ref a2), .val (.int v8), .unset, .unset, .unset, .unset, .unset, .unset]) rfl k) ?_
  have hN := own_n hv8
  refine Gl.st (g' := (mkF m 46 #[.val (.int p1), .val (.int p2), .val (.int p3), .val (.int p4), .val (.int p5), .val (.int p6), .val (.ref a2), .val (.int v8), .unset, .unset, .unset, .unset, .unset, .unset] [(.int (0 : Int32))])) (fun t k => XT.iconstV X7.here hx rfl (0 : Int32) (hb hby at_45) rfl k) ?_
  refine Gl.st (g' := (mkF m 48 #[.val (.int p1), .val (.int p2), .val (.int p3), .val (.int p4), .val (.int p5), .val (.int p6), .val (.ref a2), .val (.int v8), .val (.int (0 : Int32)), .unset, .unset, .unset, .unset, .unset] [])) (fun t k => XS.istore X7.here hx rfl (hb hby at_46) rfl (l' := #[.val (.int p1), .val (.int p2), .val (.int p3), .val (.int p4), .val (.int p5), .val (.int p6), .val (.ref a2), .val (.int v8), .val (.int (0 : Int32)), .unset, .unset, .unset, .unset, .unset]) rfl k) ?_
  refine Gl.st (g' := (mkF m 50 #[.val (.int p1), .val (.int p2), .val (.int p3), .val (.int p4), .val (.int p5), .val (.int p6), .val (.ref a2), .val (.int v8), .val (.int (0 : Int32)), .unset, .unset, .unset, .unset, .unset] [(.int v8)])) (fun t k => XS.iload X7.here hx rfl (hb hby at_48) rfl k) ?_
  refine Gl.st (g' := (mkF m 51 #[.val (.int p1), .val (.int p2), .val (.int p3), .val (.int p4), .val (.int p5), .val (.int p6), .val (.ref a2), .val (.int v8), .val (.int (0 : Int32)), .unset, .unset, .unset, .unset, .unset] [(.int (1 : Int32)), (.int v8)])) (fun t k => XT.iconstV X7.here hx rfl (1 : Int32) (hb hby at_50) rfl k) ?_
  by_cases c9 : v8 < (1 : Int32)
  · skip
    refine Gl.st (g' := (mkF m 65 #[.val (.int p1), .val (.int p2), .val (.int p3), .val (.int p4), .val (.int p5), .val (.int p6), .val (.ref a2), .val (.int v8), .val (.int (0 : Int32)), .unset, .unset, .unset, .unset, .unset] [])) (fun t k => XS.icmpYes X7.here hx rfl (pc0 := 51) (pc' := 65) rfl (hb hby at_51) rfl (XT.ii_lt_t c9) (by decide) (by decide) k) ?_
    refine Gl.st (g' := (mkF m 67 #[.val (.int p1), .val (.int p2), .val (.int p3), .val (.int p4), .val (.int p5), .val (.int p6), .val (.ref a2), .val (.int v8), .val (.int (0 : Int32)), .unset, .unset, .unset, .unset, .unset] [(.int v8)])) (fun t k => XS.iload X7.here hx rfl (hb hby at_65) rfl k) ?_
    refine Gl.st (g' := (mkF m 68 #[.val (.int p1), .val (.int p2), .val (.int p3), .val (.int p4), .val (.int p5), .val (.int p6), .val (.ref a2), .val (.int v8), .val (.int (0 : Int32)), .unset, .unset, .unset, .unset, .unset] [(.int (2 : Int32)), (.int v8)])) (fun t k => XT.iconstV X7.here hx rfl (2 : Int32) (hb hby at_67) rfl k) ?_
    refine Gl.st (g' := (mkF m 82 #[.val (.int p1), .val (.int p2), .val (.int p3), .val (.int p4), .val (.int p5), .val (.int p6), .val (.ref a2), .val (.int v8), .val (.int (0 : Int32)), .unset, .unset, .unset, .unset, .unset] [])) (fun t k => XS.icmpYes X7.here hx rfl (pc0 := 68) (pc' := 82) rfl (hb hby at_68) rfl (XT.ii_lt_t (own_up c9 (by decide))) (by decide) (by decide) k) ?_
    refine Gl.st (g' := (mkF m 84 #[.val (.int p1), .val (.int p2), .val (.int p3), .val (.int p4), .val (.int p5), .val (.int p6), .val (.ref a2), .val (.int v8), .val (.int (0 : Int32)), .unset, .unset, .unset, .unset, .unset] [(.int v8)])) (fun t k => XS.iload X7.here hx rfl (hb hby at_82) rfl k) ?_
    refine Gl.st (g' := (mkF m 85 #[.val (.int p1), .val (.int p2), .val (.int p3), .val (.int p4), .val (.int p5), .val (.int p6), .val (.ref a2), .val (.int v8), .val (.int (0 : Int32)), .unset, .unset, .unset, .unset, .unset] [(.int (3 : Int32)), (.int v8)])) (fun t k => XT.iconstV X7.here hx rfl (3 : Int32) (hb hby at_84) rfl k) ?_
    refine Gl.st (g' := (mkF m 99 #[.val (.int p1), .val (.int p2), .val (.int p3), .val (.int p4), .val (.int p5), .val (.int p6), .val (.ref a2), .val (.int v8), .val (.int (0 : Int32)), .unset, .unset, .unset, .unset, .unset] [])) (fun t k => XS.icmpYes X7.here hx rfl (pc0 := 85) (pc' := 99) rfl (hb hby at_85) rfl (XT.ii_lt_t (own_up c9 (by decide))) (by decide) (by decide) k) ?_
    refine Gl.st (g' := (mkF m 101 #[.val (.int p1), .val (.int p2), .val (.int p3), .val (.int p4), .val (.int p5), .val (.int p6), .val (.ref a2), .val (.int v8), .val (.int (0 : Int32)), .unset, .unset, .unset, .unset, .unset] [(.int v8)])) (fun t k => XS.iload X7.here hx rfl (hb hby at_99) rfl k) ?_
    refine Gl.st (g' := (mkF m 102 #[.val (.int p1), .val (.int p2), .val (.int p3), .val (.int p4), .val (.int p5), .val (.int p6), .val (.ref a2), .val (.int v8), .val (.int (0 : Int32)), .unset, .unset, .unset, .unset, .unset] [(.int (4 : Int32)), (.int v8)])) (fun t k => XT.iconstV X7.here hx rfl (4 : Int32) (hb hby at_101) rfl k) ?_
    refine Gl.st (g' := (mkF m 116 #[.val (.int p1), .val (.int p2), .val (.int p3), .val (.int p4), .val (.int p5), .val (.int p6), .val (.ref a2), .val (.int v8), .val (.int (0 : Int32)), .unset, .unset, .unset, .unset, .unset] [])) (fun t k => XS.icmpYes X7.here hx rfl (pc0 := 102) (pc' := 116) rfl (hb hby at_102) rfl (XT.ii_lt_t (own_up c9 (by decide))) (by decide) (by decide) k) ?_
    refine Gl.st (g' := (mkF m 118 #[.val (.int p1), .val (.int p2), .val (.int p3), .val (.int p4), .val (.int p5), .val (.int p6), .val (.ref a2), .val (.int v8), .val (.int (0 : Int32)), .unset, .unset, .unset, .unset, .unset] [(.int (0 : Int32))])) (fun t k => XS.iload X7.here hx rfl (hb hby at_116) rfl k) ?_
    obtain ⟨_, _, ⟨T10, L10, k10, n10⟩, -, X10, ⟨Lc10, hQ10, l10, y10, z10⟩, st10⟩ := Jvm.LawKit.callS X7 hx (y := (⟨"keyhalo/KeyHashOneAtATimePinLaw", "fin", "(I)J"⟩ : MethodName)) hown (mvT hZ (hw _ (List.mem_of_getElem? (i := 1) rfl))) (mvT hZ (hw _ (List.mem_of_getElem? (i := 2) rfl))) (mvT hZ (hw _ (List.mem_of_getElem? (i := 3) rfl))) (mvT hZ (hw _ (List.mem_of_getElem? (i := 4) rfl))) (by decide) (backOf (W := 0) (rm3 l Z a0 hw (0 : Int32)  h7 n0 Z7 ) hZ (hw _ (List.mem_of_getElem? (i := 4) rfl)) (hw _ (List.mem_of_getElem? (i := 3) rfl)) (by decide) (by decide)) (g := (mkF m 118 #[.val (.int p1), .val (.int p2), .val (.int p3), .val (.int p4), .val (.int p5), .val (.int p6), .val (.ref a2), .val (.int v8), .val (.int (0 : Int32)), .unset, .unset, .unset, .unset, .unset] [(.int (0 : Int32))])) rfl (by rw [hml]; rfl) (argsL := [(.int (0 : Int32))]) (rest := []) (lenOf pd_0 rfl) rfl (by show 2 * 0 + _ ≤ _; exact Nat.le_of_eq rfl) (hb hby at_118) (fun _ _ => ⟨rfl, e7, (by decide : 0 + 1 + 0 ≤ _), (by decide : 0 + 5 + 0 ≤ _)⟩)
    dsimp only [Pt.U, Pt.locs, Pt.cells, Pt.slots] at X10 l10 y10 z10 st10 hQ10
    subst l10 y10 z10
    obtain ⟨rfl, Nq10, e10⟩ := hQ10
    have N10 := Fr.app N7 Nq10
    refine Gl.st (g' := (mkF m 121 #[.val (.int p1), .val (.int p2), .val (.int p3), .val (.int p4), .val (.int p5), .val (.int p6), .val (.ref a2), .val (.int v8), .val (.int (0 : Int32)), .unset, .unset, .unset, .unset, .unset] [(.long (own_finL (0 : Int32)))])) st10 ?_
    generalize hv11 : (own_finL (0 : Int32)) = v11
    refine Gl.st (g' := (mkF m 123 #[.val (.int p1), .val (.int p2), .val (.int p3), .val (.int p4), .val (.int p5), .val (.int p6), .val (.ref a2), .val (.int v8), .val (.int (0 : Int32)), .val (.long v11), .second, .unset, .unset, .unset] [])) (fun t k => XS.lstore X10.here hx rfl (hb hby at_121) rfl (l' := #[.val (.int p1), .val (.int p2), .val (.int p3), .val (.int p4), .val (.int p5), .val (.int p6), .val (.ref a2), .val (.int v8), .val (.int (0 : Int32)), .val (.long v11), .second, .unset, .unset, .unset]) rfl k) ?_
    refine Gl.st (g' := (mkF m 125 #[.val (.int p1), .val (.int p2), .val (.int p3), .val (.int p4), .val (.int p5), .val (.int p6), .val (.ref a2), .val (.int v8), .val (.int (0 : Int32)), .val (.long v11), .second, .unset, .unset, .unset] [(.ref a2)])) (fun t k => XS.aload X10.here hx rfl (hb hby at_123) rfl rfl k) ?_
    refine Gl.st (g' := (mkF m 127 #[.val (.int p1), .val (.int p2), .val (.int p3), .val (.int p4), .val (.int p5), .val (.int p6), .val (.ref a2), .val (.int v8), .val (.int (0 : Int32)), .val (.long v11), .second, .unset, .unset, .unset] [(.int v8), (.ref a2)])) (fun t k => XS.iload X10.here hx rfl (hb hby at_125) rfl k) ?_
    obtain ⟨_, _, ⟨T12, L12, k12, n12⟩, -, X12, ⟨Lc12, hQ12, l12, y12, z12⟩, st12⟩ := Jvm.LawKit.callS X10 hx (y := (⟨"keyhalo/KeyHash", "oneAtATime", "([BI)J"⟩ : MethodName)) hown (mvT hZ (hw _ (List.mem_of_getElem? (i := 7) rfl))) (mvT hZ (hw _ (List.mem_of_getElem? (i := 8) rfl))) (mvT hZ (hw _ (List.mem_of_getElem? (i := 9) rfl))) (mvT hZ (hw _ (List.mem_of_getElem? (i := 10) rfl))) (by decide) (backOf (W := 0) (rm4 l Z a0 hw a2 v8 [b3, b4, b5, b6, b7] 0 cA2 (5 : Int32) h7 n0 Z7 V7 (own_pin (0 : Int32) hN.1 c9 (by decide)) (by decide : 0 ≤ 5) rfl (by decide : 5 ≤ 16)) hZ (hw _ (List.mem_of_getElem? (i := 10) rfl)) (hw _ (List.mem_of_getElem? (i := 9) rfl)) (by decide) (by decide)) (g := (mkF m 127 #[.val (.int p1), .val (.int p2), .val (.int p3), .val (.int p4), .val (.int p5), .val (.int p6), .val (.ref a2), .val (.int v8), .val (.int (0 : Int32)), .val (.long v11), .second, .unset, .unset, .unset] [(.int v8), (.ref a2)])) rfl (by rw [hml]; rfl) (argsL := [(.ref a2), (.int v8)]) (rest := []) (lenOf pd_2 rfl) rfl (by show 2 * 0 + _ ≤ _; exact Nat.le_of_eq rfl) (hb hby at_127) (fun _ _ => ⟨rfl, e10, (by decide : 0 + 1 + 0 + 0 ≤ _), (by decide : 0 + 5 + 0 + 0 ≤ _)⟩)
    dsimp only [Pt.U, Pt.locs, Pt.cells, Pt.slots] at X12 l12 y12 z12 st12 hQ12
    subst l12 y12 z12
    obtain ⟨rfl, Nq12, e12⟩ := hQ12
    have N12 := Fr.app N10 Nq12
    refine Gl.st (g' := (mkF m 130 #[.val (.int p1), .val (.int p2), .val (.int p3), .val (.int p4), .val (.int p5), .val (.int p6), .val (.ref a2), .val (.int v8), .val (.int (0 : Int32)), .val (.long v11), .second, .unset, .unset, .unset] [(.long (own_oat [b3, b4, b5, b6, b7] 0))])) st12 ?_
    refine Gl.st (g' := (mkF m 132 #[.val (.int p1), .val (.int p2), .val (.int p3), .val (.int p4), .val (.int p5), .val (.int p6), .val (.ref a2), .val (.int v8), .val (.int (0 : Int32)), .val (.long v11), .second, .unset, .unset, .unset] [(.long v11), (.long (own_oat [b3, b4, b5, b6, b7] 0))])) (fun t k => XS.lload X12.here hx rfl (hb hby at_130) rfl k) ?_
    refine Gl.st (g' := (mkF m 133 #[.val (.int p1), .val (.int p2), .val (.int p3), .val (.int p4), .val (.int p5), .val (.int p6), .val (.ref a2), .val (.int v8), .val (.int (0 : Int32)), .val (.long v11), .second, .unset, .unset, .unset] [(.int (XT.cmpL (own_oat [b3, b4, b5, b6, b7] 0) v11))])) (fun t k => XT.lcmp X12.here hx rfl (hb hby at_132) rfl k) ?_
    refine Gl.st (g' := (mkF m 136 #[.val (.int p1), .val (.int p2), .val (.int p3), .val (.int p4), .val (.int p5), .val (.int p6), .val (.ref a2), .val (.int v8), .val (.int (0 : Int32)), .val (.long v11), .second, .unset, .unset, .unset] [])) (fun t k => XS.ifNo X12.here hx rfl (hb hby at_133) rfl (XT.ll_ne_f ((own_oat_eq _ _).trans (by subst hv11; rfl))) k) ?_
    refine Gl.st (g' := (mkF m 137 #[.val (.int p1), .val (.int p2), .val (.int p3), .val (.int p4), .val (.int p5), .val (.int p6), .val (.ref a2), .val (.int v8), .val (.int (0 : Int32)), .val (.long v11), .second, .unset, .unset, .unset] [(.int (1 : Int32))])) (fun t k => XT.iconstV X12.here hx rfl (1 : Int32) (hb hby at_136) rfl k) ?_
    refine Gl.st (g' := (mkF m 141 #[.val (.int p1), .val (.int p2), .val (.int p3), .val (.int p4), .val (.int p5), .val (.int p6), .val (.ref a2), .val (.int v8), .val (.int (0 : Int32)), .val (.long v11), .second, .unset, .unset, .unset] [(.int (1 : Int32))])) (fun t k => XS.goto X12.here hx rfl (pc0 := 137) (pc' := 141) rfl (hb hby at_137) (by decide) (by decide) k) ?_
    refine Gl.st (g' := (mkF m 143 #[.val (.int p1), .val (.int p2), .val (.int p3), .val (.int p4), .val (.int p5), .val (.int p6), .val (.ref a2), .val (.int v8), .val (.int (0 : Int32)), .val (.long v11), .second, .val (.int (1 : Int32)), .unset, .unset] [])) (fun t k => XS.istore X12.here hx rfl (hb hby at_141) rfl (l' := #[.val (.int p1), .val (.int p2), .val (.int p3), .val (.int p4), .val (.int p5), .val (.int p6), .val (.ref a2), .val (.int v8), .val (.int (0 : Int32)), .val (.long v11), .second, .val (.int (1 : Int32)), .unset, .unset]) rfl k) ?_
    refine Gl.st (g' := (mkF m 144 #[.val (.int p1), .val (.int p2), .val (.int p3), .val (.int p4), .val (.int p5), .val (.int p6), .val (.ref a2), .val (.int v8), .val (.int (0 : Int32)), .val (.long v11), .second, .val (.int (1 : Int32)), .unset, .unset] [(.int (1 : Int32))])) (fun t k => XT.iconstV X12.here hx rfl (1 : Int32) (hb hby at_143) rfl k) ?_
    obtain ⟨T13, h13, cA13, X13, e13, E13, A13, st13⟩ := newP X12 hx hZ (hw _ (List.mem_of_getElem? (i := 0) rfl)) e12 (g := (mkF m 144 #[.val (.int p1), .val (.int p2), .val (.int p3), .val (.int p4), .val (.int p5), .val (.int p6), .val (.ref a2), .val (.int v8), .val (.int (0 : Int32)), .val (.long v11), .second, .val (.int (1 : Int32)), .unset, .unset] [(.int (1 : Int32))])) rfl (hb hby at_144) rfl (by decide) (cap := 1) (by decide) (by decide) (by decide) (by decide)
    obtain ⟨a13, g13⟩ : ∃ z, z = h7.size := ⟨_, rfl⟩
    have ge13 : n0 ≤ a13 := Nat.le_trans Z7 (Nat.le_of_eq g13.symm)
    have ne_a2_13 : a2 ≠ a13 := fun q => absurd (g13 ▸ q ▸ (V7.lt : a2 < h7.size)) (Nat.lt_irrefl _)
    rw [← g13] at A13 st13
    have Z13 : n0 ≤ h13.size := Nat.le_trans Z7 E13.1
    have V13 : Arv Z h13 a13 cA13 .byte (1 : Int32) [(.int (0 : Int32))] (.int (0 : Int32)) := (Arv.new A13 (by decide)).pad (pad_rep [] _ 1)
    have V14 : Arv Z h13 a2 cA2 .byte (5 : Int32) [(.int b3), (.int b4), (.int b5), (.int b6), (.int b7)] (.int (0 : Int32)) := (V7.ext E13)
    refine Gl.st (g' := (mkF m 146 #[.val (.int p1), .val (.int p2), .val (.int p3), .val (.int p4), .val (.int p5), .val (.int p6), .val (.ref a2), .val (.int v8), .val (.int (0 : Int32)), .val (.long v11), .second, .val (.int (1 : Int32)), .unset, .unset] [(.ref a13)])) st13 ?_
    refine Gl.st (g' := (mkF m 148 #[.val (.int p1), .val (.int p2), .val (.int p3), .val (.int p4), .val (.int p5), .val (.int p6), .val (.ref a2), .val (.int v8), .val (.int (0 : Int32)), .val (.long v11), .second, .val (.int (1 : Int32)), .val (.ref a13), .unset] [])) (fun t k => XS.astore X13.here hx rfl (hb hby at_146) rfl rfl (l' := #[.val (.int p1), .val (.int p2), .val (.int p3), .val (.int p4), .val (.int p5), .val (.int p6), .val (.ref a2), .val (.int v8), .val (.int (0 : Int32)), .val (.long v11), .second, .val (.int (1 : Int32)), .val (.ref a13), .unset]) rfl k) ?_
    refine Gl.st (g' := (mkF m 150 #[.val (.int p1), .val (.int p2), .val (.int p3), .val (.int p4), .val (.int p5), .val (.int p6), .val (.ref a2), .val (.int v8), .val (.int (0 : Int32)), .val (.long v11), .second, .val (.int (1 : Int32)), .val (.ref a13), .unset] [(.ref a13)])) (fun t k => XS.aload X13.here hx rfl (hb hby at_148) rfl rfl k) ?_
    refine Gl.st (g' := (mkF m 151 #[.val (.int p1), .val (.int p2), .val (.int p3), .val (.int p4), .val (.int p5), .val (.int p6), .val (.ref a2), .val (.int v8), .val (.int (0 : Int32)), .val (.long v11), .second, .val (.int (1 : Int32)), .val (.ref a13), .unset] [(.int (0 : Int32)), (.ref a13)])) (fun t k => XT.iconstV X13.here hx rfl (0 : Int32) (hb hby at_150) rfl k) ?_
    refine Gl.st (g' := (mkF m 153 #[.val (.int p1), .val (.int p2), .val (.int p3), .val (.int p4), .val (.int p5), .val (.int p6), .val (.ref a2), .val (.int v8), .val (.int (0 : Int32)), .val (.long v11), .second, .val (.int (1 : Int32)), .val (.ref a13), .unset] [(.int (97 : Int32)), (.int (0 : Int32)), (.ref a13)])) (fun t k => XT.bipushV X13.here hx rfl (97 : Int32) (hb hby at_151) rfl k) ?_
    obtain ⟨T15, h15, b15, X15, e15, W15, hb15, V15, st15⟩ := own_stB X13 hx hZ e13 V13 (j := (0 : Int32)) (by decide) 0 (by decide) (by decide : 0 < 1) (g := (mkF m 153 #[.val (.int p1), .val (.int p2), .val (.int p3), .val (.int p4), .val (.int p5), .val (.int p6), .val (.ref a2), .val (.int v8), .val (.int (0 : Int32)), .val (.long v11), .second, .val (.int (1 : Int32)), .val (.ref a13), .unset] [(.int (97 : Int32)), (.int (0 : Int32)), (.ref a13)])) rfl rfl (hb hby at_153)
    have N15 := Fr.snoc X15 N12 ge13
    have Z15 : n0 ≤ h15.size := Nat.le_trans Z13 (Keep.of_wr W15).1
    change Arv Z h15 a13 cA13 .byte (1 : Int32) [(.int b15)] (.int (0 : Int32)) at V15
    have V16 : Arv Z h15 a2 cA2 .byte (5 : Int32) [(.int b3), (.int b4), (.int b5), (.int b6), (.int b7)] (.int (0 : Int32)) := (V14.other W15 ne_a2_13)
    refine Gl.st (g' := (mkF m 154 #[.val (.int p1), .val (.int p2), .val (.int p3), .val (.int p4), .val (.int p5), .val (.int p6), .val (.ref a2), .val (.int v8), .val (.int (0 : Int32)), .val (.long v11), .second, .val (.int (1 : Int32)), .val (.ref a13), .unset] [])) st15 ?_
    refine Gl.st (g' := (mkF m 156 #[.val (.int p1), .val (.int p2), .val (.int p3), .val (.int p4), .val (.int p5), .val (.int p6), .val (.ref a2), .val (.int v8), .val (.int (0 : Int32)), .val (.long v11), .second, .val (.int (1 : Int32)), .val (.ref a13), .unset] [(.ref a13)])) (fun t k => XS.aload X15.here hx rfl (hb hby at_154) rfl rfl k) ?_
    refine Gl.st (g' := (mkF m 157 #[.val (.int p1), .val (.int p2), .val (.int p3), .val (.int p4), .val (.int p5), .val (.int p6), .val (.ref a2), .val (.int v8), .val (.int (0 : Int32)), .val (.long v11), .second, .val (.int (1 : Int32)), .val (.ref a13), .unset] [(.int (1 : Int32)), (.ref a13)])) (fun t k => XT.iconstV X15.here hx rfl (1 : Int32) (hb hby at_156) rfl k) ?_
    obtain ⟨_, _, ⟨T17, L17, k17, n17⟩, -, X17, ⟨Lc17, hQ17, l17, y17, z17⟩, st17⟩ := Jvm.LawKit.callS X15 hx (y := (⟨"keyhalo/KeyHash", "oneAtATime", "([BI)J"⟩ : MethodName)) hown (mvT hZ (hw _ (List.mem_of_getElem? (i := 7) rfl))) (mvT hZ (hw _ (List.mem_of_getElem? (i := 8) rfl))) (mvT hZ (hw _ (List.mem_of_getElem? (i := 9) rfl))) (mvT hZ (hw _ (List.mem_of_getElem? (i := 10) rfl))) (by decide) (backOf (W := 0) (rm4 l Z a0 hw a13 (1 : Int32) [b15] 1 cA13 (1 : Int32) h15 n0 Z15 V15 rfl (by decide : 1 ≤ 1) rfl (by decide : 1 ≤ 16)) hZ (hw _ (List.mem_of_getElem? (i := 10) rfl)) (hw _ (List.mem_of_getElem? (i := 9) rfl)) (by decide) (by decide)) (g := (mkF m 157 #[.val (.int p1), .val (.int p2), .val (.int p3), .val (.int p4), .val (.int p5), .val (.int p6), .val (.ref a2), .val (.int v8), .val (.int (0 : Int32)), .val (.long v11), .second, .val (.int (1 : Int32)), .val (.ref a13), .unset] [(.int (1 : Int32)), (.ref a13)])) rfl (by rw [hml]; rfl) (argsL := [(.ref a13), (.int (1 : Int32))]) (rest := []) (lenOf pd_2 rfl) rfl (by show 2 * 0 + _ ≤ _; exact Nat.le_of_eq rfl) (hb hby at_157) (fun _ _ => ⟨rfl, e15, (by decide : 0 + 1 + 0 + 0 + 1 + 0 ≤ _), (by decide : 0 + 5 + 0 + 0 + 1 + 0 ≤ _)⟩)
    dsimp only [Pt.U, Pt.locs, Pt.cells, Pt.slots] at X17 l17 y17 z17 st17 hQ17
    subst l17 y17 z17
    obtain ⟨rfl, Nq17, e17⟩ := hQ17
    have N17 := Fr.app N15 Nq17
    refine Gl.st (g' := (mkF m 160 #[.val (.int p1), .val (.int p2), .val (.int p3), .val (.int p4), .val (.int p5), .val (.int p6), .val (.ref a2), .val (.int v8), .val (.int (0 : Int32)), .val (.long v11), .second, .val (.int (1 : Int32)), .val (.ref a13), .unset] [(.long (own_oat [b15] 1))])) st17 ?_
    refine Gl.st (g' := (mkF m 163 #[.val (.int p1), .val (.int p2), .val (.int p3), .val (.int p4), .val (.int p5), .val (.int p6), .val (.ref a2), .val (.int v8), .val (.int (0 : Int32)), .val (.long v11), .second, .val (.int (1 : Int32)), .val (.ref a13), .unset] [(.long (3392050242 : Int64)), (.long (own_oat [b15] 1))])) (fun t k => X17.ldc2J hx hown (mvT hZ (hw _ (List.mem_of_getElem? (i := 16) rfl))) rfl (hb hby at_160) k) ?_
    refine Gl.st (g' := (mkF m 164 #[.val (.int p1), .val (.int p2), .val (.int p3), .val (.int p4), .val (.int p5), .val (.int p6), .val (.ref a2), .val (.int v8), .val (.int (0 : Int32)), .val (.long v11), .second, .val (.int (1 : Int32)), .val (.ref a13), .unset] [(.int (XT.cmpL (own_oat [b15] 1) (3392050242 : Int64)))])) (fun t k => XT.lcmp X17.here hx rfl (hb hby at_163) rfl k) ?_
    refine Gl.st (g' := (mkF m 167 #[.val (.int p1), .val (.int p2), .val (.int p3), .val (.int p4), .val (.int p5), .val (.int p6), .val (.ref a2), .val (.int v8), .val (.int (0 : Int32)), .val (.long v11), .second, .val (.int (1 : Int32)), .val (.ref a13), .unset] [])) (fun t k => XS.ifNo X17.here hx rfl (hb hby at_164) rfl (XT.ll_ne_f (own_anchor hb15)) k) ?_
    refine Gl.st (g' := (mkF m 168 #[.val (.int p1), .val (.int p2), .val (.int p3), .val (.int p4), .val (.int p5), .val (.int p6), .val (.ref a2), .val (.int v8), .val (.int (0 : Int32)), .val (.long v11), .second, .val (.int (1 : Int32)), .val (.ref a13), .unset] [(.int (1 : Int32))])) (fun t k => XT.iconstV X17.here hx rfl (1 : Int32) (hb hby at_167) rfl k) ?_
    refine Gl.st (g' := (mkF m 172 #[.val (.int p1), .val (.int p2), .val (.int p3), .val (.int p4), .val (.int p5), .val (.int p6), .val (.ref a2), .val (.int v8), .val (.int (0 : Int32)), .val (.long v11), .second, .val (.int (1 : Int32)), .val (.ref a13), .unset] [(.int (1 : Int32))])) (fun t k => XS.goto X17.here hx rfl (pc0 := 168) (pc' := 172) rfl (hb hby at_168) (by decide) (by decide) k) ?_
    refine Gl.st (g' := (mkF m 174 #[.val (.int p1), .val (.int p2), .val (.int p3), .val (.int p4), .val (.int p5), .val (.int p6), .val (.ref a2), .val (.int v8), .val (.int (0 : Int32)), .val (.long v11), .second, .val (.int (1 : Int32)), .val (.ref a13), .val (.int (1 : Int32))] [])) (fun t k => XS.istore X17.here hx rfl (hb hby at_172) rfl (l' := #[.val (.int p1), .val (.int p2), .val (.int p3), .val (.int p4), .val (.int p5), .val (.int p6), .val (.ref a2), .val (.int v8), .val (.int (0 : Int32)), .val (.long v11), .second, .val (.int (1 : Int32)), .val (.ref a13), .val (.int (1 : Int32))]) rfl k) ?_
    refine Gl.st (g' := (mkF m 176 #[.val (.int p1), .val (.int p2), .val (.int p3), .val (.int p4), .val (.int p5), .val (.int p6), .val (.ref a2), .val (.int v8), .val (.int (0 : Int32)), .val (.long v11), .second, .val (.int (1 : Int32)), .val (.ref a13), .val (.int (1 : Int32))] [(.int (1 : Int32))])) (fun t k => XS.iload X17.here hx rfl (hb hby at_174) rfl k) ?_
    refine Gl.st (g' := (mkF m 179 #[.val (.int p1), .val (.int p2), .val (.int p3), .val (.int p4), .val (.int p5), .val (.int p6), .val (.ref a2), .val (.int v8), .val (.int (0 : Int32)), .val (.long v11), .second, .val (.int (1 : Int32)), .val (.ref a13), .val (.int (1 : Int32))] [])) (fun t k => XS.ifNo X17.here hx rfl (hb hby at_176) rfl (XT.i0_eq_f (by decide)) k) ?_
    refine Gl.st (g' := (mkF m 181 #[.val (.int p1), .val (.int p2), .val (.int p3), .val (.int p4), .val (.int p5), .val (.int p6), .val (.ref a2), .val (.int v8), .val (.int (0 : Int32)), .val (.long v11), .second, .val (.int (1 : Int32)), .val (.ref a13), .val (.int (1 : Int32))] [(.int (1 : Int32))])) (fun t k => XS.iload X17.here hx rfl (hb hby at_179) rfl k) ?_
    refine Gl.st (g' := (mkF m 184 #[.val (.int p1), .val (.int p2), .val (.int p3), .val (.int p4), .val (.int p5), .val (.int p6), .val (.ref a2), .val (.int v8), .val (.int (0 : Int32)), .val (.long v11), .second, .val (.int (1 : Int32)), .val (.ref a13), .val (.int (1 : Int32))] [])) (fun t k => XS.ifNo X17.here hx rfl (hb hby at_181) rfl (XT.i0_eq_f (by decide)) k) ?_
    refine Gl.st (g' := (mkF m 185 #[.val (.int p1), .val (.int p2), .val (.int p3), .val (.int p4), .val (.int p5), .val (.int p6), .val (.ref a2), .val (.int v8), .val (.int (0 : Int32)), .val (.long v11), .second, .val (.int (1 : Int32)), .val (.ref a13), .val (.int (1 : Int32))] [(.int (1 : Int32))])) (fun t k => XT.iconstV X17.here hx rfl (1 : Int32) (hb hby at_184) rfl k) ?_
    refine Gl.st (g' := (mkF m 189 #[.val (.int p1), .val (.int p2), .val (.int p3), .val (.int p4), .val (.int p5), .val (.int p6), .val (.ref a2), .val (.int v8), .val (.int (0 : Int32)), .val (.long v11), .second, .val (.int (1 : Int32)), .val (.ref a13), .val (.int (1 : Int32))] [(.int (1 : Int32))])) (fun t k => XS.goto X17.here hx rfl (pc0 := 185) (pc' := 189) rfl (hb hby at_185) (by decide) (by decide) k) ?_
    refine Gl.retZ X17 hx hlk .boolean (by simp) Bd.returns (hb hby at_189) e17 (by decide) (by decide) ?_
    rw [Q0, own_z1]
    exact ⟨rfl, N17⟩
  · skip
    refine Gl.st (g' := (mkF m 54 #[.val (.int p1), .val (.int p2), .val (.int p3), .val (.int p4), .val (.int p5), .val (.int p6), .val (.ref a2), .val (.int v8), .val (.int (0 : Int32)), .unset, .unset, .unset, .unset, .unset] [])) (fun t k => XS.icmpNo X7.here hx rfl (hb hby at_51) rfl (XT.ii_lt_f c9) k) ?_
    refine Gl.st (g' := (mkF m 56 #[.val (.int p1), .val (.int p2), .val (.int p3), .val (.int p4), .val (.int p5), .val (.int p6), .val (.ref a2), .val (.int v8), .val (.int (0 : Int32)), .unset, .unset, .unset, .unset, .unset] [(.int (0 : Int32))])) (fun t k => XS.iload X7.here hx rfl (hb hby at_54) rfl k) ?_
    refine Gl.st (g' := (mkF m 58 #[.val (.int p1), .val (.int p2), .val (.int p3), .val (.int p4), .val (.int p5), .val (.int p6), .val (.ref a2), .val (.int v8), .val (.int (0 : Int32)), .unset, .unset, .unset, .unset, .unset] [(.ref a2), (.int (0 : Int32))])) (fun t k => XS.aload X7.here hx rfl (hb hby at_56) rfl rfl k) ?_
    refine Gl.st (g' := (mkF m 59 #[.val (.int p1), .val (.int p2), .val (.int p3), .val (.int p4), .val (.int p5), .val (.int p6), .val (.ref a2), .val (.int v8), .val (.int (0 : Int32)), .unset, .unset, .unset, .unset, .unset] [(.int (0 : Int32)), (.ref a2), (.int (0 : Int32))])) (fun t k => XT.iconstV X7.here hx rfl (0 : Int32) (hb hby at_58) rfl k) ?_
    refine Gl.st (g' := (mkF m 60 #[.val (.int p1), .val (.int p2), .val (.int p3), .val (.int p4), .val (.int p5), .val (.int p6), .val (.ref a2), .val (.int v8), .val (.int (0 : Int32)), .unset, .unset, .unset, .unset, .unset] [(.int b3), (.int (0 : Int32))])) (own_ldB X7 hx hZ e7 V7 (j := (0 : Int32)) (v := (.int b3)) (by decide) rfl (g := (mkF m 59 #[.val (.int p1), .val (.int p2), .val (.int p3), .val (.int p4), .val (.int p5), .val (.int p6), .val (.ref a2), .val (.int v8), .val (.int (0 : Int32)), .unset, .unset, .unset, .unset, .unset] [(.int (0 : Int32)), (.ref a2), (.int (0 : Int32))])) rfl rfl (hb hby at_59)) ?_
    obtain ⟨_, _, ⟨T18, L18, k18, n18⟩, -, X18, ⟨Lc18, hQ18, l18, y18, z18⟩, st18⟩ := Jvm.LawKit.callS X7 hx (y := (⟨"keyhalo/KeyHashOneAtATimePinLaw", "step", "(IB)I"⟩ : MethodName)) hown (mvT hZ (hw _ (List.mem_of_getElem? (i := 17) rfl))) (mvT hZ (hw _ (List.mem_of_getElem? (i := 18) rfl))) (mvT hZ (hw _ (List.mem_of_getElem? (i := 3) rfl))) (mvT hZ (hw _ (List.mem_of_getElem? (i := 19) rfl))) (by decide) (backOf (W := 0) (rm2 l Z a0 hw (0 : Int32) b3  h7 n0 Z7 ) hZ (hw _ (List.mem_of_getElem? (i := 19) rfl)) (hw _ (List.mem_of_getElem? (i := 3) rfl)) (by decide) (by decide)) (g := (mkF m 60 #[.val (.int p1), .val (.int p2), .val (.int p3), .val (.int p4), .val (.int p5), .val (.int p6), .val (.ref a2), .val (.int v8), .val (.int (0 : Int32)), .unset, .unset, .unset, .unset, .unset] [(.int b3), (.int (0 : Int32))])) rfl (by rw [hml]; rfl) (argsL := [(.int (0 : Int32)), (.int b3)]) (rest := []) (lenOf pd_1 rfl) rfl (by show 2 * 0 + _ ≤ _; exact Nat.le_of_eq rfl) (hb hby at_60) (fun _ _ => ⟨rfl, e7, (by decide : 0 + 1 + 0 ≤ _), (by decide : 0 + 5 + 0 ≤ _)⟩)
    dsimp only [Pt.U, Pt.locs, Pt.cells, Pt.slots] at X18 l18 y18 z18 st18 hQ18
    subst l18 y18 z18
    obtain ⟨rfl, Nq18, e18⟩ := hQ18
    have N18 := Fr.app N7 Nq18
    refine Gl.st (g' := (mkF m 63 #[.val (.int p1), .val (.int p2), .val (.int p3), .val (.int p4), .val (.int p5), .val (.int p6), .val (.ref a2), .val (.int v8), .val (.int (0 : Int32)), .unset, .unset, .unset, .unset, .unset] [(.int (own_stL (0 : Int32) b3))])) st18 ?_
    generalize hv19 : (own_stL (0 : Int32) b3) = v19
    refine Gl.st (g' := (mkF m 65 #[.val (.int p1), .val (.int p2), .val (.int p3), .val (.int p4), .val (.int p5), .val (.int p6), .val (.ref a2), .val (.int v8), .val (.int v19), .unset, .unset, .unset, .unset, .unset] [])) (fun t k => XS.istore X18.here hx rfl (hb hby at_63) rfl (l' := #[.val (.int p1), .val (.int p2), .val (.int p3), .val (.int p4), .val (.int p5), .val (.int p6), .val (.ref a2), .val (.int v8), .val (.int v19), .unset, .unset, .unset, .unset, .unset]) rfl k) ?_
    refine Gl.st (g' := (mkF m 67 #[.val (.int p1), .val (.int p2), .val (.int p3), .val (.int p4), .val (.int p5), .val (.int p6), .val (.ref a2), .val (.int v8), .val (.int v19), .unset, .unset, .unset, .unset, .unset] [(.int v8)])) (fun t k => XS.iload X18.here hx rfl (hb hby at_65) rfl k) ?_
    refine Gl.st (g' := (mkF m 68 #[.val (.int p1), .val (.int p2), .val (.int p3), .val (.int p4), .val (.int p5), .val (.int p6), .val (.ref a2), .val (.int v8), .val (.int v19), .unset, .unset, .unset, .unset, .unset] [(.int (2 : Int32)), (.int v8)])) (fun t k => XT.iconstV X18.here hx rfl (2 : Int32) (hb hby at_67) rfl k) ?_
    by_cases c20 : v8 < (2 : Int32)
    · skip
      refine Gl.st (g' := (mkF m 82 #[.val (.int p1), .val (.int p2), .val (.int p3), .val (.int p4), .val (.int p5), .val (.int p6), .val (.ref a2), .val (.int v8), .val (.int v19), .unset, .unset, .unset, .unset, .unset] [])) (fun t k => XS.icmpYes X18.here hx rfl (pc0 := 68) (pc' := 82) rfl (hb hby at_68) rfl (XT.ii_lt_t c20) (by decide) (by decide) k) ?_
      refine Gl.st (g' := (mkF m 84 #[.val (.int p1), .val (.int p2), .val (.int p3), .val (.int p4), .val (.int p5), .val (.int p6), .val (.ref a2), .val (.int v8), .val (.int v19), .unset, .unset, .unset, .unset, .unset] [(.int v8)])) (fun t k => XS.iload X18.here hx rfl (hb hby at_82) rfl k) ?_
      refine Gl.st (g' := (mkF m 85 #[.val (.int p1), .val (.int p2), .val (.int p3), .val (.int p4), .val (.int p5), .val (.int p6), .val (.ref a2), .val (.int v8), .val (.int v19), .unset, .unset, .unset, .unset, .unset] [(.int (3 : Int32)), (.int v8)])) (fun t k => XT.iconstV X18.here hx rfl (3 : Int32) (hb hby at_84) rfl k) ?_
      refine Gl.st (g' := (mkF m 99 #[.val (.int p1), .val (.int p2), .val (.int p3), .val (.int p4), .val (.int p5), .val (.int p6), .val (.ref a2), .val (.int v8), .val (.int v19), .unset, .unset, .unset, .unset, .unset] [])) (fun t k => XS.icmpYes X18.here hx rfl (pc0 := 85) (pc' := 99) rfl (hb hby at_85) rfl (XT.ii_lt_t (own_up c20 (by decide))) (by decide) (by decide) k) ?_
      refine Gl.st (g' := (mkF m 101 #[.val (.int p1), .val (.int p2), .val (.int p3), .val (.int p4), .val (.int p5), .val (.int p6), .val (.ref a2), .val (.int v8), .val (.int v19), .unset, .unset, .unset, .unset, .unset] [(.int v8)])) (fun t k => XS.iload X18.here hx rfl (hb hby at_99) rfl k) ?_
      refine Gl.st (g' := (mkF m 102 #[.val (.int p1), .val (.int p2), .val (.int p3), .val (.int p4), .val (.int p5), .val (.int p6), .val (.ref a2), .val (.int v8), .val (.int v19), .unset, .unset, .unset, .unset, .unset] [(.int (4 : Int32)), (.int v8)])) (fun t k => XT.iconstV X18.here hx rfl (4 : Int32) (hb hby at_101) rfl k) ?_
      refine Gl.st (g' := (mkF m 116 #[.val (.int p1), .val (.int p2), .val (.int p3), .val (.int p4), .val (.int p5), .val (.int p6), .val (.ref a2), .val (.int v8), .val (.int v19), .unset, .unset, .unset, .unset, .unset] [])) (fun t k => XS.icmpYes X18.here hx rfl (pc0 := 102) (pc' := 116) rfl (hb hby at_102) rfl (XT.ii_lt_t (own_up c20 (by decide))) (by decide) (by decide) k) ?_
      refine Gl.st (g' := (mkF m 118 #[.val (.int p1), .val (.int p2), .val (.int p3), .val (.int p4), .val (.int p5), .val (.int p6), .val (.ref a2), .val (.int v8), .val (.int v19), .unset, .unset, .unset, .unset, .unset] [(.int v19)])) (fun t k => XS.iload X18.here hx rfl (hb hby at_116) rfl k) ?_
      obtain ⟨_, _, ⟨T21, L21, k21, n21⟩, -, X21, ⟨Lc21, hQ21, l21, y21, z21⟩, st21⟩ := Jvm.LawKit.callS X18 hx (y := (⟨"keyhalo/KeyHashOneAtATimePinLaw", "fin", "(I)J"⟩ : MethodName)) hown (mvT hZ (hw _ (List.mem_of_getElem? (i := 1) rfl))) (mvT hZ (hw _ (List.mem_of_getElem? (i := 2) rfl))) (mvT hZ (hw _ (List.mem_of_getElem? (i := 3) rfl))) (mvT hZ (hw _ (List.mem_of_getElem? (i := 4) rfl))) (by decide) (backOf (W := 0) (rm3 l Z a0 hw v19  h7 n0 Z7 ) hZ (hw _ (List.mem_of_getElem? (i := 4) rfl)) (hw _ (List.mem_of_getElem? (i := 3) rfl)) (by decide) (by decide)) (g := (mkF m 118 #[.val (.int p1), .val (.int p2), .val (.int p3), .val (.int p4), .val (.int p5), .val (.int p6), .val (.ref a2), .val (.int v8), .val (.int v19), .unset, .unset, .unset, .unset, .unset] [(.int v19)])) rfl (by rw [hml]; rfl) (argsL := [(.int v19)]) (rest := []) (lenOf pd_0 rfl) rfl (by show 2 * 0 + _ ≤ _; exact Nat.le_of_eq rfl) (hb hby at_118) (fun _ _ => ⟨rfl, e18, (by decide : 0 + 1 + 0 + 0 ≤ _), (by decide : 0 + 5 + 0 + 0 ≤ _)⟩)
      dsimp only [Pt.U, Pt.locs, Pt.cells, Pt.slots] at X21 l21 y21 z21 st21 hQ21
      subst l21 y21 z21
      obtain ⟨rfl, Nq21, e21⟩ := hQ21
      have N21 := Fr.app N18 Nq21
      refine Gl.st (g' := (mkF m 121 #[.val (.int p1), .val (.int p2), .val (.int p3), .val (.int p4), .val (.int p5), .val (.int p6), .val (.ref a2), .val (.int v8), .val (.int v19), .unset, .unset, .unset, .unset, .unset] [(.long (own_finL v19))])) st21 ?_
      generalize hv22 : (own_finL v19) = v22
      refine Gl.st (g' := (mkF m 123 #[.val (.int p1), .val (.int p2), .val (.int p3), .val (.int p4), .val (.int p5), .val (.int p6), .val (.ref a2), .val (.int v8), .val (.int v19), .val (.long v22), .second, .unset, .unset, .unset] [])) (fun t k => XS.lstore X21.here hx rfl (hb hby at_121) rfl (l' := #[.val (.int p1), .val (.int p2), .val (.int p3), .val (.int p4), .val (.int p5), .val (.int p6), .val (.ref a2), .val (.int v8), .val (.int v19), .val (.long v22), .second, .unset, .unset, .unset]) rfl k) ?_
      refine Gl.st (g' := (mkF m 125 #[.val (.int p1), .val (.int p2), .val (.int p3), .val (.int p4), .val (.int p5), .val (.int p6), .val (.ref a2), .val (.int v8), .val (.int v19), .val (.long v22), .second, .unset, .unset, .unset] [(.ref a2)])) (fun t k => XS.aload X21.here hx rfl (hb hby at_123) rfl rfl k) ?_
      refine Gl.st (g' := (mkF m 127 #[.val (.int p1), .val (.int p2), .val (.int p3), .val (.int p4), .val (.int p5), .val (.int p6), .val (.ref a2), .val (.int v8), .val (.int v19), .val (.long v22), .second, .unset, .unset, .unset] [(.int v8), (.ref a2)])) (fun t k => XS.iload X21.here hx rfl (hb hby at_125) rfl k) ?_
      obtain ⟨_, _, ⟨T23, L23, k23, n23⟩, -, X23, ⟨Lc23, hQ23, l23, y23, z23⟩, st23⟩ := Jvm.LawKit.callS X21 hx (y := (⟨"keyhalo/KeyHash", "oneAtATime", "([BI)J"⟩ : MethodName)) hown (mvT hZ (hw _ (List.mem_of_getElem? (i := 7) rfl))) (mvT hZ (hw _ (List.mem_of_getElem? (i := 8) rfl))) (mvT hZ (hw _ (List.mem_of_getElem? (i := 9) rfl))) (mvT hZ (hw _ (List.mem_of_getElem? (i := 10) rfl))) (by decide) (backOf (W := 0) (rm4 l Z a0 hw a2 v8 [b3, b4, b5, b6, b7] 1 cA2 (5 : Int32) h7 n0 Z7 V7 (own_pin (1 : Int32) c9 c20 (by decide)) (by decide : 1 ≤ 5) rfl (by decide : 5 ≤ 16)) hZ (hw _ (List.mem_of_getElem? (i := 10) rfl)) (hw _ (List.mem_of_getElem? (i := 9) rfl)) (by decide) (by decide)) (g := (mkF m 127 #[.val (.int p1), .val (.int p2), .val (.int p3), .val (.int p4), .val (.int p5), .val (.int p6), .val (.ref a2), .val (.int v8), .val (.int v19), .val (.long v22), .second, .unset, .unset, .unset] [(.int v8), (.ref a2)])) rfl (by rw [hml]; rfl) (argsL := [(.ref a2), (.int v8)]) (rest := []) (lenOf pd_2 rfl) rfl (by show 2 * 0 + _ ≤ _; exact Nat.le_of_eq rfl) (hb hby at_127) (fun _ _ => ⟨rfl, e21, (by decide : 0 + 1 + 0 + 0 + 0 ≤ _), (by decide : 0 + 5 + 0 + 0 + 0 ≤ _)⟩)
      dsimp only [Pt.U, Pt.locs, Pt.cells, Pt.slots] at X23 l23 y23 z23 st23 hQ23
      subst l23 y23 z23
      obtain ⟨rfl, Nq23, e23⟩ := hQ23
      have N23 := Fr.app N21 Nq23
      refine Gl.st (g' := (mkF m 130 #[.val (.int p1), .val (.int p2), .val (.int p3), .val (.int p4), .val (.int p5), .val (.int p6), .val (.ref a2), .val (.int v8), .val (.int v19), .val (.long v22), .second, .unset, .unset, .unset] [(.long (own_oat [b3, b4, b5, b6, b7] 1))])) st23 ?_
      refine Gl.st (g' := (mkF m 132 #[.val (.int p1), .val (.int p2), .val (.int p3), .val (.int p4), .val (.int p5), .val (.int p6), .val (.ref a2), .val (.int v8), .val (.int v19), .val (.long v22), .second, .unset, .unset, .unset] [(.long v22), (.long (own_oat [b3, b4, b5, b6, b7] 1))])) (fun t k => XS.lload X23.here hx rfl (hb hby at_130) rfl k) ?_
      refine Gl.st (g' := (mkF m 133 #[.val (.int p1), .val (.int p2), .val (.int p3), .val (.int p4), .val (.int p5), .val (.int p6), .val (.ref a2), .val (.int v8), .val (.int v19), .val (.long v22), .second, .unset, .unset, .unset] [(.int (XT.cmpL (own_oat [b3, b4, b5, b6, b7] 1) v22))])) (fun t k => XT.lcmp X23.here hx rfl (hb hby at_132) rfl k) ?_
      refine Gl.st (g' := (mkF m 136 #[.val (.int p1), .val (.int p2), .val (.int p3), .val (.int p4), .val (.int p5), .val (.int p6), .val (.ref a2), .val (.int v8), .val (.int v19), .val (.long v22), .second, .unset, .unset, .unset] [])) (fun t k => XS.ifNo X23.here hx rfl (hb hby at_133) rfl (XT.ll_ne_f ((own_oat_eq _ _).trans (by subst hv19 hv22; rfl))) k) ?_
      refine Gl.st (g' := (mkF m 137 #[.val (.int p1), .val (.int p2), .val (.int p3), .val (.int p4), .val (.int p5), .val (.int p6), .val (.ref a2), .val (.int v8), .val (.int v19), .val (.long v22), .second, .unset, .unset, .unset] [(.int (1 : Int32))])) (fun t k => XT.iconstV X23.here hx rfl (1 : Int32) (hb hby at_136) rfl k) ?_
      refine Gl.st (g' := (mkF m 141 #[.val (.int p1), .val (.int p2), .val (.int p3), .val (.int p4), .val (.int p5), .val (.int p6), .val (.ref a2), .val (.int v8), .val (.int v19), .val (.long v22), .second, .unset, .unset, .unset] [(.int (1 : Int32))])) (fun t k => XS.goto X23.here hx rfl (pc0 := 137) (pc' := 141) rfl (hb hby at_137) (by decide) (by decide) k) ?_
      refine Gl.st (g' := (mkF m 143 #[.val (.int p1), .val (.int p2), .val (.int p3), .val (.int p4), .val (.int p5), .val (.int p6), .val (.ref a2), .val (.int v8), .val (.int v19), .val (.long v22), .second, .val (.int (1 : Int32)), .unset, .unset] [])) (fun t k => XS.istore X23.here hx rfl (hb hby at_141) rfl (l' := #[.val (.int p1), .val (.int p2), .val (.int p3), .val (.int p4), .val (.int p5), .val (.int p6), .val (.ref a2), .val (.int v8), .val (.int v19), .val (.long v22), .second, .val (.int (1 : Int32)), .unset, .unset]) rfl k) ?_
      refine Gl.st (g' := (mkF m 144 #[.val (.int p1), .val (.int p2), .val (.int p3), .val (.int p4), .val (.int p5), .val (.int p6), .val (.ref a2), .val (.int v8), .val (.int v19), .val (.long v22), .second, .val (.int (1 : Int32)), .unset, .unset] [(.int (1 : Int32))])) (fun t k => XT.iconstV X23.here hx rfl (1 : Int32) (hb hby at_143) rfl k) ?_
      obtain ⟨T24, h24, cA24, X24, e24, E24, A24, st24⟩ := newP X23 hx hZ (hw _ (List.mem_of_getElem? (i := 0) rfl)) e23 (g := (mkF m 144 #[.val (.int p1), .val (.int p2), .val (.int p3), .val (.int p4), .val (.int p5), .val (.int p6), .val (.ref a2), .val (.int v8), .val (.int v19), .val (.long v22), .second, .val (.int (1 : Int32)), .unset, .unset] [(.int (1 : Int32))])) rfl (hb hby at_144) rfl (by decide) (cap := 1) (by decide) (by decide) (by decide) (by decide)
      obtain ⟨a24, g24⟩ : ∃ z, z = h7.size := ⟨_, rfl⟩
      have ge24 : n0 ≤ a24 := Nat.le_trans Z7 (Nat.le_of_eq g24.symm)
      have ne_a2_24 : a2 ≠ a24 := fun q => absurd (g24 ▸ q ▸ (V7.lt : a2 < h7.size)) (Nat.lt_irrefl _)
      rw [← g24] at A24 st24
      have Z24 : n0 ≤ h24.size := Nat.le_trans Z7 E24.1
      have V24 : Arv Z h24 a24 cA24 .byte (1 : Int32) [(.int (0 : Int32))] (.int (0 : Int32)) := (Arv.new A24 (by decide)).pad (pad_rep [] _ 1)
      have V25 : Arv Z h24 a2 cA2 .byte (5 : Int32) [(.int b3), (.int b4), (.int b5), (.int b6), (.int b7)] (.int (0 : Int32)) := (V7.ext E24)
      refine Gl.st (g' := (mkF m 146 #[.val (.int p1), .val (.int p2), .val (.int p3), .val (.int p4), .val (.int p5), .val (.int p6), .val (.ref a2), .val (.int v8), .val (.int v19), .val (.long v22), .second, .val (.int (1 : Int32)), .unset, .unset] [(.ref a24)])) st24 ?_
      refine Gl.st (g' := (mkF m 148 #[.val (.int p1), .val (.int p2), .val (.int p3), .val (.int p4), .val (.int p5), .val (.int p6), .val (.ref a2), .val (.int v8), .val (.int v19), .val (.long v22), .second, .val (.int (1 : Int32)), .val (.ref a24), .unset] [])) (fun t k => XS.astore X24.here hx rfl (hb hby at_146) rfl rfl (l' := #[.val (.int p1), .val (.int p2), .val (.int p3), .val (.int p4), .val (.int p5), .val (.int p6), .val (.ref a2), .val (.int v8), .val (.int v19), .val (.long v22), .second, .val (.int (1 : Int32)), .val (.ref a24), .unset]) rfl k) ?_
      refine Gl.st (g' := (mkF m 150 #[.val (.int p1), .val (.int p2), .val (.int p3), .val (.int p4), .val (.int p5), .val (.int p6), .val (.ref a2), .val (.int v8), .val (.int v19), .val (.long v22), .second, .val (.int (1 : Int32)), .val (.ref a24), .unset] [(.ref a24)])) (fun t k => XS.aload X24.here hx rfl (hb hby at_148) rfl rfl k) ?_
      refine Gl.st (g' := (mkF m 151 #[.val (.int p1), .val (.int p2), .val (.int p3), .val (.int p4), .val (.int p5), .val (.int p6), .val (.ref a2), .val (.int v8), .val (.int v19), .val (.long v22), .second, .val (.int (1 : Int32)), .val (.ref a24), .unset] [(.int (0 : Int32)), (.ref a24)])) (fun t k => XT.iconstV X24.here hx rfl (0 : Int32) (hb hby at_150) rfl k) ?_
      refine Gl.st (g' := (mkF m 153 #[.val (.int p1), .val (.int p2), .val (.int p3), .val (.int p4), .val (.int p5), .val (.int p6), .val (.ref a2), .val (.int v8), .val (.int v19), .val (.long v22), .second, .val (.int (1 : Int32)), .val (.ref a24), .unset] [(.int (97 : Int32)), (.int (0 : Int32)), (.ref a24)])) (fun t k => XT.bipushV X24.here hx rfl (97 : Int32) (hb hby at_151) rfl k) ?_
      obtain ⟨T26, h26, b26, X26, e26, W26, hb26, V26, st26⟩ := own_stB X24 hx hZ e24 V24 (j := (0 : Int32)) (by decide) 0 (by decide) (by decide : 0 < 1) (g := (mkF m 153 #[.val (.int p1), .val (.int p2), .val (.int p3), .val (.int p4), .val (.int p5), .val (.int p6), .val (.ref a2), .val (.int v8), .val (.int v19), .val (.long v22), .second, .val (.int (1 : Int32)), .val (.ref a24), .unset] [(.int (97 : Int32)), (.int (0 : Int32)), (.ref a24)])) rfl rfl (hb hby at_153)
      have N26 := Fr.snoc X26 N23 ge24
      have Z26 : n0 ≤ h26.size := Nat.le_trans Z24 (Keep.of_wr W26).1
      change Arv Z h26 a24 cA24 .byte (1 : Int32) [(.int b26)] (.int (0 : Int32)) at V26
      have V27 : Arv Z h26 a2 cA2 .byte (5 : Int32) [(.int b3), (.int b4), (.int b5), (.int b6), (.int b7)] (.int (0 : Int32)) := (V25.other W26 ne_a2_24)
      refine Gl.st (g' := (mkF m 154 #[.val (.int p1), .val (.int p2), .val (.int p3), .val (.int p4), .val (.int p5), .val (.int p6), .val (.ref a2), .val (.int v8), .val (.int v19), .val (.long v22), .second, .val (.int (1 : Int32)), .val (.ref a24), .unset] [])) st26 ?_
      refine Gl.st (g' := (mkF m 156 #[.val (.int p1), .val (.int p2), .val (.int p3), .val (.int p4), .val (.int p5), .val (.int p6), .val (.ref a2), .val (.int v8), .val (.int v19), .val (.long v22), .second, .val (.int (1 : Int32)), .val (.ref a24), .unset] [(.ref a24)])) (fun t k => XS.aload X26.here hx rfl (hb hby at_154) rfl rfl k) ?_
      refine Gl.st (g' := (mkF m 157 #[.val (.int p1), .val (.int p2), .val (.int p3), .val (.int p4), .val (.int p5), .val (.int p6), .val (.ref a2), .val (.int v8), .val (.int v19), .val (.long v22), .second, .val (.int (1 : Int32)), .val (.ref a24), .unset] [(.int (1 : Int32)), (.ref a24)])) (fun t k => XT.iconstV X26.here hx rfl (1 : Int32) (hb hby at_156) rfl k) ?_
      obtain ⟨_, _, ⟨T28, L28, k28, n28⟩, -, X28, ⟨Lc28, hQ28, l28, y28, z28⟩, st28⟩ := Jvm.LawKit.callS X26 hx (y := (⟨"keyhalo/KeyHash", "oneAtATime", "([BI)J"⟩ : MethodName)) hown (mvT hZ (hw _ (List.mem_of_getElem? (i := 7) rfl))) (mvT hZ (hw _ (List.mem_of_getElem? (i := 8) rfl))) (mvT hZ (hw _ (List.mem_of_getElem? (i := 9) rfl))) (mvT hZ (hw _ (List.mem_of_getElem? (i := 10) rfl))) (by decide) (backOf (W := 0) (rm4 l Z a0 hw a24 (1 : Int32) [b26] 1 cA24 (1 : Int32) h26 n0 Z26 V26 rfl (by decide : 1 ≤ 1) rfl (by decide : 1 ≤ 16)) hZ (hw _ (List.mem_of_getElem? (i := 10) rfl)) (hw _ (List.mem_of_getElem? (i := 9) rfl)) (by decide) (by decide)) (g := (mkF m 157 #[.val (.int p1), .val (.int p2), .val (.int p3), .val (.int p4), .val (.int p5), .val (.int p6), .val (.ref a2), .val (.int v8), .val (.int v19), .val (.long v22), .second, .val (.int (1 : Int32)), .val (.ref a24), .unset] [(.int (1 : Int32)), (.ref a24)])) rfl (by rw [hml]; rfl) (argsL := [(.ref a24), (.int (1 : Int32))]) (rest := []) (lenOf pd_2 rfl) rfl (by show 2 * 0 + _ ≤ _; exact Nat.le_of_eq rfl) (hb hby at_157) (fun _ _ => ⟨rfl, e26, (by decide : 0 + 1 + 0 + 0 + 0 + 1 + 0 ≤ _), (by decide : 0 + 5 + 0 + 0 + 0 + 1 + 0 ≤ _)⟩)
      dsimp only [Pt.U, Pt.locs, Pt.cells, Pt.slots] at X28 l28 y28 z28 st28 hQ28
      subst l28 y28 z28
      obtain ⟨rfl, Nq28, e28⟩ := hQ28
      have N28 := Fr.app N26 Nq28
      refine Gl.st (g' := (mkF m 160 #[.val (.int p1), .val (.int p2), .val (.int p3), .val (.int p4), .val (.int p5), .val (.int p6), .val (.ref a2), .val (.int v8), .val (.int v19), .val (.long v22), .second, .val (.int (1 : Int32)), .val (.ref a24), .unset] [(.long (own_oat [b26] 1))])) st28 ?_
      refine Gl.st (g' := (mkF m 163 #[.val (.int p1), .val (.int p2), .val (.int p3), .val (.int p4), .val (.int p5), .val (.int p6), .val (.ref a2), .val (.int v8), .val (.int v19), .val (.long v22), .second, .val (.int (1 : Int32)), .val (.ref a24), .unset] [(.long (3392050242 : Int64)), (.long (own_oat [b26] 1))])) (fun t k => X28.ldc2J hx hown (mvT hZ (hw _ (List.mem_of_getElem? (i := 16) rfl))) rfl (hb hby at_160) k) ?_
      refine Gl.st (g' := (mkF m 164 #[.val (.int p1), .val (.int p2), .val (.int p3), .val (.int p4), .val (.int p5), .val (.int p6), .val (.ref a2), .val (.int v8), .val (.int v19), .val (.long v22), .second, .val (.int (1 : Int32)), .val (.ref a24), .unset] [(.int (XT.cmpL (own_oat [b26] 1) (3392050242 : Int64)))])) (fun t k => XT.lcmp X28.here hx rfl (hb hby at_163) rfl k) ?_
      refine Gl.st (g' := (mkF m 167 #[.val (.int p1), .val (.int p2), .val (.int p3), .val (.int p4), .val (.int p5), .val (.int p6), .val (.ref a2), .val (.int v8), .val (.int v19), .val (.long v22), .second, .val (.int (1 : Int32)), .val (.ref a24), .unset] [])) (fun t k => XS.ifNo X28.here hx rfl (hb hby at_164) rfl (XT.ll_ne_f (own_anchor hb26)) k) ?_
      refine Gl.st (g' := (mkF m 168 #[.val (.int p1), .val (.int p2), .val (.int p3), .val (.int p4), .val (.int p5), .val (.int p6), .val (.ref a2), .val (.int v8), .val (.int v19), .val (.long v22), .second, .val (.int (1 : Int32)), .val (.ref a24), .unset] [(.int (1 : Int32))])) (fun t k => XT.iconstV X28.here hx rfl (1 : Int32) (hb hby at_167) rfl k) ?_
      refine Gl.st (g' := (mkF m 172 #[.val (.int p1), .val (.int p2), .val (.int p3), .val (.int p4), .val (.int p5), .val (.int p6), .val (.ref a2), .val (.int v8), .val (.int v19), .val (.long v22), .second, .val (.int (1 : Int32)), .val (.ref a24), .unset] [(.int (1 : Int32))])) (fun t k => XS.goto X28.here hx rfl (pc0 := 168) (pc' := 172) rfl (hb hby at_168) (by decide) (by decide) k) ?_
      refine Gl.st (g' := (mkF m 174 #[.val (.int p1), .val (.int p2), .val (.int p3), .val (.int p4), .val (.int p5), .val (.int p6), .val (.ref a2), .val (.int v8), .val (.int v19), .val (.long v22), .second, .val (.int (1 : Int32)), .val (.ref a24), .val (.int (1 : Int32))] [])) (fun t k => XS.istore X28.here hx rfl (hb hby at_172) rfl (l' := #[.val (.int p1), .val (.int p2), .val (.int p3), .val (.int p4), .val (.int p5), .val (.int p6), .val (.ref a2), .val (.int v8), .val (.int v19), .val (.long v22), .second, .val (.int (1 : Int32)), .val (.ref a24), .val (.int (1 : Int32))]) rfl k) ?_
      refine Gl.st (g' := (mkF m 176 #[.val (.int p1), .val (.int p2), .val (.int p3), .val (.int p4), .val (.int p5), .val (.int p6), .val (.ref a2), .val (.int v8), .val (.int v19), .val (.long v22), .second, .val (.int (1 : Int32)), .val (.ref a24), .val (.int (1 : Int32))] [(.int (1 : Int32))])) (fun t k => XS.iload X28.here hx rfl (hb hby at_174) rfl k) ?_
      refine Gl.st (g' := (mkF m 179 #[.val (.int p1), .val (.int p2), .val (.int p3), .val (.int p4), .val (.int p5), .val (.int p6), .val (.ref a2), .val (.int v8), .val (.int v19), .val (.long v22), .second, .val (.int (1 : Int32)), .val (.ref a24), .val (.int (1 : Int32))] [])) (fun t k => XS.ifNo X28.here hx rfl (hb hby at_176) rfl (XT.i0_eq_f (by decide)) k) ?_
      refine Gl.st (g' := (mkF m 181 #[.val (.int p1), .val (.int p2), .val (.int p3), .val (.int p4), .val (.int p5), .val (.int p6), .val (.ref a2), .val (.int v8), .val (.int v19), .val (.long v22), .second, .val (.int (1 : Int32)), .val (.ref a24), .val (.int (1 : Int32))] [(.int (1 : Int32))])) (fun t k => XS.iload X28.here hx rfl (hb hby at_179) rfl k) ?_
      refine Gl.st (g' := (mkF m 184 #[.val (.int p1), .val (.int p2), .val (.int p3), .val (.int p4), .val (.int p5), .val (.int p6), .val (.ref a2), .val (.int v8), .val (.int v19), .val (.long v22), .second, .val (.int (1 : Int32)), .val (.ref a24), .val (.int (1 : Int32))] [])) (fun t k => XS.ifNo X28.here hx rfl (hb hby at_181) rfl (XT.i0_eq_f (by decide)) k) ?_
      refine Gl.st (g' := (mkF m 185 #[.val (.int p1), .val (.int p2), .val (.int p3), .val (.int p4), .val (.int p5), .val (.int p6), .val (.ref a2), .val (.int v8), .val (.int v19), .val (.long v22), .second, .val (.int (1 : Int32)), .val (.ref a24), .val (.int (1 : Int32))] [(.int (1 : Int32))])) (fun t k => XT.iconstV X28.here hx rfl (1 : Int32) (hb hby at_184) rfl k) ?_
      refine Gl.st (g' := (mkF m 189 #[.val (.int p1), .val (.int p2), .val (.int p3), .val (.int p4), .val (.int p5), .val (.int p6), .val (.ref a2), .val (.int v8), .val (.int v19), .val (.long v22), .second, .val (.int (1 : Int32)), .val (.ref a24), .val (.int (1 : Int32))] [(.int (1 : Int32))])) (fun t k => XS.goto X28.here hx rfl (pc0 := 185) (pc' := 189) rfl (hb hby at_185) (by decide) (by decide) k) ?_
      refine Gl.retZ X28 hx hlk .boolean (by simp) Bd.returns (hb hby at_189) e28 (by decide) (by decide) ?_
      rw [Q0, own_z1]
      exact ⟨rfl, N28⟩
    · skip
      refine Gl.st (g' := (mkF m 71 #[.val (.int p1), .val (.int p2), .val (.int p3), .val (.int p4), .val (.int p5), .val (.int p6), .val (.ref a2), .val (.int v8), .val (.int v19), .unset, .unset, .unset, .unset, .unset] [])) (fun t k => XS.icmpNo X18.here hx rfl (hb hby at_68) rfl (XT.ii_lt_f c20) k) ?_
      refine Gl.st (g' := (mkF m 73 #[.val (.int p1), .val (.int p2), .val (.int p3), .val (.int p4), .val (.int p5), .val (.int p6), .val (.ref a2), .val (.int v8), .val (.int v19), .unset, .unset, .unset, .unset, .unset] [(.int v19)])) (fun t k => XS.iload X18.here hx rfl (hb hby at_71) rfl k) ?_
      refine Gl.st (g' := (mkF m 75 #[.val (.int p1), .val (.int p2), .val (.int p3), .val (.int p4), .val (.int p5), .val (.int p6), .val (.ref a2), .val (.int v8), .val (.int v19), .unset, .unset, .unset, .unset, .unset] [(.ref a2), (.int v19)])) (fun t k => XS.aload X18.here hx rfl (hb hby at_73) rfl rfl k) ?_
      refine Gl.st (g' := (mkF m 76 #[.val (.int p1), .val (.int p2), .val (.int p3), .val (.int p4), .val (.int p5), .val (.int p6), .val (.ref a2), .val (.int v8), .val (.int v19), .unset, .unset, .unset, .unset, .unset] [(.int (1 : Int32)), (.ref a2), (.int v19)])) (fun t k => XT.iconstV X18.here hx rfl (1 : Int32) (hb hby at_75) rfl k) ?_
      refine Gl.st (g' := (mkF m 77 #[.val (.int p1), .val (.int p2), .val (.int p3), .val (.int p4), .val (.int p5), .val (.int p6), .val (.ref a2), .val (.int v8), .val (.int v19), .unset, .unset, .unset, .unset, .unset] [(.int b4), (.int v19)])) (own_ldB X18 hx hZ e18 V7 (j := (1 : Int32)) (v := (.int b4)) (by decide) rfl (g := (mkF m 76 #[.val (.int p1), .val (.int p2), .val (.int p3), .val (.int p4), .val (.int p5), .val (.int p6), .val (.ref a2), .val (.int v8), .val (.int v19), .unset, .unset, .unset, .unset, .unset] [(.int (1 : Int32)), (.ref a2), (.int v19)])) rfl rfl (hb hby at_76)) ?_
      obtain ⟨_, _, ⟨T29, L29, k29, n29⟩, -, X29, ⟨Lc29, hQ29, l29, y29, z29⟩, st29⟩ := Jvm.LawKit.callS X18 hx (y := (⟨"keyhalo/KeyHashOneAtATimePinLaw", "step", "(IB)I"⟩ : MethodName)) hown (mvT hZ (hw _ (List.mem_of_getElem? (i := 17) rfl))) (mvT hZ (hw _ (List.mem_of_getElem? (i := 18) rfl))) (mvT hZ (hw _ (List.mem_of_getElem? (i := 3) rfl))) (mvT hZ (hw _ (List.mem_of_getElem? (i := 19) rfl))) (by decide) (backOf (W := 0) (rm2 l Z a0 hw v19 b4  h7 n0 Z7 ) hZ (hw _ (List.mem_of_getElem? (i := 19) rfl)) (hw _ (List.mem_of_getElem? (i := 3) rfl)) (by decide) (by decide)) (g := (mkF m 77 #[.val (.int p1), .val (.int p2), .val (.int p3), .val (.int p4), .val (.int p5), .val (.int p6), .val (.ref a2), .val (.int v8), .val (.int v19), .unset, .unset, .unset, .unset, .unset] [(.int b4), (.int v19)])) rfl (by rw [hml]; rfl) (argsL := [(.int v19), (.int b4)]) (rest := []) (lenOf pd_1 rfl) rfl (by show 2 * 0 + _ ≤ _; exact Nat.le_of_eq rfl) (hb hby at_77) (fun _ _ => ⟨rfl, e18, (by decide : 0 + 1 + 0 + 0 ≤ _), (by decide : 0 + 5 + 0 + 0 ≤ _)⟩)
      dsimp only [Pt.U, Pt.locs, Pt.cells, Pt.slots] at X29 l29 y29 z29 st29 hQ29
      subst l29 y29 z29
      obtain ⟨rfl, Nq29, e29⟩ := hQ29
      have N29 := Fr.app N18 Nq29
      refine Gl.st (g' := (mkF m 80 #[.val (.int p1), .val (.int p2), .val (.int p3), .val (.int p4), .val (.int p5), .val (.int p6), .val (.ref a2), .val (.int v8), .val (.int v19), .unset, .unset, .unset, .unset, .unset] [(.int (own_stL v19 b4))])) st29 ?_
      generalize hv30 : (own_stL v19 b4) = v30
      refine Gl.st (g' := (mkF m 82 #[.val (.int p1), .val (.int p2), .val (.int p3), .val (.int p4), .val (.int p5), .val (.int p6), .val (.ref a2), .val (.int v8), .val (.int v30), .unset, .unset, .unset, .unset, .unset] [])) (fun t k => XS.istore X29.here hx rfl (hb hby at_80) rfl (l' := #[.val (.int p1), .val (.int p2), .val (.int p3), .val (.int p4), .val (.int p5), .val (.int p6), .val (.ref a2), .val (.int v8), .val (.int v30), .unset, .unset, .unset, .unset, .unset]) rfl k) ?_
      refine Gl.st (g' := (mkF m 84 #[.val (.int p1), .val (.int p2), .val (.int p3), .val (.int p4), .val (.int p5), .val (.int p6), .val (.ref a2), .val (.int v8), .val (.int v30), .unset, .unset, .unset, .unset, .unset] [(.int v8)])) (fun t k => XS.iload X29.here hx rfl (hb hby at_82) rfl k) ?_
      refine Gl.st (g' := (mkF m 85 #[.val (.int p1), .val (.int p2), .val (.int p3), .val (.int p4), .val (.int p5), .val (.int p6), .val (.ref a2), .val (.int v8), .val (.int v30), .unset, .unset, .unset, .unset, .unset] [(.int (3 : Int32)), (.int v8)])) (fun t k => XT.iconstV X29.here hx rfl (3 : Int32) (hb hby at_84) rfl k) ?_
      by_cases c31 : v8 < (3 : Int32)
      · skip
        refine Gl.st (g' := (mkF m 99 #[.val (.int p1), .val (.int p2), .val (.int p3), .val (.int p4), .val (.int p5), .val (.int p6), .val (.ref a2), .val (.int v8), .val (.int v30), .unset, .unset, .unset, .unset, .unset] [])) (fun t k => XS.icmpYes X29.here hx rfl (pc0 := 85) (pc' := 99) rfl (hb hby at_85) rfl (XT.ii_lt_t c31) (by decide) (by decide) k) ?_
        refine Gl.st (g' := (mkF m 101 #[.val (.int p1), .val (.int p2), .val (.int p3), .val (.int p4), .val (.int p5), .val (.int p6), .val (.ref a2), .val (.int v8), .val (.int v30), .unset, .unset, .unset, .unset, .unset] [(.int v8)])) (fun t k => XS.iload X29.here hx rfl (hb hby at_99) rfl k) ?_
        refine Gl.st (g' := (mkF m 102 #[.val (.int p1), .val (.int p2), .val (.int p3), .val (.int p4), .val (.int p5), .val (.int p6), .val (.ref a2), .val (.int v8), .val (.int v30), .unset, .unset, .unset, .unset, .unset] [(.int (4 : Int32)), (.int v8)])) (fun t k => XT.iconstV X29.here hx rfl (4 : Int32) (hb hby at_101) rfl k) ?_
        refine Gl.st (g' := (mkF m 116 #[.val (.int p1), .val (.int p2), .val (.int p3), .val (.int p4), .val (.int p5), .val (.int p6), .val (.ref a2), .val (.int v8), .val (.int v30), .unset, .unset, .unset, .unset, .unset] [])) (fun t k => XS.icmpYes X29.here hx rfl (pc0 := 102) (pc' := 116) rfl (hb hby at_102) rfl (XT.ii_lt_t (own_up c31 (by decide))) (by decide) (by decide) k) ?_
        refine Gl.st (g' := (mkF m 118 #[.val (.int p1), .val (.int p2), .val (.int p3), .val (.int p4), .val (.int p5), .val (.int p6), .val (.ref a2), .val (.int v8), .val (.int v30), .unset, .unset, .unset, .unset, .unset] [(.int v30)])) (fun t k => XS.iload X29.here hx rfl (hb hby at_116) rfl k) ?_
        obtain ⟨_, _, ⟨T32, L32, k32, n32⟩, -, X32, ⟨Lc32, hQ32, l32, y32, z32⟩, st32⟩ := Jvm.LawKit.callS X29 hx (y := (⟨"keyhalo/KeyHashOneAtATimePinLaw", "fin", "(I)J"⟩ : MethodName)) hown (mvT hZ (hw _ (List.mem_of_getElem? (i := 1) rfl))) (mvT hZ (hw _ (List.mem_of_getElem? (i := 2) rfl))) (mvT hZ (hw _ (List.mem_of_getElem? (i := 3) rfl))) (mvT hZ (hw _ (List.mem_of_getElem? (i := 4) rfl))) (by decide) (backOf (W := 0) (rm3 l Z a0 hw v30  h7 n0 Z7 ) hZ (hw _ (List.mem_of_getElem? (i := 4) rfl)) (hw _ (List.mem_of_getElem? (i := 3) rfl)) (by decide) (by decide)) (g := (mkF m 118 #[.val (.int p1), .val (.int p2), .val (.int p3), .val (.int p4), .val (.int p5), .val (.int p6), .val (.ref a2), .val (.int v8), .val (.int v30), .unset, .unset, .unset, .unset, .unset] [(.int v30)])) rfl (by rw [hml]; rfl) (argsL := [(.int v30)]) (rest := []) (lenOf pd_0 rfl) rfl (by show 2 * 0 + _ ≤ _; exact Nat.le_of_eq rfl) (hb hby at_118) (fun _ _ => ⟨rfl, e29, (by decide : 0 + 1 + 0 + 0 + 0 ≤ _), (by decide : 0 + 5 + 0 + 0 + 0 ≤ _)⟩)
        dsimp only [Pt.U, Pt.locs, Pt.cells, Pt.slots] at X32 l32 y32 z32 st32 hQ32
        subst l32 y32 z32
        obtain ⟨rfl, Nq32, e32⟩ := hQ32
        have N32 := Fr.app N29 Nq32
        refine Gl.st (g' := (mkF m 121 #[.val (.int p1), .val (.int p2), .val (.int p3), .val (.int p4), .val (.int p5), .val (.int p6), .val (.ref a2), .val (.int v8), .val (.int v30), .unset, .unset, .unset, .unset, .unset] [(.long (own_finL v30))])) st32 ?_
        generalize hv33 : (own_finL v30) = v33
        refine Gl.st (g' := (mkF m 123 #[.val (.int p1), .val (.int p2), .val (.int p3), .val (.int p4), .val (.int p5), .val (.int p6), .val (.ref a2), .val (.int v8), .val (.int v30), .val (.long v33), .second, .unset, .unset, .unset] [])) (fun t k => XS.lstore X32.here hx rfl (hb hby at_121) rfl (l' := #[.val (.int p1), .val (.int p2), .val (.int p3), .val (.int p4), .val (.int p5), .val (.int p6), .val (.ref a2), .val (.int v8), .val (.int v30), .val (.long v33), .second, .unset, .unset, .unset]) rfl k) ?_
        refine Gl.st (g' := (mkF m 125 #[.val (.int p1), .val (.int p2), .val (.int p3), .val (.int p4), .val (.int p5), .val (.int p6), .val (.ref a2), .val (.int v8), .val (.int v30), .val (.long v33), .second, .unset, .unset, .unset] [(.ref a2)])) (fun t k => XS.aload X32.here hx rfl (hb hby at_123) rfl rfl k) ?_
        refine Gl.st (g' := (mkF m 127 #[.val (.int p1), .val (.int p2), .val (.int p3), .val (.int p4), .val (.int p5), .val (.int p6), .val (.ref a2), .val (.int v8), .val (.int v30), .val (.long v33), .second, .unset, .unset, .unset] [(.int v8), (.ref a2)])) (fun t k => XS.iload X32.here hx rfl (hb hby at_125) rfl k) ?_
        obtain ⟨_, _, ⟨T34, L34, k34, n34⟩, -, X34, ⟨Lc34, hQ34, l34, y34, z34⟩, st34⟩ := Jvm.LawKit.callS X32 hx (y := (⟨"keyhalo/KeyHash", "oneAtATime", "([BI)J"⟩ : MethodName)) hown (mvT hZ (hw _ (List.mem_of_getElem? (i := 7) rfl))) (mvT hZ (hw _ (List.mem_of_getElem? (i := 8) rfl))) (mvT hZ (hw _ (List.mem_of_getElem? (i := 9) rfl))) (mvT hZ (hw _ (List.mem_of_getElem? (i := 10) rfl))) (by decide) (backOf (W := 0) (rm4 l Z a0 hw a2 v8 [b3, b4, b5, b6, b7] 2 cA2 (5 : Int32) h7 n0 Z7 V7 (own_pin (2 : Int32) c20 c31 (by decide)) (by decide : 2 ≤ 5) rfl (by decide : 5 ≤ 16)) hZ (hw _ (List.mem_of_getElem? (i := 10) rfl)) (hw _ (List.mem_of_getElem? (i := 9) rfl)) (by decide) (by decide)) (g := (mkF m 127 #[.val (.int p1), .val (.int p2), .val (.int p3), .val (.int p4), .val (.int p5), .val (.int p6), .val (.ref a2), .val (.int v8), .val (.int v30), .val (.long v33), .second, .unset, .unset, .unset] [(.int v8), (.ref a2)])) rfl (by rw [hml]; rfl) (argsL := [(.ref a2), (.int v8)]) (rest := []) (lenOf pd_2 rfl) rfl (by show 2 * 0 + _ ≤ _; exact Nat.le_of_eq rfl) (hb hby at_127) (fun _ _ => ⟨rfl, e32, (by decide : 0 + 1 + 0 + 0 + 0 + 0 ≤ _), (by decide : 0 + 5 + 0 + 0 + 0 + 0 ≤ _)⟩)
        dsimp only [Pt.U, Pt.locs, Pt.cells, Pt.slots] at X34 l34 y34 z34 st34 hQ34
        subst l34 y34 z34
        obtain ⟨rfl, Nq34, e34⟩ := hQ34
        have N34 := Fr.app N32 Nq34
        refine Gl.st (g' := (mkF m 130 #[.val (.int p1), .val (.int p2), .val (.int p3), .val (.int p4), .val (.int p5), .val (.int p6), .val (.ref a2), .val (.int v8), .val (.int v30), .val (.long v33), .second, .unset, .unset, .unset] [(.long (own_oat [b3, b4, b5, b6, b7] 2))])) st34 ?_
        refine Gl.st (g' := (mkF m 132 #[.val (.int p1), .val (.int p2), .val (.int p3), .val (.int p4), .val (.int p5), .val (.int p6), .val (.ref a2), .val (.int v8), .val (.int v30), .val (.long v33), .second, .unset, .unset, .unset] [(.long v33), (.long (own_oat [b3, b4, b5, b6, b7] 2))])) (fun t k => XS.lload X34.here hx rfl (hb hby at_130) rfl k) ?_
        refine Gl.st (g' := (mkF m 133 #[.val (.int p1), .val (.int p2), .val (.int p3), .val (.int p4), .val (.int p5), .val (.int p6), .val (.ref a2), .val (.int v8), .val (.int v30), .val (.long v33), .second, .unset, .unset, .unset] [(.int (XT.cmpL (own_oat [b3, b4, b5, b6, b7] 2) v33))])) (fun t k => XT.lcmp X34.here hx rfl (hb hby at_132) rfl k) ?_
        refine Gl.st (g' := (mkF m 136 #[.val (.int p1), .val (.int p2), .val (.int p3), .val (.int p4), .val (.int p5), .val (.int p6), .val (.ref a2), .val (.int v8), .val (.int v30), .val (.long v33), .second, .unset, .unset, .unset] [])) (fun t k => XS.ifNo X34.here hx rfl (hb hby at_133) rfl (XT.ll_ne_f ((own_oat_eq _ _).trans (by subst hv19 hv30 hv33; rfl))) k) ?_
        refine Gl.st (g' := (mkF m 137 #[.val (.int p1), .val (.int p2), .val (.int p3), .val (.int p4), .val (.int p5), .val (.int p6), .val (.ref a2), .val (.int v8), .val (.int v30), .val (.long v33), .second, .unset, .unset, .unset] [(.int (1 : Int32))])) (fun t k => XT.iconstV X34.here hx rfl (1 : Int32) (hb hby at_136) rfl k) ?_
        refine Gl.st (g' := (mkF m 141 #[.val (.int p1), .val (.int p2), .val (.int p3), .val (.int p4), .val (.int p5), .val (.int p6), .val (.ref a2), .val (.int v8), .val (.int v30), .val (.long v33), .second, .unset, .unset, .unset] [(.int (1 : Int32))])) (fun t k => XS.goto X34.here hx rfl (pc0 := 137) (pc' := 141) rfl (hb hby at_137) (by decide) (by decide) k) ?_
        refine Gl.st (g' := (mkF m 143 #[.val (.int p1), .val (.int p2), .val (.int p3), .val (.int p4), .val (.int p5), .val (.int p6), .val (.ref a2), .val (.int v8), .val (.int v30), .val (.long v33), .second, .val (.int (1 : Int32)), .unset, .unset] [])) (fun t k => XS.istore X34.here hx rfl (hb hby at_141) rfl (l' := #[.val (.int p1), .val (.int p2), .val (.int p3), .val (.int p4), .val (.int p5), .val (.int p6), .val (.ref a2), .val (.int v8), .val (.int v30), .val (.long v33), .second, .val (.int (1 : Int32)), .unset, .unset]) rfl k) ?_
        refine Gl.st (g' := (mkF m 144 #[.val (.int p1), .val (.int p2), .val (.int p3), .val (.int p4), .val (.int p5), .val (.int p6), .val (.ref a2), .val (.int v8), .val (.int v30), .val (.long v33), .second, .val (.int (1 : Int32)), .unset, .unset] [(.int (1 : Int32))])) (fun t k => XT.iconstV X34.here hx rfl (1 : Int32) (hb hby at_143) rfl k) ?_
        obtain ⟨T35, h35, cA35, X35, e35, E35, A35, st35⟩ := newP X34 hx hZ (hw _ (List.mem_of_getElem? (i := 0) rfl)) e34 (g := (mkF m 144 #[.val (.int p1), .val (.int p2), .val (.int p3), .val (.int p4), .val (.int p5), .val (.int p6), .val (.ref a2), .val (.int v8), .val (.int v30), .val (.long v33), .second, .val (.int (1 : Int32)), .unset, .unset] [(.int (1 : Int32))])) rfl (hb hby at_144) rfl (by decide) (cap := 1) (by decide) (by decide) (by decide) (by decide)
        obtain ⟨a35, g35⟩ : ∃ z, z = h7.size := ⟨_, rfl⟩
        have ge35 : n0 ≤ a35 := Nat.le_trans Z7 (Nat.le_of_eq g35.symm)
        have ne_a2_35 : a2 ≠ a35 := fun q => absurd (g35 ▸ q ▸ (V7.lt : a2 < h7.size)) (Nat.lt_irrefl _)
        rw [← g35] at A35 st35
        have Z35 : n0 ≤ h35.size := Nat.le_trans Z7 E35.1
        have V35 : Arv Z h35 a35 cA35 .byte (1 : Int32) [(.int (0 : Int32))] (.int (0 : Int32)) := (Arv.new A35 (by decide)).pad (pad_rep [] _ 1)
        have V36 : Arv Z h35 a2 cA2 .byte (5 : Int32) [(.int b3), (.int b4), (.int b5), (.int b6), (.int b7)] (.int (0 : Int32)) := (V7.ext E35)
        refine Gl.st (g' := (mkF m 146 #[.val (.int p1), .val (.int p2), .val (.int p3), .val (.int p4), .val (.int p5), .val (.int p6), .val (.ref a2), .val (.int v8), .val (.int v30), .val (.long v33), .second, .val (.int (1 : Int32)), .unset, .unset] [(.ref a35)])) st35 ?_
        refine Gl.st (g' := (mkF m 148 #[.val (.int p1), .val (.int p2), .val (.int p3), .val (.int p4), .val (.int p5), .val (.int p6), .val (.ref a2), .val (.int v8), .val (.int v30), .val (.long v33), .second, .val (.int (1 : Int32)), .val (.ref a35), .unset] [])) (fun t k => XS.astore X35.here hx rfl (hb hby at_146) rfl rfl (l' := #[.val (.int p1), .val (.int p2), .val (.int p3), .val (.int p4), .val (.int p5), .val (.int p6), .val (.ref a2), .val (.int v8), .val (.int v30), .val (.long v33), .second, .val (.int (1 : Int32)), .val (.ref a35), .unset]) rfl k) ?_
        refine Gl.st (g' := (mkF m 150 #[.val (.int p1), .val (.int p2), .val (.int p3), .val (.int p4), .val (.int p5), .val (.int p6), .val (.ref a2), .val (.int v8), .val (.int v30), .val (.long v33), .second, .val (.int (1 : Int32)), .val (.ref a35), .unset] [(.ref a35)])) (fun t k => XS.aload X35.here hx rfl (hb hby at_148) rfl rfl k) ?_
        refine Gl.st (g' := (mkF m 151 #[.val (.int p1), .val (.int p2), .val (.int p3), .val (.int p4), .val (.int p5), .val (.int p6), .val (.ref a2), .val (.int v8), .val (.int v30), .val (.long v33), .second, .val (.int (1 : Int32)), .val (.ref a35), .unset] [(.int (0 : Int32)), (.ref a35)])) (fun t k => XT.iconstV X35.here hx rfl (0 : Int32) (hb hby at_150) rfl k) ?_
        refine Gl.st (g' := (mkF m 153 #[.val (.int p1), .val (.int p2), .val (.int p3), .val (.int p4), .val (.int p5), .val (.int p6), .val (.ref a2), .val (.int v8), .val (.int v30), .val (.long v33), .second, .val (.int (1 : Int32)), .val (.ref a35), .unset] [(.int (97 : Int32)), (.int (0 : Int32)), (.ref a35)])) (fun t k => XT.bipushV X35.here hx rfl (97 : Int32) (hb hby at_151) rfl k) ?_
        obtain ⟨T37, h37, b37, X37, e37, W37, hb37, V37, st37⟩ := own_stB X35 hx hZ e35 V35 (j := (0 : Int32)) (by decide) 0 (by decide) (by decide : 0 < 1) (g := (mkF m 153 #[.val (.int p1), .val (.int p2), .val (.int p3), .val (.int p4), .val (.int p5), .val (.int p6), .val (.ref a2), .val (.int v8), .val (.int v30), .val (.long v33), .second, .val (.int (1 : Int32)), .val (.ref a35), .unset] [(.int (97 : Int32)), (.int (0 : Int32)), (.ref a35)])) rfl rfl (hb hby at_153)
        have N37 := Fr.snoc X37 N34 ge35
        have Z37 : n0 ≤ h37.size := Nat.le_trans Z35 (Keep.of_wr W37).1
        change Arv Z h37 a35 cA35 .byte (1 : Int32) [(.int b37)] (.int (0 : Int32)) at V37
        have V38 : Arv Z h37 a2 cA2 .byte (5 : Int32) [(.int b3), (.int b4), (.int b5), (.int b6), (.int b7)] (.int (0 : Int32)) := (V36.other W37 ne_a2_35)
        refine Gl.st (g' := (mkF m 154 #[.val (.int p1), .val (.int p2), .val (.int p3), .val (.int p4), .val (.int p5), .val (.int p6), .val (.ref a2), .val (.int v8), .val (.int v30), .val (.long v33), .second, .val (.int (1 : Int32)), .val (.ref a35), .unset] [])) st37 ?_
        refine Gl.st (g' := (mkF m 156 #[.val (.int p1), .val (.int p2), .val (.int p3), .val (.int p4), .val (.int p5), .val (.int p6), .val (.ref a2), .val (.int v8), .val (.int v30), .val (.long v33), .second, .val (.int (1 : Int32)), .val (.ref a35), .unset] [(.ref a35)])) (fun t k => XS.aload X37.here hx rfl (hb hby at_154) rfl rfl k) ?_
        refine Gl.st (g' := (mkF m 157 #[.val (.int p1), .val (.int p2), .val (.int p3), .val (.int p4), .val (.int p5), .val (.int p6), .val (.ref a2), .val (.int v8), .val (.int v30), .val (.long v33), .second, .val (.int (1 : Int32)), .val (.ref a35), .unset] [(.int (1 : Int32)), (.ref a35)])) (fun t k => XT.iconstV X37.here hx rfl (1 : Int32) (hb hby at_156) rfl k) ?_
        obtain ⟨_, _, ⟨T39, L39, k39, n39⟩, -, X39, ⟨Lc39, hQ39, l39, y39, z39⟩, st39⟩ := Jvm.LawKit.callS X37 hx (y := (⟨"keyhalo/KeyHash", "oneAtATime", "([BI)J"⟩ : MethodName)) hown (mvT hZ (hw _ (List.mem_of_getElem? (i := 7) rfl))) (mvT hZ (hw _ (List.mem_of_getElem? (i := 8) rfl))) (mvT hZ (hw _ (List.mem_of_getElem? (i := 9) rfl))) (mvT hZ (hw _ (List.mem_of_getElem? (i := 10) rfl))) (by decide) (backOf (W := 0) (rm4 l Z a0 hw a35 (1 : Int32) [b37] 1 cA35 (1 : Int32) h37 n0 Z37 V37 rfl (by decide : 1 ≤ 1) rfl (by decide : 1 ≤ 16)) hZ (hw _ (List.mem_of_getElem? (i := 10) rfl)) (hw _ (List.mem_of_getElem? (i := 9) rfl)) (by decide) (by decide)) (g := (mkF m 157 #[.val (.int p1), .val (.int p2), .val (.int p3), .val (.int p4), .val (.int p5), .val (.int p6), .val (.ref a2), .val (.int v8), .val (.int v30), .val (.long v33), .second, .val (.int (1 : Int32)), .val (.ref a35), .unset] [(.int (1 : Int32)), (.ref a35)])) rfl (by rw [hml]; rfl) (argsL := [(.ref a35), (.int (1 : Int32))]) (rest := []) (lenOf pd_2 rfl) rfl (by show 2 * 0 + _ ≤ _; exact Nat.le_of_eq rfl) (hb hby at_157) (fun _ _ => ⟨rfl, e37, (by decide : 0 + 1 + 0 + 0 + 0 + 0 + 1 + 0 ≤ _), (by decide : 0 + 5 + 0 + 0 + 0 + 0 + 1 + 0 ≤ _)⟩)
        dsimp only [Pt.U, Pt.locs, Pt.cells, Pt.slots] at X39 l39 y39 z39 st39 hQ39
        subst l39 y39 z39
        obtain ⟨rfl, Nq39, e39⟩ := hQ39
        have N39 := Fr.app N37 Nq39
        refine Gl.st (g' := (mkF m 160 #[.val (.int p1), .val (.int p2), .val (.int p3), .val (.int p4), .val (.int p5), .val (.int p6), .val (.ref a2), .val (.int v8), .val (.int v30), .val (.long v33), .second, .val (.int (1 : Int32)), .val (.ref a35), .unset] [(.long (own_oat [b37] 1))])) st39 ?_
        refine Gl.st (g' := (mkF m 163 #[.val (.int p1), .val (.int p2), .val (.int p3), .val (.int p4), .val (.int p5), .val (.int p6), .val (.ref a2), .val (.int v8), .val (.int v30), .val (.long v33), .second, .val (.int (1 : Int32)), .val (.ref a35), .unset] [(.long (3392050242 : Int64)), (.long (own_oat [b37] 1))])) (fun t k => X39.ldc2J hx hown (mvT hZ (hw _ (List.mem_of_getElem? (i := 16) rfl))) rfl (hb hby at_160) k) ?_
        refine Gl.st (g' := (mkF m 164 #[.val (.int p1), .val (.int p2), .val (.int p3), .val (.int p4), .val (.int p5), .val (.int p6), .val (.ref a2), .val (.int v8), .val (.int v30), .val (.long v33), .second, .val (.int (1 : Int32)), .val (.ref a35), .unset] [(.int (XT.cmpL (own_oat [b37] 1) (3392050242 : Int64)))])) (fun t k => XT.lcmp X39.here hx rfl (hb hby at_163) rfl k) ?_
        refine Gl.st (g' := (mkF m 167 #[.val (.int p1), .val (.int p2), .val (.int p3), .val (.int p4), .val (.int p5), .val (.int p6), .val (.ref a2), .val (.int v8), .val (.int v30), .val (.long v33), .second, .val (.int (1 : Int32)), .val (.ref a35), .unset] [])) (fun t k => XS.ifNo X39.here hx rfl (hb hby at_164) rfl (XT.ll_ne_f (own_anchor hb37)) k) ?_
        refine Gl.st (g' := (mkF m 168 #[.val (.int p1), .val (.int p2), .val (.int p3), .val (.int p4), .val (.int p5), .val (.int p6), .val (.ref a2), .val (.int v8), .val (.int v30), .val (.long v33), .second, .val (.int (1 : Int32)), .val (.ref a35), .unset] [(.int (1 : Int32))])) (fun t k => XT.iconstV X39.here hx rfl (1 : Int32) (hb hby at_167) rfl k) ?_
        refine Gl.st (g' := (mkF m 172 #[.val (.int p1), .val (.int p2), .val (.int p3), .val (.int p4), .val (.int p5), .val (.int p6), .val (.ref a2), .val (.int v8), .val (.int v30), .val (.long v33), .second, .val (.int (1 : Int32)), .val (.ref a35), .unset] [(.int (1 : Int32))])) (fun t k => XS.goto X39.here hx rfl (pc0 := 168) (pc' := 172) rfl (hb hby at_168) (by decide) (by decide) k) ?_
        refine Gl.st (g' := (mkF m 174 #[.val (.int p1), .val (.int p2), .val (.int p3), .val (.int p4), .val (.int p5), .val (.int p6), .val (.ref a2), .val (.int v8), .val (.int v30), .val (.long v33), .second, .val (.int (1 : Int32)), .val (.ref a35), .val (.int (1 : Int32))] [])) (fun t k => XS.istore X39.here hx rfl (hb hby at_172) rfl (l' := #[.val (.int p1), .val (.int p2), .val (.int p3), .val (.int p4), .val (.int p5), .val (.int p6), .val (.ref a2), .val (.int v8), .val (.int v30), .val (.long v33), .second, .val (.int (1 : Int32)), .val (.ref a35), .val (.int (1 : Int32))]) rfl k) ?_
        refine Gl.st (g' := (mkF m 176 #[.val (.int p1), .val (.int p2), .val (.int p3), .val (.int p4), .val (.int p5), .val (.int p6), .val (.ref a2), .val (.int v8), .val (.int v30), .val (.long v33), .second, .val (.int (1 : Int32)), .val (.ref a35), .val (.int (1 : Int32))] [(.int (1 : Int32))])) (fun t k => XS.iload X39.here hx rfl (hb hby at_174) rfl k) ?_
        refine Gl.st (g' := (mkF m 179 #[.val (.int p1), .val (.int p2), .val (.int p3), .val (.int p4), .val (.int p5), .val (.int p6), .val (.ref a2), .val (.int v8), .val (.int v30), .val (.long v33), .second, .val (.int (1 : Int32)), .val (.ref a35), .val (.int (1 : Int32))] [])) (fun t k => XS.ifNo X39.here hx rfl (hb hby at_176) rfl (XT.i0_eq_f (by decide)) k) ?_
        refine Gl.st (g' := (mkF m 181 #[.val (.int p1), .val (.int p2), .val (.int p3), .val (.int p4), .val (.int p5), .val (.int p6), .val (.ref a2), .val (.int v8), .val (.int v30), .val (.long v33), .second, .val (.int (1 : Int32)), .val (.ref a35), .val (.int (1 : Int32))] [(.int (1 : Int32))])) (fun t k => XS.iload X39.here hx rfl (hb hby at_179) rfl k) ?_
        refine Gl.st (g' := (mkF m 184 #[.val (.int p1), .val (.int p2), .val (.int p3), .val (.int p4), .val (.int p5), .val (.int p6), .val (.ref a2), .val (.int v8), .val (.int v30), .val (.long v33), .second, .val (.int (1 : Int32)), .val (.ref a35), .val (.int (1 : Int32))] [])) (fun t k => XS.ifNo X39.here hx rfl (hb hby at_181) rfl (XT.i0_eq_f (by decide)) k) ?_
        refine Gl.st (g' := (mkF m 185 #[.val (.int p1), .val (.int p2), .val (.int p3), .val (.int p4), .val (.int p5), .val (.int p6), .val (.ref a2), .val (.int v8), .val (.int v30), .val (.long v33), .second, .val (.int (1 : Int32)), .val (.ref a35), .val (.int (1 : Int32))] [(.int (1 : Int32))])) (fun t k => XT.iconstV X39.here hx rfl (1 : Int32) (hb hby at_184) rfl k) ?_
        refine Gl.st (g' := (mkF m 189 #[.val (.int p1), .val (.int p2), .val (.int p3), .val (.int p4), .val (.int p5), .val (.int p6), .val (.ref a2), .val (.int v8), .val (.int v30), .val (.long v33), .second, .val (.int (1 : Int32)), .val (.ref a35), .val (.int (1 : Int32))] [(.int (1 : Int32))])) (fun t k => XS.goto X39.here hx rfl (pc0 := 185) (pc' := 189) rfl (hb hby at_185) (by decide) (by decide) k) ?_
        refine Gl.retZ X39 hx hlk .boolean (by simp) Bd.returns (hb hby at_189) e39 (by decide) (by decide) ?_
        rw [Q0, own_z1]
        exact ⟨rfl, N39⟩
      · skip
        refine Gl.st (g' := (mkF m 88 #[.val (.int p1), .val (.int p2), .val (.int p3), .val (.int p4), .val (.int p5), .val (.int p6), .val (.ref a2), .val (.int v8), .val (.int v30), .unset, .unset, .unset, .unset, .unset] [])) (fun t k => XS.icmpNo X29.here hx rfl (hb hby at_85) rfl (XT.ii_lt_f c31) k) ?_
        refine Gl.st (g' := (mkF m 90 #[.val (.int p1), .val (.int p2), .val (.int p3), .val (.int p4), .val (.int p5), .val (.int p6), .val (.ref a2), .val (.int v8), .val (.int v30), .unset, .unset, .unset, .unset, .unset] [(.int v30)])) (fun t k => XS.iload X29.here hx rfl (hb hby at_88) rfl k) ?_
        refine Gl.st (g' := (mkF m 92 #[.val (.int p1), .val (.int p2), .val (.int p3), .val (.int p4), .val (.int p5), .val (.int p6), .val (.ref a2), .val (.int v8), .val (.int v30), .unset, .unset, .unset, .unset, .unset] [(.ref a2), (.int v30)])) (fun t k => XS.aload X29.here hx rfl (hb hby at_90) rfl rfl k) ?_
        refine Gl.st (g' := (mkF m 93 #[.val (.int p1), .val (.int p2), .val (.int p3), .val (.int p4), .val (.int p5), .val (.int p6), .val (.ref a2), .val (.int v8), .val (.int v30), .unset, .unset, .unset, .unset, .unset] [(.int (2 : Int32)), (.ref a2), (.int v30)])) (fun t k => XT.iconstV X29.here hx rfl (2 : Int32) (hb hby at_92) rfl k) ?_
        refine Gl.st (g' := (mkF m 94 #[.val (.int p1), .val (.int p2), .val (.int p3), .val (.int p4), .val (.int p5), .val (.int p6), .val (.ref a2), .val (.int v8), .val (.int v30), .unset, .unset, .unset, .unset, .unset] [(.int b5), (.int v30)])) (own_ldB X29 hx hZ e29 V7 (j := (2 : Int32)) (v := (.int b5)) (by decide) rfl (g := (mkF m 93 #[.val (.int p1), .val (.int p2), .val (.int p3), .val (.int p4), .val (.int p5), .val (.int p6), .val (.ref a2), .val (.int v8), .val (.int v30), .unset, .unset, .unset, .unset, .unset] [(.int (2 : Int32)), (.ref a2), (.int v30)])) rfl rfl (hb hby at_93)) ?_
        obtain ⟨_, _, ⟨T40, L40, k40, n40⟩, -, X40, ⟨Lc40, hQ40, l40, y40, z40⟩, st40⟩ := Jvm.LawKit.callS X29 hx (y := (⟨"keyhalo/KeyHashOneAtATimePinLaw", "step", "(IB)I"⟩ : MethodName)) hown (mvT hZ (hw _ (List.mem_of_getElem? (i := 17) rfl))) (mvT hZ (hw _ (List.mem_of_getElem? (i := 18) rfl))) (mvT hZ (hw _ (List.mem_of_getElem? (i := 3) rfl))) (mvT hZ (hw _ (List.mem_of_getElem? (i := 19) rfl))) (by decide) (backOf (W := 0) (rm2 l Z a0 hw v30 b5  h7 n0 Z7 ) hZ (hw _ (List.mem_of_getElem? (i := 19) rfl)) (hw _ (List.mem_of_getElem? (i := 3) rfl)) (by decide) (by decide)) (g := (mkF m 94 #[.val (.int p1), .val (.int p2), .val (.int p3), .val (.int p4), .val (.int p5), .val (.int p6), .val (.ref a2), .val (.int v8), .val (.int v30), .unset, .unset, .unset, .unset, .unset] [(.int b5), (.int v30)])) rfl (by rw [hml]; rfl) (argsL := [(.int v30), (.int b5)]) (rest := []) (lenOf pd_1 rfl) rfl (by show 2 * 0 + _ ≤ _; exact Nat.le_of_eq rfl) (hb hby at_94) (fun _ _ => ⟨rfl, e29, (by decide : 0 + 1 + 0 + 0 + 0 ≤ _), (by decide : 0 + 5 + 0 + 0 + 0 ≤ _)⟩)
        dsimp only [Pt.U, Pt.locs, Pt.cells, Pt.slots] at X40 l40 y40 z40 st40 hQ40
        subst l40 y40 z40
        obtain ⟨rfl, Nq40, e40⟩ := hQ40
        have N40 := Fr.app N29 Nq40
        refine Gl.st (g' := (mkF m 97 #[.val (.int p1), .val (.int p2), .val (.int p3), .val (.int p4), .val (.int p5), .val (.int p6), .val (.ref a2), .val (.int v8), .val (.int v30), .unset, .unset, .unset, .unset, .unset] [(.int (own_stL v30 b5))])) st40 ?_
        generalize hv41 : (own_stL v30 b5) = v41
        refine Gl.st (g' := (mkF m 99 #[.val (.int p1), .val (.int p2), .val (.int p3), .val (.int p4), .val (.int p5), .val (.int p6), .val (.ref a2), .val (.int v8), .val (.int v41), .unset, .unset, .unset, .unset, .unset] [])) (fun t k => XS.istore X40.here hx rfl (hb hby at_97) rfl (l' := #[.val (.int p1), .val (.int p2), .val (.int p3), .val (.int p4), .val (.int p5), .val (.int p6), .val (.ref a2), .val (.int v8), .val (.int v41), .unset, .unset, .unset, .unset, .unset]) rfl k) ?_
        refine Gl.st (g' := (mkF m 101 #[.val (.int p1), .val (.int p2), .val (.int p3), .val (.int p4), .val (.int p5), .val (.int p6), .val (.ref a2), .val (.int v8), .val (.int v41), .unset, .unset, .unset, .unset, .unset] [(.int v8)])) (fun t k => XS.iload X40.here hx rfl (hb hby at_99) rfl k) ?_
        refine Gl.st (g' := (mkF m 102 #[.val (.int p1), .val (.int p2), .val (.int p3), .val (.int p4), .val (.int p5), .val (.int p6), .val (.ref a2), .val (.int v8), .val (.int v41), .unset, .unset, .unset, .unset, .unset] [(.int (4 : Int32)), (.int v8)])) (fun t k => XT.iconstV X40.here hx rfl (4 : Int32) (hb hby at_101) rfl k) ?_
        by_cases c42 : v8 < (4 : Int32)
        · skip
          refine Gl.st (g' := (mkF m 116 #[.val (.int p1), .val (.int p2), .val (.int p3), .val (.int p4), .val (.int p5), .val (.int p6), .val (.ref a2), .val (.int v8), .val (.int v41), .unset, .unset, .unset, .unset, .unset] [])) (fun t k => XS.icmpYes X40.here hx rfl (pc0 := 102) (pc' := 116) rfl (hb hby at_102) rfl (XT.ii_lt_t c42) (by decide) (by decide) k) ?_
          refine Gl.st (g' := (mkF m 118 #[.val (.int p1), .val (.int p2), .val (.int p3), .val (.int p4), .val (.int p5), .val (.int p6), .val (.ref a2), .val (.int v8), .val (.int v41), .unset, .unset, .unset, .unset, .unset] [(.int v41)])) (fun t k => XS.iload X40.here hx rfl (hb hby at_116) rfl k) ?_
          obtain ⟨_, _, ⟨T43, L43, k43, n43⟩, -, X43, ⟨Lc43, hQ43, l43, y43, z43⟩, st43⟩ := Jvm.LawKit.callS X40 hx (y := (⟨"keyhalo/KeyHashOneAtATimePinLaw", "fin", "(I)J"⟩ : MethodName)) hown (mvT hZ (hw _ (List.mem_of_getElem? (i := 1) rfl))) (mvT hZ (hw _ (List.mem_of_getElem? (i := 2) rfl))) (mvT hZ (hw _ (List.mem_of_getElem? (i := 3) rfl))) (mvT hZ (hw _ (List.mem_of_getElem? (i := 4) rfl))) (by decide) (backOf (W := 0) (rm3 l Z a0 hw v41  h7 n0 Z7 ) hZ (hw _ (List.mem_of_getElem? (i := 4) rfl)) (hw _ (List.mem_of_getElem? (i := 3) rfl)) (by decide) (by decide)) (g := (mkF m 118 #[.val (.int p1), .val (.int p2), .val (.int p3), .val (.int p4), .val (.int p5), .val (.int p6), .val (.ref a2), .val (.int v8), .val (.int v41), .unset, .unset, .unset, .unset, .unset] [(.int v41)])) rfl (by rw [hml]; rfl) (argsL := [(.int v41)]) (rest := []) (lenOf pd_0 rfl) rfl (by show 2 * 0 + _ ≤ _; exact Nat.le_of_eq rfl) (hb hby at_118) (fun _ _ => ⟨rfl, e40, (by decide : 0 + 1 + 0 + 0 + 0 + 0 ≤ _), (by decide : 0 + 5 + 0 + 0 + 0 + 0 ≤ _)⟩)
          dsimp only [Pt.U, Pt.locs, Pt.cells, Pt.slots] at X43 l43 y43 z43 st43 hQ43
          subst l43 y43 z43
          obtain ⟨rfl, Nq43, e43⟩ := hQ43
          have N43 := Fr.app N40 Nq43
          refine Gl.st (g' := (mkF m 121 #[.val (.int p1), .val (.int p2), .val (.int p3), .val (.int p4), .val (.int p5), .val (.int p6), .val (.ref a2), .val (.int v8), .val (.int v41), .unset, .unset, .unset, .unset, .unset] [(.long (own_finL v41))])) st43 ?_
          generalize hv44 : (own_finL v41) = v44
          refine Gl.st (g' := (mkF m 123 #[.val (.int p1), .val (.int p2), .val (.int p3), .val (.int p4), .val (.int p5), .val (.int p6), .val (.ref a2), .val (.int v8), .val (.int v41), .val (.long v44), .second, .unset, .unset, .unset] [])) (fun t k => XS.lstore X43.here hx rfl (hb hby at_121) rfl (l' := #[.val (.int p1), .val (.int p2), .val (.int p3), .val (.int p4), .val (.int p5), .val (.int p6), .val (.ref a2), .val (.int v8), .val (.int v41), .val (.long v44), .second, .unset, .unset, .unset]) rfl k) ?_
          refine Gl.st (g' := (mkF m 125 #[.val (.int p1), .val (.int p2), .val (.int p3), .val (.int p4), .val (.int p5), .val (.int p6), .val (.ref a2), .val (.int v8), .val (.int v41), .val (.long v44), .second, .unset, .unset, .unset] [(.ref a2)])) (fun t k => XS.aload X43.here hx rfl (hb hby at_123) rfl rfl k) ?_
          refine Gl.st (g' := (mkF m 127 #[.val (.int p1), .val (.int p2), .val (.int p3), .val (.int p4), .val (.int p5), .val (.int p6), .val (.ref a2), .val (.int v8), .val (.int v41), .val (.long v44), .second, .unset, .unset, .unset] [(.int v8), (.ref a2)])) (fun t k => XS.iload X43.here hx rfl (hb hby at_125) rfl k) ?_
          obtain ⟨_, _, ⟨T45, L45, k45, n45⟩, -, X45, ⟨Lc45, hQ45, l45, y45, z45⟩, st45⟩ := Jvm.LawKit.callS X43 hx (y := (⟨"keyhalo/KeyHash", "oneAtATime", "([BI)J"⟩ : MethodName)) hown (mvT hZ (hw _ (List.mem_of_getElem? (i := 7) rfl))) (mvT hZ (hw _ (List.mem_of_getElem? (i := 8) rfl))) (mvT hZ (hw _ (List.mem_of_getElem? (i := 9) rfl))) (mvT hZ (hw _ (List.mem_of_getElem? (i := 10) rfl))) (by decide) (backOf (W := 0) (rm4 l Z a0 hw a2 v8 [b3, b4, b5, b6, b7] 3 cA2 (5 : Int32) h7 n0 Z7 V7 (own_pin (3 : Int32) c31 c42 (by decide)) (by decide : 3 ≤ 5) rfl (by decide : 5 ≤ 16)) hZ (hw _ (List.mem_of_getElem? (i := 10) rfl)) (hw _ (List.mem_of_getElem? (i := 9) rfl)) (by decide) (by decide)) (g := (mkF m 127 #[.val (.int p1), .val (.int p2), .val (.int p3), .val (.int p4), .val (.int p5), .val (.int p6), .val (.ref a2), .val (.int v8), .val (.int v41), .val (.long v44), .second, .unset, .unset, .unset] [(.int v8), (.ref a2)])) rfl (by rw [hml]; rfl) (argsL := [(.ref a2), (.int v8)]) (rest := []) (lenOf pd_2 rfl) rfl (by show 2 * 0 + _ ≤ _; exact Nat.le_of_eq rfl) (hb hby at_127) (fun _ _ => ⟨rfl, e43, (by decide : 0 + 1 + 0 + 0 + 0 + 0 + 0 ≤ _), (by decide : 0 + 5 + 0 + 0 + 0 + 0 + 0 ≤ _)⟩)
          dsimp only [Pt.U, Pt.locs, Pt.cells, Pt.slots] at X45 l45 y45 z45 st45 hQ45
          subst l45 y45 z45
          obtain ⟨rfl, Nq45, e45⟩ := hQ45
          have N45 := Fr.app N43 Nq45
          refine Gl.st (g' := (mkF m 130 #[.val (.int p1), .val (.int p2), .val (.int p3), .val (.int p4), .val (.int p5), .val (.int p6), .val (.ref a2), .val (.int v8), .val (.int v41), .val (.long v44), .second, .unset, .unset, .unset] [(.long (own_oat [b3, b4, b5, b6, b7] 3))])) st45 ?_
          refine Gl.st (g' := (mkF m 132 #[.val (.int p1), .val (.int p2), .val (.int p3), .val (.int p4), .val (.int p5), .val (.int p6), .val (.ref a2), .val (.int v8), .val (.int v41), .val (.long v44), .second, .unset, .unset, .unset] [(.long v44), (.long (own_oat [b3, b4, b5, b6, b7] 3))])) (fun t k => XS.lload X45.here hx rfl (hb hby at_130) rfl k) ?_
          refine Gl.st (g' := (mkF m 133 #[.val (.int p1), .val (.int p2), .val (.int p3), .val (.int p4), .val (.int p5), .val (.int p6), .val (.ref a2), .val (.int v8), .val (.int v41), .val (.long v44), .second, .unset, .unset, .unset] [(.int (XT.cmpL (own_oat [b3, b4, b5, b6, b7] 3) v44))])) (fun t k => XT.lcmp X45.here hx rfl (hb hby at_132) rfl k) ?_
          refine Gl.st (g' := (mkF m 136 #[.val (.int p1), .val (.int p2), .val (.int p3), .val (.int p4), .val (.int p5), .val (.int p6), .val (.ref a2), .val (.int v8), .val (.int v41), .val (.long v44), .second, .unset, .unset, .unset] [])) (fun t k => XS.ifNo X45.here hx rfl (hb hby at_133) rfl (XT.ll_ne_f ((own_oat_eq _ _).trans (by subst hv19 hv30 hv41 hv44; rfl))) k) ?_
          refine Gl.st (g' := (mkF m 137 #[.val (.int p1), .val (.int p2), .val (.int p3), .val (.int p4), .val (.int p5), .val (.int p6), .val (.ref a2), .val (.int v8), .val (.int v41), .val (.long v44), .second, .unset, .unset, .unset] [(.int (1 : Int32))])) (fun t k => XT.iconstV X45.here hx rfl (1 : Int32) (hb hby at_136) rfl k) ?_
          refine Gl.st (g' := (mkF m 141 #[.val (.int p1), .val (.int p2), .val (.int p3), .val (.int p4), .val (.int p5), .val (.int p6), .val (.ref a2), .val (.int v8), .val (.int v41), .val (.long v44), .second, .unset, .unset, .unset] [(.int (1 : Int32))])) (fun t k => XS.goto X45.here hx rfl (pc0 := 137) (pc' := 141) rfl (hb hby at_137) (by decide) (by decide) k) ?_
          refine Gl.st (g' := (mkF m 143 #[.val (.int p1), .val (.int p2), .val (.int p3), .val (.int p4), .val (.int p5), .val (.int p6), .val (.ref a2), .val (.int v8), .val (.int v41), .val (.long v44), .second, .val (.int (1 : Int32)), .unset, .unset] [])) (fun t k => XS.istore X45.here hx rfl (hb hby at_141) rfl (l' := #[.val (.int p1), .val (.int p2), .val (.int p3), .val (.int p4), .val (.int p5), .val (.int p6), .val (.ref a2), .val (.int v8), .val (.int v41), .val (.long v44), .second, .val (.int (1 : Int32)), .unset, .unset]) rfl k) ?_
          refine Gl.st (g' := (mkF m 144 #[.val (.int p1), .val (.int p2), .val (.int p3), .val (.int p4), .val (.int p5), .val (.int p6), .val (.ref a2), .val (.int v8), .val (.int v41), .val (.long v44), .second, .val (.int (1 : Int32)), .unset, .unset] [(.int (1 : Int32))])) (fun t k => XT.iconstV X45.here hx rfl (1 : Int32) (hb hby at_143) rfl k) ?_
          obtain ⟨T46, h46, cA46, X46, e46, E46, A46, st46⟩ := newP X45 hx hZ (hw _ (List.mem_of_getElem? (i := 0) rfl)) e45 (g := (mkF m 144 #[.val (.int p1), .val (.int p2), .val (.int p3), .val (.int p4), .val (.int p5), .val (.int p6), .val (.ref a2), .val (.int v8), .val (.int v41), .val (.long v44), .second, .val (.int (1 : Int32)), .unset, .unset] [(.int (1 : Int32))])) rfl (hb hby at_144) rfl (by decide) (cap := 1) (by decide) (by decide) (by decide) (by decide)
          obtain ⟨a46, g46⟩ : ∃ z, z = h7.size := ⟨_, rfl⟩
          have ge46 : n0 ≤ a46 := Nat.le_trans Z7 (Nat.le_of_eq g46.symm)
          have ne_a2_46 : a2 ≠ a46 := fun q => absurd (g46 ▸ q ▸ (V7.lt : a2 < h7.size)) (Nat.lt_irrefl _)
          rw [← g46] at A46 st46
          have Z46 : n0 ≤ h46.size := Nat.le_trans Z7 E46.1
          have V46 : Arv Z h46 a46 cA46 .byte (1 : Int32) [(.int (0 : Int32))] (.int (0 : Int32)) := (Arv.new A46 (by decide)).pad (pad_rep [] _ 1)
          have V47 : Arv Z h46 a2 cA2 .byte (5 : Int32) [(.int b3), (.int b4), (.int b5), (.int b6), (.int b7)] (.int (0 : Int32)) := (V7.ext E46)
          refine Gl.st (g' := (mkF m 146 #[.val (.int p1), .val (.int p2), .val (.int p3), .val (.int p4), .val (.int p5), .val (.int p6), .val (.ref a2), .val (.int v8), .val (.int v41), .val (.long v44), .second, .val (.int (1 : Int32)), .unset, .unset] [(.ref a46)])) st46 ?_
          refine Gl.st (g' := (mkF m 148 #[.val (.int p1), .val (.int p2), .val (.int p3), .val (.int p4), .val (.int p5), .val (.int p6), .val (.ref a2), .val (.int v8), .val (.int v41), .val (.long v44), .second, .val (.int (1 : Int32)), .val (.ref a46), .unset] [])) (fun t k => XS.astore X46.here hx rfl (hb hby at_146) rfl rfl (l' := #[.val (.int p1), .val (.int p2), .val (.int p3), .val (.int p4), .val (.int p5), .val (.int p6), .val (.ref a2), .val (.int v8), .val (.int v41), .val (.long v44), .second, .val (.int (1 : Int32)), .val (.ref a46), .unset]) rfl k) ?_
          refine Gl.st (g' := (mkF m 150 #[.val (.int p1), .val (.int p2), .val (.int p3), .val (.int p4), .val (.int p5), .val (.int p6), .val (.ref a2), .val (.int v8), .val (.int v41), .val (.long v44), .second, .val (.int (1 : Int32)), .val (.ref a46), .unset] [(.ref a46)])) (fun t k => XS.aload X46.here hx rfl (hb hby at_148) rfl rfl k) ?_
          refine Gl.st (g' := (mkF m 151 #[.val (.int p1), .val (.int p2), .val (.int p3), .val (.int p4), .val (.int p5), .val (.int p6), .val (.ref a2), .val (.int v8), .val (.int v41), .val (.long v44), .second, .val (.int (1 : Int32)), .val (.ref a46), .unset] [(.int (0 : Int32)), (.ref a46)])) (fun t k => XT.iconstV X46.here hx rfl (0 : Int32) (hb hby at_150) rfl k) ?_
          refine Gl.st (g' := (mkF m 153 #[.val (.int p1), .val (.int p2), .val (.int p3), .val (.int p4), .val (.int p5), .val (.int p6), .val (.ref a2), .val (.int v8), .val (.int v41), .val (.long v44), .second, .val (.int (1 : Int32)), .val (.ref a46), .unset] [(.int (97 : Int32)), (.int (0 : Int32)), (.ref a46)])) (fun t k => XT.bipushV X46.here hx rfl (97 : Int32) (hb hby at_151) rfl k) ?_
          obtain ⟨T48, h48, b48, X48, e48, W48, hb48, V48, st48⟩ := own_stB X46 hx hZ e46 V46 (j := (0 : Int32)) (by decide) 0 (by decide) (by decide : 0 < 1) (g := (mkF m 153 #[.val (.int p1), .val (.int p2), .val (.int p3), .val (.int p4), .val (.int p5), .val (.int p6), .val (.ref a2), .val (.int v8), .val (.int v41), .val (.long v44), .second, .val (.int (1 : Int32)), .val (.ref a46), .unset] [(.int (97 : Int32)), (.int (0 : Int32)), (.ref a46)])) rfl rfl (hb hby at_153)
          have N48 := Fr.snoc X48 N45 ge46
          have Z48 : n0 ≤ h48.size := Nat.le_trans Z46 (Keep.of_wr W48).1
          change Arv Z h48 a46 cA46 .byte (1 : Int32) [(.int b48)] (.int (0 : Int32)) at V48
          have V49 : Arv Z h48 a2 cA2 .byte (5 : Int32) [(.int b3), (.int b4), (.int b5), (.int b6), (.int b7)] (.int (0 : Int32)) := (V47.other W48 ne_a2_46)
          refine Gl.st (g' := (mkF m 154 #[.val (.int p1), .val (.int p2), .val (.int p3), .val (.int p4), .val (.int p5), .val (.int p6), .val (.ref a2), .val (.int v8), .val (.int v41), .val (.long v44), .second, .val (.int (1 : Int32)), .val (.ref a46), .unset] [])) st48 ?_
          refine Gl.st (g' := (mkF m 156 #[.val (.int p1), .val (.int p2), .val (.int p3), .val (.int p4), .val (.int p5), .val (.int p6), .val (.ref a2), .val (.int v8), .val (.int v41), .val (.long v44), .second, .val (.int (1 : Int32)), .val (.ref a46), .unset] [(.ref a46)])) (fun t k => XS.aload X48.here hx rfl (hb hby at_154) rfl rfl k) ?_
          refine Gl.st (g' := (mkF m 157 #[.val (.int p1), .val (.int p2), .val (.int p3), .val (.int p4), .val (.int p5), .val (.int p6), .val (.ref a2), .val (.int v8), .val (.int v41), .val (.long v44), .second, .val (.int (1 : Int32)), .val (.ref a46), .unset] [(.int (1 : Int32)), (.ref a46)])) (fun t k => XT.iconstV X48.here hx rfl (1 : Int32) (hb hby at_156) rfl k) ?_
          obtain ⟨_, _, ⟨T50, L50, k50, n50⟩, -, X50, ⟨Lc50, hQ50, l50, y50, z50⟩, st50⟩ := Jvm.LawKit.callS X48 hx (y := (⟨"keyhalo/KeyHash", "oneAtATime", "([BI)J"⟩ : MethodName)) hown (mvT hZ (hw _ (List.mem_of_getElem? (i := 7) rfl))) (mvT hZ (hw _ (List.mem_of_getElem? (i := 8) rfl))) (mvT hZ (hw _ (List.mem_of_getElem? (i := 9) rfl))) (mvT hZ (hw _ (List.mem_of_getElem? (i := 10) rfl))) (by decide) (backOf (W := 0) (rm4 l Z a0 hw a46 (1 : Int32) [b48] 1 cA46 (1 : Int32) h48 n0 Z48 V48 rfl (by decide : 1 ≤ 1) rfl (by decide : 1 ≤ 16)) hZ (hw _ (List.mem_of_getElem? (i := 10) rfl)) (hw _ (List.mem_of_getElem? (i := 9) rfl)) (by decide) (by decide)) (g := (mkF m 157 #[.val (.int p1), .val (.int p2), .val (.int p3), .val (.int p4), .val (.int p5), .val (.int p6), .val (.ref a2), .val (.int v8), .val (.int v41), .val (.long v44), .second, .val (.int (1 : Int32)), .val (.ref a46), .unset] [(.int (1 : Int32)), (.ref a46)])) rfl (by rw [hml]; rfl) (argsL := [(.ref a46), (.int (1 : Int32))]) (rest := []) (lenOf pd_2 rfl) rfl (by show 2 * 0 + _ ≤ _; exact Nat.le_of_eq rfl) (hb hby at_157) (fun _ _ => ⟨rfl, e48, (by decide : 0 + 1 + 0 + 0 + 0 + 0 + 0 + 1 + 0 ≤ _), (by decide : 0 + 5 + 0 + 0 + 0 + 0 + 0 + 1 + 0 ≤ _)⟩)
          dsimp only [Pt.U, Pt.locs, Pt.cells, Pt.slots] at X50 l50 y50 z50 st50 hQ50
          subst l50 y50 z50
          obtain ⟨rfl, Nq50, e50⟩ := hQ50
          have N50 := Fr.app N48 Nq50
          refine Gl.st (g' := (mkF m 160 #[.val (.int p1), .val (.int p2), .val (.int p3), .val (.int p4), .val (.int p5), .val (.int p6), .val (.ref a2), .val (.int v8), .val (.int v41), .val (.long v44), .second, .val (.int (1 : Int32)), .val (.ref a46), .unset] [(.long (own_oat [b48] 1))])) st50 ?_
          refine Gl.st (g' := (mkF m 163 #[.val (.int p1), .val (.int p2), .val (.int p3), .val (.int p4), .val (.int p5), .val (.int p6), .val (.ref a2), .val (.int v8), .val (.int v41), .val (.long v44), .second, .val (.int (1 : Int32)), .val (.ref a46), .unset] [(.long (3392050242 : Int64)), (.long (own_oat [b48] 1))])) (fun t k => X50.ldc2J hx hown (mvT hZ (hw _ (List.mem_of_getElem? (i := 16) rfl))) rfl (hb hby at_160) k) ?_
          refine Gl.st (g' := (mkF m 164 #[.val (.int p1), .val (.int p2), .val (.int p3), .val (.int p4), .val (.int p5), .val (.int p6), .val (.ref a2), .val (.int v8), .val (.int v41), .val (.long v44), .second, .val (.int (1 : Int32)), .val (.ref a46), .unset] [(.int (XT.cmpL (own_oat [b48] 1) (3392050242 : Int64)))])) (fun t k => XT.lcmp X50.here hx rfl (hb hby at_163) rfl k) ?_
          refine Gl.st (g' := (mkF m 167 #[.val (.int p1), .val (.int p2), .val (.int p3), .val (.int p4), .val (.int p5), .val (.int p6), .val (.ref a2), .val (.int v8), .val (.int v41), .val (.long v44), .second, .val (.int (1 : Int32)), .val (.ref a46), .unset] [])) (fun t k => XS.ifNo X50.here hx rfl (hb hby at_164) rfl (XT.ll_ne_f (own_anchor hb48)) k) ?_
          refine Gl.st (g' := (mkF m 168 #[.val (.int p1), .val (.int p2), .val (.int p3), .val (.int p4), .val (.int p5), .val (.int p6), .val (.ref a2), .val (.int v8), .val (.int v41), .val (.long v44), .second, .val (.int (1 : Int32)), .val (.ref a46), .unset] [(.int (1 : Int32))])) (fun t k => XT.iconstV X50.here hx rfl (1 : Int32) (hb hby at_167) rfl k) ?_
          refine Gl.st (g' := (mkF m 172 #[.val (.int p1), .val (.int p2), .val (.int p3), .val (.int p4), .val (.int p5), .val (.int p6), .val (.ref a2), .val (.int v8), .val (.int v41), .val (.long v44), .second, .val (.int (1 : Int32)), .val (.ref a46), .unset] [(.int (1 : Int32))])) (fun t k => XS.goto X50.here hx rfl (pc0 := 168) (pc' := 172) rfl (hb hby at_168) (by decide) (by decide) k) ?_
          refine Gl.st (g' := (mkF m 174 #[.val (.int p1), .val (.int p2), .val (.int p3), .val (.int p4), .val (.int p5), .val (.int p6), .val (.ref a2), .val (.int v8), .val (.int v41), .val (.long v44), .second, .val (.int (1 : Int32)), .val (.ref a46), .val (.int (1 : Int32))] [])) (fun t k => XS.istore X50.here hx rfl (hb hby at_172) rfl (l' := #[.val (.int p1), .val (.int p2), .val (.int p3), .val (.int p4), .val (.int p5), .val (.int p6), .val (.ref a2), .val (.int v8), .val (.int v41), .val (.long v44), .second, .val (.int (1 : Int32)), .val (.ref a46), .val (.int (1 : Int32))]) rfl k) ?_
          refine Gl.st (g' := (mkF m 176 #[.val (.int p1), .val (.int p2), .val (.int p3), .val (.int p4), .val (.int p5), .val (.int p6), .val (.ref a2), .val (.int v8), .val (.int v41), .val (.long v44), .second, .val (.int (1 : Int32)), .val (.ref a46), .val (.int (1 : Int32))] [(.int (1 : Int32))])) (fun t k => XS.iload X50.here hx rfl (hb hby at_174) rfl k) ?_
          refine Gl.st (g' := (mkF m 179 #[.val (.int p1), .val (.int p2), .val (.int p3), .val (.int p4), .val (.int p5), .val (.int p6), .val (.ref a2), .val (.int v8), .val (.int v41), .val (.long v44), .second, .val (.int (1 : Int32)), .val (.ref a46), .val (.int (1 : Int32))] [])) (fun t k => XS.ifNo X50.here hx rfl (hb hby at_176) rfl (XT.i0_eq_f (by decide)) k) ?_
          refine Gl.st (g' := (mkF m 181 #[.val (.int p1), .val (.int p2), .val (.int p3), .val (.int p4), .val (.int p5), .val (.int p6), .val (.ref a2), .val (.int v8), .val (.int v41), .val (.long v44), .second, .val (.int (1 : Int32)), .val (.ref a46), .val (.int (1 : Int32))] [(.int (1 : Int32))])) (fun t k => XS.iload X50.here hx rfl (hb hby at_179) rfl k) ?_
          refine Gl.st (g' := (mkF m 184 #[.val (.int p1), .val (.int p2), .val (.int p3), .val (.int p4), .val (.int p5), .val (.int p6), .val (.ref a2), .val (.int v8), .val (.int v41), .val (.long v44), .second, .val (.int (1 : Int32)), .val (.ref a46), .val (.int (1 : Int32))] [])) (fun t k => XS.ifNo X50.here hx rfl (hb hby at_181) rfl (XT.i0_eq_f (by decide)) k) ?_
          refine Gl.st (g' := (mkF m 185 #[.val (.int p1), .val (.int p2), .val (.int p3), .val (.int p4), .val (.int p5), .val (.int p6), .val (.ref a2), .val (.int v8), .val (.int v41), .val (.long v44), .second, .val (.int (1 : Int32)), .val (.ref a46), .val (.int (1 : Int32))] [(.int (1 : Int32))])) (fun t k => XT.iconstV X50.here hx rfl (1 : Int32) (hb hby at_184) rfl k) ?_
          refine Gl.st (g' := (mkF m 189 #[.val (.int p1), .val (.int p2), .val (.int p3), .val (.int p4), .val (.int p5), .val (.int p6), .val (.ref a2), .val (.int v8), .val (.int v41), .val (.long v44), .second, .val (.int (1 : Int32)), .val (.ref a46), .val (.int (1 : Int32))] [(.int (1 : Int32))])) (fun t k => XS.goto X50.here hx rfl (pc0 := 185) (pc' := 189) rfl (hb hby at_185) (by decide) (by decide) k) ?_
          refine Gl.retZ X50 hx hlk .boolean (by simp) Bd.returns (hb hby at_189) e50 (by decide) (by decide) ?_
          rw [Q0, own_z1]
          exact ⟨rfl, N50⟩
        · skip
          refine Gl.st (g' := (mkF m 105 #[.val (.int p1), .val (.int p2), .val (.int p3), .val (.int p4), .val (.int p5), .val (.int p6), .val (.ref a2), .val (.int v8), .val (.int v41), .unset, .unset, .unset, .unset, .unset] [])) (fun t k => XS.icmpNo X40.here hx rfl (hb hby at_102) rfl (XT.ii_lt_f c42) k) ?_
          refine Gl.st (g' := (mkF m 107 #[.val (.int p1), .val (.int p2), .val (.int p3), .val (.int p4), .val (.int p5), .val (.int p6), .val (.ref a2), .val (.int v8), .val (.int v41), .unset, .unset, .unset, .unset, .unset] [(.int v41)])) (fun t k => XS.iload X40.here hx rfl (hb hby at_105) rfl k) ?_
          refine Gl.st (g' := (mkF m 109 #[.val (.int p1), .val (.int p2), .val (.int p3), .val (.int p4), .val (.int p5), .val (.int p6), .val (.ref a2), .val (.int v8), .val (.int v41), .unset, .unset, .unset, .unset, .unset] [(.ref a2), (.int v41)])) (fun t k => XS.aload X40.here hx rfl (hb hby at_107) rfl rfl k) ?_
          refine Gl.st (g' := (mkF m 110 #[.val (.int p1), .val (.int p2), .val (.int p3), .val (.int p4), .val (.int p5), .val (.int p6), .val (.ref a2), .val (.int v8), .val (.int v41), .unset, .unset, .unset, .unset, .unset] [(.int (3 : Int32)), (.ref a2), (.int v41)])) (fun t k => XT.iconstV X40.here hx rfl (3 : Int32) (hb hby at_109) rfl k) ?_
          refine Gl.st (g' := (mkF m 111 #[.val (.int p1), .val (.int p2), .val (.int p3), .val (.int p4), .val (.int p5), .val (.int p6), .val (.ref a2), .val (.int v8), .val (.int v41), .unset, .unset, .unset, .unset, .unset] [(.int b6), (.int v41)])) (own_ldB X40 hx hZ e40 V7 (j := (3 : Int32)) (v := (.int b6)) (by decide) rfl (g := (mkF m 110 #[.val (.int p1), .val (.int p2), .val (.int p3), .val (.int p4), .val (.int p5), .val (.int p6), .val (.ref a2), .val (.int v8), .val (.int v41), .unset, .unset, .unset, .unset, .unset] [(.int (3 : Int32)), (.ref a2), (.int v41)])) rfl rfl (hb hby at_110)) ?_
          obtain ⟨_, _, ⟨T51, L51, k51, n51⟩, -, X51, ⟨Lc51, hQ51, l51, y51, z51⟩, st51⟩ := Jvm.LawKit.callS X40 hx (y := (⟨"keyhalo/KeyHashOneAtATimePinLaw", "step", "(IB)I"⟩ : MethodName)) hown (mvT hZ (hw _ (List.mem_of_getElem? (i := 17) rfl))) (mvT hZ (hw _ (List.mem_of_getElem? (i := 18) rfl))) (mvT hZ (hw _ (List.mem_of_getElem? (i := 3) rfl))) (mvT hZ (hw _ (List.mem_of_getElem? (i := 19) rfl))) (by decide) (backOf (W := 0) (rm2 l Z a0 hw v41 b6  h7 n0 Z7 ) hZ (hw _ (List.mem_of_getElem? (i := 19) rfl)) (hw _ (List.mem_of_getElem? (i := 3) rfl)) (by decide) (by decide)) (g := (mkF m 111 #[.val (.int p1), .val (.int p2), .val (.int p3), .val (.int p4), .val (.int p5), .val (.int p6), .val (.ref a2), .val (.int v8), .val (.int v41), .unset, .unset, .unset, .unset, .unset] [(.int b6), (.int v41)])) rfl (by rw [hml]; rfl) (argsL := [(.int v41), (.int b6)]) (rest := []) (lenOf pd_1 rfl) rfl (by show 2 * 0 + _ ≤ _; exact Nat.le_of_eq rfl) (hb hby at_111) (fun _ _ => ⟨rfl, e40, (by decide : 0 + 1 + 0 + 0 + 0 + 0 ≤ _), (by decide : 0 + 5 + 0 + 0 + 0 + 0 ≤ _)⟩)
          dsimp only [Pt.U, Pt.locs, Pt.cells, Pt.slots] at X51 l51 y51 z51 st51 hQ51
          subst l51 y51 z51
          obtain ⟨rfl, Nq51, e51⟩ := hQ51
          have N51 := Fr.app N40 Nq51
          refine Gl.st (g' := (mkF m 114 #[.val (.int p1), .val (.int p2), .val (.int p3), .val (.int p4), .val (.int p5), .val (.int p6), .val (.ref a2), .val (.int v8), .val (.int v41), .unset, .unset, .unset, .unset, .unset] [(.int (own_stL v41 b6))])) st51 ?_
          generalize hv52 : (own_stL v41 b6) = v52
          refine Gl.st (g' := (mkF m 116 #[.val (.int p1), .val (.int p2), .val (.int p3), .val (.int p4), .val (.int p5), .val (.int p6), .val (.ref a2), .val (.int v8), .val (.int v52), .unset, .unset, .unset, .unset, .unset] [])) (fun t k => XS.istore X51.here hx rfl (hb hby at_114) rfl (l' := #[.val (.int p1), .val (.int p2), .val (.int p3), .val (.int p4), .val (.int p5), .val (.int p6), .val (.ref a2), .val (.int v8), .val (.int v52), .unset, .unset, .unset, .unset, .unset]) rfl k) ?_
          refine Gl.st (g' := (mkF m 118 #[.val (.int p1), .val (.int p2), .val (.int p3), .val (.int p4), .val (.int p5), .val (.int p6), .val (.ref a2), .val (.int v8), .val (.int v52), .unset, .unset, .unset, .unset, .unset] [(.int v52)])) (fun t k => XS.iload X51.here hx rfl (hb hby at_116) rfl k) ?_
          obtain ⟨_, _, ⟨T53, L53, k53, n53⟩, -, X53, ⟨Lc53, hQ53, l53, y53, z53⟩, st53⟩ := Jvm.LawKit.callS X51 hx (y := (⟨"keyhalo/KeyHashOneAtATimePinLaw", "fin", "(I)J"⟩ : MethodName)) hown (mvT hZ (hw _ (List.mem_of_getElem? (i := 1) rfl))) (mvT hZ (hw _ (List.mem_of_getElem? (i := 2) rfl))) (mvT hZ (hw _ (List.mem_of_getElem? (i := 3) rfl))) (mvT hZ (hw _ (List.mem_of_getElem? (i := 4) rfl))) (by decide) (backOf (W := 0) (rm3 l Z a0 hw v52  h7 n0 Z7 ) hZ (hw _ (List.mem_of_getElem? (i := 4) rfl)) (hw _ (List.mem_of_getElem? (i := 3) rfl)) (by decide) (by decide)) (g := (mkF m 118 #[.val (.int p1), .val (.int p2), .val (.int p3), .val (.int p4), .val (.int p5), .val (.int p6), .val (.ref a2), .val (.int v8), .val (.int v52), .unset, .unset, .unset, .unset, .unset] [(.int v52)])) rfl (by rw [hml]; rfl) (argsL := [(.int v52)]) (rest := []) (lenOf pd_0 rfl) rfl (by show 2 * 0 + _ ≤ _; exact Nat.le_of_eq rfl) (hb hby at_118) (fun _ _ => ⟨rfl, e51, (by decide : 0 + 1 + 0 + 0 + 0 + 0 + 0 ≤ _), (by decide : 0 + 5 + 0 + 0 + 0 + 0 + 0 ≤ _)⟩)
          dsimp only [Pt.U, Pt.locs, Pt.cells, Pt.slots] at X53 l53 y53 z53 st53 hQ53
          subst l53 y53 z53
          obtain ⟨rfl, Nq53, e53⟩ := hQ53
          have N53 := Fr.app N51 Nq53
          refine Gl.st (g' := (mkF m 121 #[.val (.int p1), .val (.int p2), .val (.int p3), .val (.int p4), .val (.int p5), .val (.int p6), .val (.ref a2), .val (.int v8), .val (.int v52), .unset, .unset, .unset, .unset, .unset] [(.long (own_finL v52))])) st53 ?_
          generalize hv54 : (own_finL v52) = v54
          refine Gl.st (g' := (mkF m 123 #[.val (.int p1), .val (.int p2), .val (.int p3), .val (.int p4), .val (.int p5), .val (.int p6), .val (.ref a2), .val (.int v8), .val (.int v52), .val (.long v54), .second, .unset, .unset, .unset] [])) (fun t k => XS.lstore X53.here hx rfl (hb hby at_121) rfl (l' := #[.val (.int p1), .val (.int p2), .val (.int p3), .val (.int p4), .val (.int p5), .val (.int p6), .val (.ref a2), .val (.int v8), .val (.int v52), .val (.long v54), .second, .unset, .unset, .unset]) rfl k) ?_
          refine Gl.st (g' := (mkF m 125 #[.val (.int p1), .val (.int p2), .val (.int p3), .val (.int p4), .val (.int p5), .val (.int p6), .val (.ref a2), .val (.int v8), .val (.int v52), .val (.long v54), .second, .unset, .unset, .unset] [(.ref a2)])) (fun t k => XS.aload X53.here hx rfl (hb hby at_123) rfl rfl k) ?_
          refine Gl.st (g' := (mkF m 127 #[.val (.int p1), .val (.int p2), .val (.int p3), .val (.int p4), .val (.int p5), .val (.int p6), .val (.ref a2), .val (.int v8), .val (.int v52), .val (.long v54), .second, .unset, .unset, .unset] [(.int v8), (.ref a2)])) (fun t k => XS.iload X53.here hx rfl (hb hby at_125) rfl k) ?_
          obtain ⟨_, _, ⟨T55, L55, k55, n55⟩, -, X55, ⟨Lc55, hQ55, l55, y55, z55⟩, st55⟩ := Jvm.LawKit.callS X53 hx (y := (⟨"keyhalo/KeyHash", "oneAtATime", "([BI)J"⟩ : MethodName)) hown (mvT hZ (hw _ (List.mem_of_getElem? (i := 7) rfl))) (mvT hZ (hw _ (List.mem_of_getElem? (i := 8) rfl))) (mvT hZ (hw _ (List.mem_of_getElem? (i := 9) rfl))) (mvT hZ (hw _ (List.mem_of_getElem? (i := 10) rfl))) (by decide) (backOf (W := 0) (rm4 l Z a0 hw a2 v8 [b3, b4, b5, b6, b7] 4 cA2 (5 : Int32) h7 n0 Z7 V7 (own_pin (4 : Int32) c42 hN.2 (by decide)) (by decide : 4 ≤ 5) rfl (by decide : 5 ≤ 16)) hZ (hw _ (List.mem_of_getElem? (i := 10) rfl)) (hw _ (List.mem_of_getElem? (i := 9) rfl)) (by decide) (by decide)) (g := (mkF m 127 #[.val (.int p1), .val (.int p2), .val (.int p3), .val (.int p4), .val (.int p5), .val (.int p6), .val (.ref a2), .val (.int v8), .val (.int v52), .val (.long v54), .second, .unset, .unset, .unset] [(.int v8), (.ref a2)])) rfl (by rw [hml]; rfl) (argsL := [(.ref a2), (.int v8)]) (rest := []) (lenOf pd_2 rfl) rfl (by show 2 * 0 + _ ≤ _; exact Nat.le_of_eq rfl) (hb hby at_127) (fun _ _ => ⟨rfl, e53, (by decide : 0 + 1 + 0 + 0 + 0 + 0 + 0 + 0 ≤ _), (by decide : 0 + 5 + 0 + 0 + 0 + 0 + 0 + 0 ≤ _)⟩)
          dsimp only [Pt.U, Pt.locs, Pt.cells, Pt.slots] at X55 l55 y55 z55 st55 hQ55
          subst l55 y55 z55
          obtain ⟨rfl, Nq55, e55⟩ := hQ55
          have N55 := Fr.app N53 Nq55
          refine Gl.st (g' := (mkF m 130 #[.val (.int p1), .val (.int p2), .val (.int p3), .val (.int p4), .val (.int p5), .val (.int p6), .val (.ref a2), .val (.int v8), .val (.int v52), .val (.long v54), .second, .unset, .unset, .unset] [(.long (own_oat [b3, b4, b5, b6, b7] 4))])) st55 ?_
          refine Gl.st (g' := (mkF m 132 #[.val (.int p1), .val (.int p2), .val (.int p3), .val (.int p4), .val (.int p5), .val (.int p6), .val (.ref a2), .val (.int v8), .val (.int v52), .val (.long v54), .second, .unset, .unset, .unset] [(.long v54), (.long (own_oat [b3, b4, b5, b6, b7] 4))])) (fun t k => XS.lload X55.here hx rfl (hb hby at_130) rfl k) ?_
          refine Gl.st (g' := (mkF m 133 #[.val (.int p1), .val (.int p2), .val (.int p3), .val (.int p4), .val (.int p5), .val (.int p6), .val (.ref a2), .val (.int v8), .val (.int v52), .val (.long v54), .second, .unset, .unset, .unset] [(.int (XT.cmpL (own_oat [b3, b4, b5, b6, b7] 4) v54))])) (fun t k => XT.lcmp X55.here hx rfl (hb hby at_132) rfl k) ?_
          refine Gl.st (g' := (mkF m 136 #[.val (.int p1), .val (.int p2), .val (.int p3), .val (.int p4), .val (.int p5), .val (.int p6), .val (.ref a2), .val (.int v8), .val (.int v52), .val (.long v54), .second, .unset, .unset, .unset] [])) (fun t k => XS.ifNo X55.here hx rfl (hb hby at_133) rfl (XT.ll_ne_f ((own_oat_eq _ _).trans (by subst hv19 hv30 hv41 hv52 hv54; rfl))) k) ?_
          refine Gl.st (g' := (mkF m 137 #[.val (.int p1), .val (.int p2), .val (.int p3), .val (.int p4), .val (.int p5), .val (.int p6), .val (.ref a2), .val (.int v8), .val (.int v52), .val (.long v54), .second, .unset, .unset, .unset] [(.int (1 : Int32))])) (fun t k => XT.iconstV X55.here hx rfl (1 : Int32) (hb hby at_136) rfl k) ?_
          refine Gl.st (g' := (mkF m 141 #[.val (.int p1), .val (.int p2), .val (.int p3), .val (.int p4), .val (.int p5), .val (.int p6), .val (.ref a2), .val (.int v8), .val (.int v52), .val (.long v54), .second, .unset, .unset, .unset] [(.int (1 : Int32))])) (fun t k => XS.goto X55.here hx rfl (pc0 := 137) (pc' := 141) rfl (hb hby at_137) (by decide) (by decide) k) ?_
          refine Gl.st (g' := (mkF m 143 #[.val (.int p1), .val (.int p2), .val (.int p3), .val (.int p4), .val (.int p5), .val (.int p6), .val (.ref a2), .val (.int v8), .val (.int v52), .val (.long v54), .second, .val (.int (1 : Int32)), .unset, .unset] [])) (fun t k => XS.istore X55.here hx rfl (hb hby at_141) rfl (l' := #[.val (.int p1), .val (.int p2), .val (.int p3), .val (.int p4), .val (.int p5), .val (.int p6), .val (.ref a2), .val (.int v8), .val (.int v52), .val (.long v54), .second, .val (.int (1 : Int32)), .unset, .unset]) rfl k) ?_
          refine Gl.st (g' := (mkF m 144 #[.val (.int p1), .val (.int p2), .val (.int p3), .val (.int p4), .val (.int p5), .val (.int p6), .val (.ref a2), .val (.int v8), .val (.int v52), .val (.long v54), .second, .val (.int (1 : Int32)), .unset, .unset] [(.int (1 : Int32))])) (fun t k => XT.iconstV X55.here hx rfl (1 : Int32) (hb hby at_143) rfl k) ?_
          obtain ⟨T56, h56, cA56, X56, e56, E56, A56, st56⟩ := newP X55 hx hZ (hw _ (List.mem_of_getElem? (i := 0) rfl)) e55 (g := (mkF m 144 #[.val (.int p1), .val (.int p2), .val (.int p3), .val (.int p4), .val (.int p5), .val (.int p6), .val (.ref a2), .val (.int v8), .val (.int v52), .val (.long v54), .second, .val (.int (1 : Int32)), .unset, .unset] [(.int (1 : Int32))])) rfl (hb hby at_144) rfl (by decide) (cap := 1) (by decide) (by decide) (by decide) (by decide)
          obtain ⟨a56, g56⟩ : ∃ z, z = h7.size := ⟨_, rfl⟩
          have ge56 : n0 ≤ a56 := Nat.le_trans Z7 (Nat.le_of_eq g56.symm)
          have ne_a2_56 : a2 ≠ a56 := fun q => absurd (g56 ▸ q ▸ (V7.lt : a2 < h7.size)) (Nat.lt_irrefl _)
          rw [← g56] at A56 st56
          have Z56 : n0 ≤ h56.size := Nat.le_trans Z7 E56.1
          have V56 : Arv Z h56 a56 cA56 .byte (1 : Int32) [(.int (0 : Int32))] (.int (0 : Int32)) := (Arv.new A56 (by decide)).pad (pad_rep [] _ 1)
          have V57 : Arv Z h56 a2 cA2 .byte (5 : Int32) [(.int b3), (.int b4), (.int b5), (.int b6), (.int b7)] (.int (0 : Int32)) := (V7.ext E56)
          refine Gl.st (g' := (mkF m 146 #[.val (.int p1), .val (.int p2), .val (.int p3), .val (.int p4), .val (.int p5), .val (.int p6), .val (.ref a2), .val (.int v8), .val (.int v52), .val (.long v54), .second, .val (.int (1 : Int32)), .unset, .unset] [(.ref a56)])) st56 ?_
          refine Gl.st (g' := (mkF m 148 #[.val (.int p1), .val (.int p2), .val (.int p3), .val (.int p4), .val (.int p5), .val (.int p6), .val (.ref a2), .val (.int v8), .val (.int v52), .val (.long v54), .second, .val (.int (1 : Int32)), .val (.ref a56), .unset] [])) (fun t k => XS.astore X56.here hx rfl (hb hby at_146) rfl rfl (l' := #[.val (.int p1), .val (.int p2), .val (.int p3), .val (.int p4), .val (.int p5), .val (.int p6), .val (.ref a2), .val (.int v8), .val (.int v52), .val (.long v54), .second, .val (.int (1 : Int32)), .val (.ref a56), .unset]) rfl k) ?_
          refine Gl.st (g' := (mkF m 150 #[.val (.int p1), .val (.int p2), .val (.int p3), .val (.int p4), .val (.int p5), .val (.int p6), .val (.ref a2), .val (.int v8), .val (.int v52), .val (.long v54), .second, .val (.int (1 : Int32)), .val (.ref a56), .unset] [(.ref a56)])) (fun t k => XS.aload X56.here hx rfl (hb hby at_148) rfl rfl k) ?_
          refine Gl.st (g' := (mkF m 151 #[.val (.int p1), .val (.int p2), .val (.int p3), .val (.int p4), .val (.int p5), .val (.int p6), .val (.ref a2), .val (.int v8), .val (.int v52), .val (.long v54), .second, .val (.int (1 : Int32)), .val (.ref a56), .unset] [(.int (0 : Int32)), (.ref a56)])) (fun t k => XT.iconstV X56.here hx rfl (0 : Int32) (hb hby at_150) rfl k) ?_
          refine Gl.st (g' := (mkF m 153 #[.val (.int p1), .val (.int p2), .val (.int p3), .val (.int p4), .val (.int p5), .val (.int p6), .val (.ref a2), .val (.int v8), .val (.int v52), .val (.long v54), .second, .val (.int (1 : Int32)), .val (.ref a56), .unset] [(.int (97 : Int32)), (.int (0 : Int32)), (.ref a56)])) (fun t k => XT.bipushV X56.here hx rfl (97 : Int32) (hb hby at_151) rfl k) ?_
          obtain ⟨T58, h58, b58, X58, e58, W58, hb58, V58, st58⟩ := own_stB X56 hx hZ e56 V56 (j := (0 : Int32)) (by decide) 0 (by decide) (by decide : 0 < 1) (g := (mkF m 153 #[.val (.int p1), .val (.int p2), .val (.int p3), .val (.int p4), .val (.int p5), .val (.int p6), .val (.ref a2), .val (.int v8), .val (.int v52), .val (.long v54), .second, .val (.int (1 : Int32)), .val (.ref a56), .unset] [(.int (97 : Int32)), (.int (0 : Int32)), (.ref a56)])) rfl rfl (hb hby at_153)
          have N58 := Fr.snoc X58 N55 ge56
          have Z58 : n0 ≤ h58.size := Nat.le_trans Z56 (Keep.of_wr W58).1
          change Arv Z h58 a56 cA56 .byte (1 : Int32) [(.int b58)] (.int (0 : Int32)) at V58
          have V59 : Arv Z h58 a2 cA2 .byte (5 : Int32) [(.int b3), (.int b4), (.int b5), (.int b6), (.int b7)] (.int (0 : Int32)) := (V57.other W58 ne_a2_56)
          refine Gl.st (g' := (mkF m 154 #[.val (.int p1), .val (.int p2), .val (.int p3), .val (.int p4), .val (.int p5), .val (.int p6), .val (.ref a2), .val (.int v8), .val (.int v52), .val (.long v54), .second, .val (.int (1 : Int32)), .val (.ref a56), .unset] [])) st58 ?_
          refine Gl.st (g' := (mkF m 156 #[.val (.int p1), .val (.int p2), .val (.int p3), .val (.int p4), .val (.int p5), .val (.int p6), .val (.ref a2), .val (.int v8), .val (.int v52), .val (.long v54), .second, .val (.int (1 : Int32)), .val (.ref a56), .unset] [(.ref a56)])) (fun t k => XS.aload X58.here hx rfl (hb hby at_154) rfl rfl k) ?_
          refine Gl.st (g' := (mkF m 157 #[.val (.int p1), .val (.int p2), .val (.int p3), .val (.int p4), .val (.int p5), .val (.int p6), .val (.ref a2), .val (.int v8), .val (.int v52), .val (.long v54), .second, .val (.int (1 : Int32)), .val (.ref a56), .unset] [(.int (1 : Int32)), (.ref a56)])) (fun t k => XT.iconstV X58.here hx rfl (1 : Int32) (hb hby at_156) rfl k) ?_
          obtain ⟨_, _, ⟨T60, L60, k60, n60⟩, -, X60, ⟨Lc60, hQ60, l60, y60, z60⟩, st60⟩ := Jvm.LawKit.callS X58 hx (y := (⟨"keyhalo/KeyHash", "oneAtATime", "([BI)J"⟩ : MethodName)) hown (mvT hZ (hw _ (List.mem_of_getElem? (i := 7) rfl))) (mvT hZ (hw _ (List.mem_of_getElem? (i := 8) rfl))) (mvT hZ (hw _ (List.mem_of_getElem? (i := 9) rfl))) (mvT hZ (hw _ (List.mem_of_getElem? (i := 10) rfl))) (by decide) (backOf (W := 0) (rm4 l Z a0 hw a56 (1 : Int32) [b58] 1 cA56 (1 : Int32) h58 n0 Z58 V58 rfl (by decide : 1 ≤ 1) rfl (by decide : 1 ≤ 16)) hZ (hw _ (List.mem_of_getElem? (i := 10) rfl)) (hw _ (List.mem_of_getElem? (i := 9) rfl)) (by decide) (by decide)) (g := (mkF m 157 #[.val (.int p1), .val (.int p2), .val (.int p3), .val (.int p4), .val (.int p5), .val (.int p6), .val (.ref a2), .val (.int v8), .val (.int v52), .val (.long v54), .second, .val (.int (1 : Int32)), .val (.ref a56), .unset] [(.int (1 : Int32)), (.ref a56)])) rfl (by rw [hml]; rfl) (argsL := [(.ref a56), (.int (1 : Int32))]) (rest := []) (lenOf pd_2 rfl) rfl (by show 2 * 0 + _ ≤ _; exact Nat.le_of_eq rfl) (hb hby at_157) (fun _ _ => ⟨rfl, e58, (by decide : 0 + 1 + 0 + 0 + 0 + 0 + 0 + 0 + 1 + 0 ≤ _), (by decide : 0 + 5 + 0 + 0 + 0 + 0 + 0 + 0 + 1 + 0 ≤ _)⟩)
          dsimp only [Pt.U, Pt.locs, Pt.cells, Pt.slots] at X60 l60 y60 z60 st60 hQ60
          subst l60 y60 z60
          obtain ⟨rfl, Nq60, e60⟩ := hQ60
          have N60 := Fr.app N58 Nq60
          refine Gl.st (g' := (mkF m 160 #[.val (.int p1), .val (.int p2), .val (.int p3), .val (.int p4), .val (.int p5), .val (.int p6), .val (.ref a2), .val (.int v8), .val (.int v52), .val (.long v54), .second, .val (.int (1 : Int32)), .val (.ref a56), .unset] [(.long (own_oat [b58] 1))])) st60 ?_
          refine Gl.st (g' := (mkF m 163 #[.val (.int p1), .val (.int p2), .val (.int p3), .val (.int p4), .val (.int p5), .val (.int p6), .val (.ref a2), .val (.int v8), .val (.int v52), .val (.long v54), .second, .val (.int (1 : Int32)), .val (.ref a56), .unset] [(.long (3392050242 : Int64)), (.long (own_oat [b58] 1))])) (fun t k => X60.ldc2J hx hown (mvT hZ (hw _ (List.mem_of_getElem? (i := 16) rfl))) rfl (hb hby at_160) k) ?_
          refine Gl.st (g' := (mkF m 164 #[.val (.int p1), .val (.int p2), .val (.int p3), .val (.int p4), .val (.int p5), .val (.int p6), .val (.ref a2), .val (.int v8), .val (.int v52), .val (.long v54), .second, .val (.int (1 : Int32)), .val (.ref a56), .unset] [(.int (XT.cmpL (own_oat [b58] 1) (3392050242 : Int64)))])) (fun t k => XT.lcmp X60.here hx rfl (hb hby at_163) rfl k) ?_
          refine Gl.st (g' := (mkF m 167 #[.val (.int p1), .val (.int p2), .val (.int p3), .val (.int p4), .val (.int p5), .val (.int p6), .val (.ref a2), .val (.int v8), .val (.int v52), .val (.long v54), .second, .val (.int (1 : Int32)), .val (.ref a56), .unset] [])) (fun t k => XS.ifNo X60.here hx rfl (hb hby at_164) rfl (XT.ll_ne_f (own_anchor hb58)) k) ?_
          refine Gl.st (g' := (mkF m 168 #[.val (.int p1), .val (.int p2), .val (.int p3), .val (.int p4), .val (.int p5), .val (.int p6), .val (.ref a2), .val (.int v8), .val (.int v52), .val (.long v54), .second, .val (.int (1 : Int32)), .val (.ref a56), .unset] [(.int (1 : Int32))])) (fun t k => XT.iconstV X60.here hx rfl (1 : Int32) (hb hby at_167) rfl k) ?_
          refine Gl.st (g' := (mkF m 172 #[.val (.int p1), .val (.int p2), .val (.int p3), .val (.int p4), .val (.int p5), .val (.int p6), .val (.ref a2), .val (.int v8), .val (.int v52), .val (.long v54), .second, .val (.int (1 : Int32)), .val (.ref a56), .unset] [(.int (1 : Int32))])) (fun t k => XS.goto X60.here hx rfl (pc0 := 168) (pc' := 172) rfl (hb hby at_168) (by decide) (by decide) k) ?_
          refine Gl.st (g' := (mkF m 174 #[.val (.int p1), .val (.int p2), .val (.int p3), .val (.int p4), .val (.int p5), .val (.int p6), .val (.ref a2), .val (.int v8), .val (.int v52), .val (.long v54), .second, .val (.int (1 : Int32)), .val (.ref a56), .val (.int (1 : Int32))] [])) (fun t k => XS.istore X60.here hx rfl (hb hby at_172) rfl (l' := #[.val (.int p1), .val (.int p2), .val (.int p3), .val (.int p4), .val (.int p5), .val (.int p6), .val (.ref a2), .val (.int v8), .val (.int v52), .val (.long v54), .second, .val (.int (1 : Int32)), .val (.ref a56), .val (.int (1 : Int32))]) rfl k) ?_
          refine Gl.st (g' := (mkF m 176 #[.val (.int p1), .val (.int p2), .val (.int p3), .val (.int p4), .val (.int p5), .val (.int p6), .val (.ref a2), .val (.int v8), .val (.int v52), .val (.long v54), .second, .val (.int (1 : Int32)), .val (.ref a56), .val (.int (1 : Int32))] [(.int (1 : Int32))])) (fun t k => XS.iload X60.here hx rfl (hb hby at_174) rfl k) ?_
          refine Gl.st (g' := (mkF m 179 #[.val (.int p1), .val (.int p2), .val (.int p3), .val (.int p4), .val (.int p5), .val (.int p6), .val (.ref a2), .val (.int v8), .val (.int v52), .val (.long v54), .second, .val (.int (1 : Int32)), .val (.ref a56), .val (.int (1 : Int32))] [])) (fun t k => XS.ifNo X60.here hx rfl (hb hby at_176) rfl (XT.i0_eq_f (by decide)) k) ?_
          refine Gl.st (g' := (mkF m 181 #[.val (.int p1), .val (.int p2), .val (.int p3), .val (.int p4), .val (.int p5), .val (.int p6), .val (.ref a2), .val (.int v8), .val (.int v52), .val (.long v54), .second, .val (.int (1 : Int32)), .val (.ref a56), .val (.int (1 : Int32))] [(.int (1 : Int32))])) (fun t k => XS.iload X60.here hx rfl (hb hby at_179) rfl k) ?_
          refine Gl.st (g' := (mkF m 184 #[.val (.int p1), .val (.int p2), .val (.int p3), .val (.int p4), .val (.int p5), .val (.int p6), .val (.ref a2), .val (.int v8), .val (.int v52), .val (.long v54), .second, .val (.int (1 : Int32)), .val (.ref a56), .val (.int (1 : Int32))] [])) (fun t k => XS.ifNo X60.here hx rfl (hb hby at_181) rfl (XT.i0_eq_f (by decide)) k) ?_
          refine Gl.st (g' := (mkF m 185 #[.val (.int p1), .val (.int p2), .val (.int p3), .val (.int p4), .val (.int p5), .val (.int p6), .val (.ref a2), .val (.int v8), .val (.int v52), .val (.long v54), .second, .val (.int (1 : Int32)), .val (.ref a56), .val (.int (1 : Int32))] [(.int (1 : Int32))])) (fun t k => XT.iconstV X60.here hx rfl (1 : Int32) (hb hby at_184) rfl k) ?_
          refine Gl.st (g' := (mkF m 189 #[.val (.int p1), .val (.int p2), .val (.int p3), .val (.int p4), .val (.int p5), .val (.int p6), .val (.ref a2), .val (.int v8), .val (.int v52), .val (.long v54), .second, .val (.int (1 : Int32)), .val (.ref a56), .val (.int (1 : Int32))] [(.int (1 : Int32))])) (fun t k => XS.goto X60.here hx rfl (pc0 := 185) (pc' := 189) rfl (hb hby at_185) (by decide) (by decide) k) ?_
          refine Gl.retZ X60 hx hlk .boolean (by simp) Bd.returns (hb hby at_189) e60 (by decide) (by decide) ?_
          rw [Q0, own_z1]
          exact ⟨rfl, N60⟩
set_option maxRecDepth 65536 in
set_option maxHeartbeats 40000000 in
theorem comes_1 {Post : Tables → Env → Array Value → State → Outcome → State → Prop} (hpost : ∀ tb e args s v u, (limb_1_1.after args s (.returned v) u = true ∧ limb_1_2.after args s (.returned v) u = true ∧ True) → FrameEnd s (.returned v) u (Jvm.fieldLocs frame_1_writes args s ++ Jvm.arrayLocs frame_1_arrays args s ++ Jvm.staticLocs frame_1_statics s) 16 128 → Post tb e args s (.returned v) u) :
    ArmFor flags0 classFile x code maxLocals ret World_1 tables_1 room_1 Calls_1 rest_1 Pre_1 Post := by
  intro l hfl _ _ p e ha hc hk s m args below hf hA hF happ hP
  obtain ⟨hcalls, hrest, hpre⟩ := hP
  obtain ⟨-, -, -, hnamed, -, -, -, hat⟩ := (Spec.applies_iff hf).mp happ
  obtain ⟨hg, hn⟩ := and_e (Cond.before_iff.mp (show (Jvm.Cond.and given_1 narrow_1).before args s = true from hpre))
  obtain ⟨hcount, hk1⟩ := and_e hg
  obtain ⟨hi1, hk2⟩ := and_e hk1
  obtain ⟨hi2, hk3⟩ := and_e hk2
  obtain ⟨hi3, hk4⟩ := and_e hk3
  obtain ⟨hi4, hk5⟩ := and_e hk4
  obtain ⟨hi5, hk6⟩ := and_e hk5
  obtain ⟨w0, w1, w2, w3, w4, w5, rfl⟩ : ∃ w0 w1 w2 w3 w4 w5 : Value, args = #[w0, w1, w2, w3, w4, w5] := by
    have hs : args.size = 6 := by simpa [Cond.value, given_1] using hcount
    obtain ⟨L⟩ := args
    match L, hs with
    | [w0, w1, w2, w3, w4, w5], _ => exact ⟨w0, w1, w2, w3, w4, w5, rfl⟩
  have hw := fun d (hd : d ∈ tables_1) => atoms_spec (ws := Jvm.Cond.code x code maxLocals ret :: tables_1) hat d (List.mem_cons_of_mem _ hd)
  obtain ⟨i0, q0⟩ := is_v hi1
  obtain rfl : w0 = (.int i0) := Option.some.inj q0
  obtain ⟨i1, q1⟩ := is_v hi2
  obtain rfl : w1 = (.int i1) := Option.some.inj q1
  obtain ⟨i2, q2⟩ := is_v hi3
  obtain rfl : w2 = (.int i2) := Option.some.inj q2
  obtain ⟨i3, q3⟩ := is_v hi4
  obtain rfl : w3 = (.int i3) := Option.some.inj q3
  obtain ⟨i4, q4⟩ := is_v hi5
  obtain rfl : w4 = (.int i4) := Option.some.inj q4
  obtain ⟨i5, q5⟩ := is_v hk6
  obtain rfl : w5 = (.int i5) := Option.some.inj q5
  obtain ⟨n, o, h1, h2, h3, _, L, rfl, ⟨rfl, N⟩, hq⟩ := rm0 l s _ hw tables_1 i0 i1 i2 i3 i4 i5 s.heap s.heap.size (Nat.le_refl _)  p e ha hc hk s m _ below hf ((Spec.applies_iff_loose hf).mp happ).1 ⟨rfl, State.Warmed39.refl s, rfl⟩ trivial
  refine ⟨n, _, h1, h2, h3, hpost _ _ _ _ _ _ ⟨Cond.after_iff.mpr rfl, Cond.after_iff.mpr (eq_i res_at (Term.int_eval (1)) rfl), trivial⟩ ⟨hq.1, hq.2.1, (hq.2.2.sift fun y hy => Or.inr (N y hy)).mono (by decide) (by decide)⟩⟩
theorem main_1_1 : Claimed_1_1 := comes_1 fun _ _ _ _ _ _ h hF => ⟨h.1, hF⟩
theorem main_1_2 : Claimed_1_2 := comes_1 fun _ _ _ _ _ _ h hF => ⟨h.2.1, hF⟩
end Jvm.Pilot.@@N@@
namespace Jvm.Pilot.@@N@@
open Jvm Jvm.ClassFile Sem Op Lib Jvm.Free Jvm.Stand Jvm.Pilot.@@N@@.Jvm.D
/-! MADE BY PROGRAM (witnessworld.py) out of the Statement's table words and the real class files: 14 classes; the members and pool entries that the words name. The judged class is class 1, her method 3. -/
namespace start1
open Jvm.ClassFile
def u (s : String) : CpInfo := .utf8 (stringToUtf16 s)
/-- a pool by its gaps: so many unusable entries, then the entry; so many at the end -/
def gap : Nat → List CpInfo → List CpInfo
  | 0, r => r
  | n + 1, r => .unusable :: gap n r
def poolList (es : List (Nat × CpInfo)) (last : Nat) : List CpInfo := es.foldr (fun e r => gap e.1 (e.2 :: r)) (gap last [])
def pool (es : List (Nat × CpInfo)) (last : Nat) : Array CpInfo := ⟨poolList es last⟩
def fileOf (pool : Array CpInfo) (this : Nat) (attrs : Array Attribute := #[]) (ms : Array MethodInfo := #[]) (fl : Nat := 33) (sup : Nat := 0) (ifs : Array Nat := #[]) (fds : Array FieldInfo := #[]) : ClassFile where
  minorVersion := 0
  majorVersion := 65
  constantPool := pool
  accessFlags := fl
  thisClass := this
  superClass := sup
  interfaces := ifs
  fields := fds
  methods := ms
  attributes := attrs
def plain (name : String) (sup : Option ClassId) : Class where
  name := name
  kind := .ordinary
  loader := none
  accessFlags := 33
  super := sup
  interfaces := #[]
  cf := none
  fields := #[]
  methods := #[]
  instanceTypes := #[]
  staticTypes := #[]
  resolved := #[]
  callSites := []
  init := .initialized
  statics := none
  mirror := none

def pool0 : Array CpInfo := pool [(5, u "<init>"), (0, u "()V"), (1, .class_ 10), (1, u "java/lang/Object")] 113

def k0m0 : Method := { name := "<init>", desc := "()V", sig := { parameters := [], returnType := none }, accessFlags := 1, code := none }
/-- java/lang/Object -/
def k0 : Class := { plain "java/lang/Object" none with
  accessFlags := 33
  interfaces := #[]
  cf := some (fileOf pool0 8 #[] #[{ accessFlags := 1, nameIndex := 5, descriptorIndex := 6, attributes := #[] }] 33 0 #[] #[])
  fields := #[]
  methods := #[k0m0]
  instanceTypes := #[]
  staticTypes := #[]
  resolved := Array.replicate 124 none
  statics := none }

def pool1 : Array CpInfo := pool [(2, .class_ 4), (1, u "java/lang/Object"), (0, u "<init>"), (0, u "()V"), (0, .integer 32769), (0, .long 4294967295), (1, .methodref 11 12), (0, .class_ 13), (0, .nameAndType 14 15), (0, u "keyhalo/KeyHashOneAtATimePinLaw"), (0, u "step"), (0, u "(IB)I"), (0, .methodref 11 17), (0, .nameAndType 18 19), (0, u "fin"), (0, u "(I)J"), (0, .interfaceMethodref 21 22), (0, .class_ 23), (0, .nameAndType 24 25), (0, u "keyhalo/KeyHash"), (0, u "oneAtATime"), (0, u "([BI)J"), (0, .long 3392050242), (3, u "law"), (0, u "(IIIIII)Z")] 5

def k1m0 : Method := { name := "<init>", desc := "()V", sig := { parameters := [], returnType := none }, accessFlags := 2, code := none }
def k1c1 : Code := { maxStack := 3, maxLocals := 3, code := method_2_code, exceptionTable := #[], attributes := #[] }
def k1m1 : Method := { name := "step", desc := "(IB)I", sig := { parameters := [.int, .byte], returnType := some .int }, accessFlags := 10, code := some k1c1 }
def k1c2 : Code := { maxStack := 4, maxLocals := 2, code := method_3_code, exceptionTable := #[], attributes := #[] }
def k1m2 : Method := { name := "fin", desc := "(I)J", sig := { parameters := [.int], returnType := some .long }, accessFlags := 10, code := some k1c2 }
def k1c3 : Code := { maxStack := 4, maxLocals := 14, code := code, exceptionTable := #[], attributes := #[] }
def k1m3 : Method := { name := "law", desc := "(IIIIII)Z", sig := { parameters := [.int, .int, .int, .int, .int, .int], returnType := some .boolean }, accessFlags := 9, code := some k1c3 }
/-- keyhalo/KeyHashOneAtATimePinLaw -/
def k1 : Class := { plain "keyhalo/KeyHashOneAtATimePinLaw" (some 0) with
  accessFlags := 49
  interfaces := #[]
  cf := some (fileOf pool1 11 #[] #[{ accessFlags := 2, nameIndex := 5, descriptorIndex := 6, attributes := #[] }, { accessFlags := 10, nameIndex := 14, descriptorIndex := 15, attributes := #[] }, { accessFlags := 10, nameIndex := 18, descriptorIndex := 19, attributes := #[] }, { accessFlags := 9, nameIndex := 30, descriptorIndex := 31, attributes := #[] }] 49 2 #[] #[])
  fields := #[]
  methods := #[k1m0, k1m1, k1m2, k1m3]
  instanceTypes := #[]
  staticTypes := #[]
  resolved := Array.replicate 37 none
  statics := none }

def pool2 : Array CpInfo := pool [(14, .class_ 16), (1, u "keyhalo/KeyHash"), (1, u "([BI)J"), (0, .methodref 20 21), (0, .class_ 22), (0, .nameAndType 23 24), (0, u "java/lang/Integer"), (0, u "toUnsignedLong"), (0, u "(I)J"), (48, .class_ 74), (0, u "keyhalo/KeyHash$1"), (3, u "MD5"), (0, u "Lkeyhalo/KeyHash;"), (0, .class_ 81), (0, u "java/lang/Object"), (3, u "oneAtATime")] 17

def k2c0 : Code := { maxStack := 3, maxLocals := 4, code := prog_4_method_3_code, exceptionTable := #[], attributes := #[] }
def k2m0 : Method := { name := "oneAtATime", desc := "([BI)J", sig := { parameters := [(.array .byte), .int], returnType := some .long }, accessFlags := 9, code := some k2c0 }
/-- keyhalo/KeyHash -/
def k2 : Class := { plain "keyhalo/KeyHash" (some 0) with
  accessFlags := 1536
  interfaces := #[]
  cf := some (fileOf pool2 14 #[.nestMembers #[73]] #[{ accessFlags := 9, nameIndex := 85, descriptorIndex := 18, attributes := #[] }] 1536 80 #[] #[{ accessFlags := 25, nameIndex := 78, descriptorIndex := 79, attributes := #[] }])
  fields := #[{ name := "MD5", type := (.object "keyhalo/KeyHash"), accessFlags := 25, slot := 0, constantValue := 0 }]
  methods := #[k2m0]
  instanceTypes := #[]
  staticTypes := #[(.object "keyhalo/KeyHash")]
  resolved := Array.replicate 103 none
  statics := none }

def pool3 : Array CpInfo := pool [(1, .class_ 2), (0, u "java/io/Serializable"), (0, .class_ 4), (0, u "java/lang/Object")] 2

/-- java/io/Serializable -/
def k3 : Class := { plain "java/io/Serializable" (some 0) with
  accessFlags := 1537
  interfaces := #[]
  cf := some (fileOf pool3 1 #[] #[] 1537 3 #[] #[])
  fields := #[]
  methods := #[]
  instanceTypes := #[]
  staticTypes := #[]
  resolved := Array.replicate 7 none
  statics := none }

def pool4 : Array CpInfo := pool [(2, .class_ 4), (1, u "java/lang/Object"), (0, u "<init>"), (0, u "()V"), (1, .class_ 10), (1, u "java/lang/Number"), (2, .class_ 14), (0, u "java/io/Serializable"), (0, u "serialVersionUID"), (0, u "J")] 20

def k4m0 : Method := { name := "<init>", desc := "()V", sig := { parameters := [], returnType := none }, accessFlags := 1, code := none }
/-- java/lang/Number -/
def k4 : Class := { plain "java/lang/Number" (some 0) with
  accessFlags := 1057
  interfaces := #[3]
  cf := some (fileOf pool4 8 #[] #[{ accessFlags := 1, nameIndex := 5, descriptorIndex := 6, attributes := #[] }] 1057 2 #[13] #[{ accessFlags := 26, nameIndex := 15, descriptorIndex := 16, attributes := #[] }])
  fields := #[{ name := "serialVersionUID", type := .long, accessFlags := 26, slot := 0, constantValue := 0 }]
  methods := #[k4m0]
  instanceTypes := #[]
  staticTypes := #[.long]
  resolved := Array.replicate 37 none
  statics := none }

def pool5 : Array CpInfo := pool [(1, .class_ 2), (0, u "java/lang/Comparable"), (0, .class_ 4), (0, u "java/lang/Object")] 7

/-- java/lang/Comparable -/
def k5 : Class := { plain "java/lang/Comparable" (some 0) with
  accessFlags := 1537
  interfaces := #[]
  cf := some (fileOf pool5 1 #[] #[] 1537 3 #[] #[])
  fields := #[]
  methods := #[]
  instanceTypes := #[]
  staticTypes := #[]
  resolved := Array.replicate 12 none
  statics := none }

def pool6 : Array CpInfo := pool [(1, .class_ 2), (0, u "java/lang/constant/Constable"), (0, .class_ 4), (0, u "java/lang/Object")] 6

/-- java/lang/constant/Constable -/
def k6 : Class := { plain "java/lang/constant/Constable" (some 0) with
  accessFlags := 1537
  interfaces := #[]
  cf := some (fileOf pool6 1 #[] #[] 1537 3 #[] #[])
  fields := #[]
  methods := #[]
  instanceTypes := #[]
  staticTypes := #[]
  resolved := Array.replicate 11 none
  statics := none }

def pool7 : Array CpInfo := pool [(1, .class_ 2), (0, u "java/lang/constant/ConstantDesc"), (0, .class_ 4), (0, u "java/lang/Object")] 32

/-- java/lang/constant/ConstantDesc -/
def k7 : Class := { plain "java/lang/constant/ConstantDesc" (some 0) with
  accessFlags := 1537
  interfaces := #[]
  cf := some (fileOf pool7 1 #[] #[] 1537 3 #[] #[])
  fields := #[]
  methods := #[]
  instanceTypes := #[]
  staticTypes := #[]
  resolved := Array.replicate 37 none
  statics := none }

def pool8 : Array CpInfo := pool [(1, .class_ 2), (0, u "java/lang/Integer"), (16, u "digits"), (0, u "[C"), (19, u "toUnsignedLong"), (0, u "(I)J"), (43, u "DigitOnes"), (0, u "[B"), (2, u "DigitTens"), (99, .class_ 190), (0, u "java/lang/Integer$IntegerCache"), (3, u "I"), (8, .class_ 204), (0, u "java/lang/Number"), (2, u "value"), (54, .long 4294967295), (39, u "TYPE"), (0, u "Ljava/lang/Class;"), (0, .class_ 305), (0, u "java/lang/Comparable"), (0, .class_ 307), (0, u "java/lang/constant/Constable"), (0, .class_ 309), (0, u "java/lang/constant/ConstantDesc"), (0, u "MIN_VALUE"), (1, u "MAX_VALUE"), (3, u "SIZE"), (1, u "BYTES"), (1, u "serialVersionUID"), (0, u "J")] 131

def k8c0 : Code := { maxStack := 4, maxLocals := 1, code := jdk_33_method_42_code, exceptionTable := #[], attributes := #[] }
def k8m0 : Method := { name := "toUnsignedLong", desc := "(I)J", sig := { parameters := [.int], returnType := some .long }, accessFlags := 9, code := some k8c0 }
/-- java/lang/Integer -/
def k8 : Class := { plain "java/lang/Integer" (some 4) with
  accessFlags := 49
  interfaces := #[5, 6, 7]
  cf := some (fileOf pool8 1 #[.nestMembers #[189]] #[{ accessFlags := 9, nameIndex := 40, descriptorIndex := 41, attributes := #[] }] 49 203 #[304, 306, 308] #[{ accessFlags := 25, nameIndex := 310, descriptorIndex := 194, attributes := #[] }, { accessFlags := 25, nameIndex := 312, descriptorIndex := 194, attributes := #[] }, { accessFlags := 25, nameIndex := 302, descriptorIndex := 303, attributes := #[] }, { accessFlags := 24, nameIndex := 19, descriptorIndex := 20, attributes := #[] }, { accessFlags := 24, nameIndex := 89, descriptorIndex := 86, attributes := #[] }, { accessFlags := 24, nameIndex := 85, descriptorIndex := 86, attributes := #[] }, { accessFlags := 18, nameIndex := 207, descriptorIndex := 194, attributes := #[] }, { accessFlags := 25, nameIndex := 316, descriptorIndex := 194, attributes := #[] }, { accessFlags := 25, nameIndex := 318, descriptorIndex := 194, attributes := #[] }, { accessFlags := 26, nameIndex := 320, descriptorIndex := 321, attributes := #[] }])
  fields := #[{ name := "MIN_VALUE", type := .int, accessFlags := 25, slot := 0, constantValue := 0 }, { name := "MAX_VALUE", type := .int, accessFlags := 25, slot := 1, constantValue := 0 }, { name := "TYPE", type := (.object "java/lang/Class"), accessFlags := 25, slot := 2, constantValue := 0 }, { name := "digits", type := (.array .char), accessFlags := 24, slot := 3, constantValue := 0 }, { name := "DigitTens", type := (.array .byte), accessFlags := 24, slot := 4, constantValue := 0 }, { name := "DigitOnes", type := (.array .byte), accessFlags := 24, slot := 5, constantValue := 0 }, { name := "value", type := .int, accessFlags := 18, slot := 0, constantValue := 0 }, { name := "SIZE", type := .int, accessFlags := 25, slot := 6, constantValue := 0 }, { name := "BYTES", type := .int, accessFlags := 25, slot := 7, constantValue := 0 }, { name := "serialVersionUID", type := .long, accessFlags := 26, slot := 8, constantValue := 0 }]
  methods := #[k8m0]
  instanceTypes := #[.int]
  staticTypes := #[.int, .int, (.object "java/lang/Class"), (.array .char), (.array .byte), (.array .byte), .int, .int, .long]
  resolved := Array.replicate 453 none
  statics := none }

def pool9 : Array CpInfo := pool [(1, u "java/lang/Cloneable"), (0, .class_ 1), (0, u "java/lang/Object"), (0, .class_ 3)] 3

/-- java/lang/Cloneable -/
def k9 : Class := { plain "java/lang/Cloneable" (some 0) with
  accessFlags := 1537
  interfaces := #[]
  cf := some (fileOf pool9 2 #[] #[] 1537 4 #[] #[])
  fields := #[]
  methods := #[]
  instanceTypes := #[]
  staticTypes := #[]
  resolved := Array.replicate 8 none
  statics := none }

/-- the primitive byte -/
def k10 : Class := { plain "byte" none with kind := .primitive 'B', accessFlags := 0x411 }
/-- [B -/
def k11 : Class := { plain "[B" (some 0) with kind := .array 10 .byte, interfaces := #[9, 3], accessFlags := 1041 }

/-- the primitive int -/
def k12 : Class := { plain "int" none with kind := .primitive 'I', accessFlags := 0x411 }
/-- [I -/
def k13 : Class := { plain "[I" (some 0) with kind := .array 12 .int, interfaces := #[9, 3], accessFlags := 1041 }

def heap : Heap := #[]
def classes : Array Class := #[k0, k1, k2, k3, k4, k5, k6, k7, k8, k9, k10, k11, k12, k13]
def interned : List (Array UInt16 × Addr) := []
def slotsUsed : Nat := 0
def theMethod : MethodId := ⟨1, 3⟩
def args0 : Array Value := #[.int 5, .int 5, .int 5, .int 5, .int 5, .int 5]
def aboutOver (below : List Frame) : State where
  vm := { classes := classes, interned := interned.toArray }
  heap := heap
  slotsUsed := slotsUsed
  threads := #[{ frames := .invoking theMethod args0 :: below }]
def below0 : List Frame := [.native { method := ⟨0, 0⟩, args := #[] }]
def about1 : State := aboutOver below0
def p0 : Program := .bare "" "" ""
def e0 : Env := launch0.env 0 0 0
theorem w_frames : about1.frames = Frame.invoking theMethod args0 :: below0 := rfl
set_option maxRecDepth 65536 in
theorem w_args : argsFit about1.vm theMethod args0 = true := by decide +kernel
set_option maxRecDepth 65536 in
theorem w_heap : heapFits about1 = true := by decide +kernel
set_option maxRecDepth 65536 in
theorem w_runnable : about1.curStatus? = some .runnable := by decide +kernel
set_option maxRecDepth 65536 in
theorem w_alone : about1.alone = true := by decide +kernel
set_option maxRecDepth 65536 in
theorem w_named : about1.methodNamed? x = some theMethod := by decide +kernel
set_option maxRecDepth 65536 in
theorem w_hears : about1.hears theMethod below0 = true := by decide +kernel
set_option maxRecDepth 65536 in
theorem w_ripe : about1.ripe theMethod args0 below0 = true := by decide +kernel
theorem w_running : about1.status = .running := rfl
set_option maxRecDepth 65536 in
theorem w_room : about1.hasRoom e0.platform room_1 = true :=
  launch0.hasRoom_least _ room_1 (by decide +kernel) (by decide +kernel) (by decide +kernel) (by decide +kernel) (by decide +kernel) (by decide +kernel)
theorem allAtoms_all (ts : List Jvm.Cond) (a : Array Jvm.Value) (st : Jvm.State) : (allAtoms ts).before a st = ts.all (fun c => c.before a st) := by
  induction ts with
  | nil => rfl
  | cons c t ih =>
    show (Jvm.Cond.and c (allAtoms t)).before a st = _
    rw [Jvm.Cond.before_and, ih, List.all_cons]
def words1 : List Jvm.Cond := Jvm.Cond.code x code maxLocals ret :: tables_1
/-- a 'code' word, met by the world's own term for the bytes: nothing is compared byte by byte -/
theorem code_word {y : MethodName} {bytes : ByteArray} {mx : Nat} {rt : Option FieldType} {a : Array Value} {s : State} {m : MethodId} {meth : Method} {c : Code} (h1 : s.methodNamed? y = some m) (h2 : s.vm.method? m = some meth) (h3 : meth.code = some c) (h4 : c.code = bytes)
    (h5 : (c.maxLocals == mx && c.exceptionTable.isEmpty && decide (c.maxStack ≤ mostOperands) && decide (meth.sig.returnType = rt) && !meth.locks && decide (parseMethodDescriptor y.desc = some meth.sig)) = true) : (Jvm.Cond.code y bytes mx rt).before a s = true := by
  simp only [Bool.and_eq_true, beq_iff_eq, Bool.not_eq_true', decide_eq_true_eq] at h5
  obtain ⟨⟨⟨⟨⟨g1, g2⟩, g3⟩, g4⟩, g5⟩, g6⟩ := h5
  simp [Cond.before, Cond.holds, Cond.value, h1, h2, h3, h4, g1, g2, g3, g4, g5, g6]
def isCode : Jvm.Cond → Bool
  | .code _ _ _ _ => true
  | _ => false
theorem all_split {L : List Jvm.Cond} {P : Jvm.Cond → Bool} (h1 : L.all (fun c => isCode c || P c) = true) (h2 : ∀ c ∈ L.filter isCode, P c = true) : L.all P = true := by
  refine List.all_eq_true.mpr fun c hc => ?_
  have h := List.all_eq_true.mp h1 c hc
  rcases Bool.eq_false_or_eq_true (isCode c) with hi | hi
  · exact h2 c (List.mem_filter.mpr ⟨hc, hi⟩)
  · simpa [hi] using h
set_option maxRecDepth 65536 in
theorem w_c0 : (Jvm.Cond.code x code maxLocals ret).before args0 about1 = true := code_word (m := ⟨1, 3⟩) (meth := k1m3) (c := k1c3) (by decide +kernel) rfl rfl rfl (by decide +kernel)
set_option maxRecDepth 65536 in
theorem w_c1 : (Jvm.Cond.code ({ cls := "keyhalo/KeyHashOneAtATimePinLaw", name := "fin", desc := "(I)J" } : Jvm.MethodName) method_3_code (2 : Nat) (Option.some Jvm.ClassFile.FieldType.long)).before args0 about1 = true := code_word (m := ⟨1, 2⟩) (meth := k1m2) (c := k1c2) (by decide +kernel) rfl rfl rfl (by decide +kernel)
set_option maxRecDepth 65536 in
theorem w_c2 : (Jvm.Cond.code ({ cls := "keyhalo/KeyHash", name := "oneAtATime", desc := "([BI)J" } : Jvm.MethodName) prog_4_method_3_code (4 : Nat) (Option.some Jvm.ClassFile.FieldType.long)).before args0 about1 = true := code_word (m := ⟨2, 0⟩) (meth := k2m0) (c := k2c0) (by decide +kernel) rfl rfl rfl (by decide +kernel)
set_option maxRecDepth 65536 in
theorem w_c3 : (Jvm.Cond.code ({ cls := "java/lang/Integer", name := "toUnsignedLong", desc := "(I)J" } : Jvm.MethodName) jdk_33_method_42_code (1 : Nat) (Option.some Jvm.ClassFile.FieldType.long)).before args0 about1 = true := code_word (m := ⟨8, 0⟩) (meth := k8m0) (c := k8c0) (by decide +kernel) rfl rfl rfl (by decide +kernel)
set_option maxRecDepth 65536 in
theorem w_c4 : (Jvm.Cond.code ({ cls := "keyhalo/KeyHashOneAtATimePinLaw", name := "step", desc := "(IB)I" } : Jvm.MethodName) method_2_code (3 : Nat) (Option.some Jvm.ClassFile.FieldType.int)).before args0 about1 = true := code_word (m := ⟨1, 1⟩) (meth := k1m1) (c := k1c1) (by decide +kernel) rfl rfl rfl (by decide +kernel)
def codes1 : List Jvm.Cond := [Jvm.Cond.code x code maxLocals ret, Jvm.Cond.code ({ cls := "keyhalo/KeyHashOneAtATimePinLaw", name := "fin", desc := "(I)J" } : Jvm.MethodName) method_3_code (2 : Nat) (Option.some Jvm.ClassFile.FieldType.long), Jvm.Cond.code ({ cls := "keyhalo/KeyHash", name := "oneAtATime", desc := "([BI)J" } : Jvm.MethodName) prog_4_method_3_code (4 : Nat) (Option.some Jvm.ClassFile.FieldType.long), Jvm.Cond.code ({ cls := "java/lang/Integer", name := "toUnsignedLong", desc := "(I)J" } : Jvm.MethodName) jdk_33_method_42_code (1 : Nat) (Option.some Jvm.ClassFile.FieldType.long), Jvm.Cond.code ({ cls := "keyhalo/KeyHashOneAtATimePinLaw", name := "step", desc := "(IB)I" } : Jvm.MethodName) method_2_code (3 : Nat) (Option.some Jvm.ClassFile.FieldType.int)]
set_option maxRecDepth 65536 in
theorem codes_eq : words1.filter isCode = codes1 := rfl
theorem w_codes : ∀ c ∈ words1.filter isCode, c.before args0 about1 = true := by
  rw [codes_eq]
  intro c hc
  simp only [codes1, List.mem_cons, List.not_mem_nil, or_false] at hc
  rcases hc with rfl | rfl | rfl | rfl | rfl
  · exact w_c0
  · exact w_c1
  · exact w_c2
  · exact w_c3
  · exact w_c4
set_option maxRecDepth 65536 in
theorem w_t1 : words1.all (fun c => isCode c || c.before args0 about1) = true := by decide +kernel
theorem w_tables : (allAtoms (Jvm.Cond.code x code maxLocals ret :: tables_1)).before args0 about1 = true := by
  rw [allAtoms_all]
  show words1.all (fun c => c.before args0 about1) = true
  refine all_split ?_ w_codes
  rw [w_t1]
set_option maxRecDepth 65536 in
theorem w_case : (Jvm.Cond.and given_1 narrow_1).before args0 about1 = true := by decide +kernel
theorem w_applies : (headSpec (Jvm.Cond.code x code maxLocals ret :: tables_1) room_1).applies x e0.platform about1 = true :=
  (Spec.applies_iff w_frames).mpr ⟨w_running, w_runnable, w_alone, w_named, w_hears, w_ripe, w_room, w_tables⟩
theorem atStart : AtStart classFile x code maxLocals ret World_1 tables_1 room_1 Calls_1 rest_1 Pre_1 launch0 p0 e0 about1 theMethod args0 below0 :=
  ⟨lists_1, trivial, launch0.admits_env _ _ _, launch0.least_env, fairChoices_fair.cas, fairChoices_fair.clock, w_frames, w_args, w_heap, w_applies, trivial, trivial, w_case⟩
end start1
theorem witness_1 : WitnessClaimed_1 := ⟨start1.p0, start1.e0, start1.about1, start1.theMethod, start1.args0, start1.below0, start1.atStart⟩
end Jvm.Pilot.@@N@@
