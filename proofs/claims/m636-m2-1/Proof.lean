import JvmDerived
import JvmDerived.Pilot.@@N@@Statement
import JvmDerived.Pilot.@@N@@Code
set_option linter.unusedVariables false
set_option linter.unusedSimpArgs false
namespace Jvm.Pilot.@@N@@
open Jvm Jvm.ClassFile Sem Op Lib Jvm.Free Jvm.Stand Jvm.LawKit Jvm.RoadKit Bundle Jvm.Pilot.@@N@@.Jvm.D
section OwnKit
variable {p : Program} {l : Launch} {e : Env} {R : Room} {s : State} {m : MethodId} {args : Array Value} {below : List Frame} {meth : Method} {c : Code} {T T' : State} {locs : List Loc} {cells slots : Nat} {h : Heap} {Q : Option Value → Heap → List Loc → Prop} {kc ks : Nat} {g g' : JFrame}
/-- from this state and frame the method comes to its end, and what it leaves is Q -/
def Gl (p : Program) (e : Env) (below : List Frame) (s : State) (Q : Option Value → Heap → List Loc → Prop) (kc ks : Nat) (T : State) (g : JFrame) : Prop :=
  ∃ s₂ o, Steps p.tables e below (T.setTop g) s₂ ∧ s₂.status = .running ∧ Ended s₂ below o ∧ ∃ v L, o = .returned v ∧ Q v s₂.heap L ∧ FrameEnd s o s₂ L kc ks
theorem Gl.st (h : ∀ t, Steps p.tables e below (T'.setTop g') t → Steps p.tables e below (T.setTop g) t) (k : Gl p e below s Q kc ks T' g') : Gl p e below s Q kc ks T g := by
  obtain ⟨s₂, o, h1, r⟩ := k
  exact ⟨s₂, o, h _ h1, r⟩
theorem Gl.ret (X : Stand p l e R s m args below meth c T locs cells slots) (hlk : meth.locks = false) (v : Option Value) (hv : meth.sig.returnType = none → v = none) (eT : T.heap = h) (hc : cells ≤ kc) (hs : slots ≤ ks)
    (hst : ∀ fs, (∀ (f : JFrame) (acts : List Action), f.method = m → f.locked = none → f.entered = [] → (doReturn e (T.setTop f) acts v).1 = T.setFrames fs) → Steps p.tables e below (T.setTop g) (T.setFrames fs))
    (hq : Q v h locs) : Gl p e below s Q kc ks T g := by
  obtain ⟨fs, hr, hrun, hended, hW, hsame⟩ := X.leave (v := v) hv hlk
  refine ⟨_, _, hst fs hr, hrun, hended, v, locs, rfl, ?_, ⟨_, rfl⟩, hW, hsame.mono hc hs⟩
  show Q v T.heap locs
  rw [eT]; exact hq
theorem Gl.retI (X : Stand p l e R s m args below meth c T locs cells slots) (hx : p.tables.exec = Jvm.exec) (hlk : meth.locks = false) {pc : Nat} {Ls : Array Slot} {z : Int32} {rest : List Value} (hret : meth.sig.returnType = some .int) (hd : decode c.code pc = .ok (.ireturn, 1)) (eT : T.heap = h) (hc : cells ≤ kc) (hs : slots ≤ ks)
    (hq : Q (some (.int z)) h locs) : Gl p e below s Q kc ks T (mkF m pc Ls (.int z :: rest)) := by
  refine Gl.ret X hlk (some (.int z)) (fun q => by rw [hret] at q; cases q) eT hc hs (fun fs hl => ?_) hq
  exact retOut X hx hret (t := .int) rfl (Or.inl ⟨rfl, Or.inl rfl, _, rfl⟩) hd hl
theorem Gl.retZ (X : Stand p l e R s m args below meth c T locs cells slots) (hx : p.tables.exec = Jvm.exec) (hlk : meth.locks = false) {pc : Nat} {Ls : Array Slot} {z : Int32} {rest : List Value} (t : FieldType) (ht : t = .boolean ∨ t = .byte ∨ t = .char ∨ t = .short) (hret : meth.sig.returnType = some t) (hd : decode c.code pc = .ok (.ireturn, 1)) (eT : T.heap = h) (hc : cells ≤ kc) (hs : slots ≤ ks)
    (hq : Q (some (.int (nar t z))) h locs) : Gl p e below s Q kc ks T (mkF m pc Ls (.int z :: rest)) := by
  refine Gl.ret X hlk (some (.int (nar t z))) (fun q => by rw [hret] at q; cases q) eT hc hs (fun fs hl => ?_) hq
  exact retN X hx (t := t) hret ht hd hl
theorem Gl.retL (X : Stand p l e R s m args below meth c T locs cells slots) (hx : p.tables.exec = Jvm.exec) (hlk : meth.locks = false) {pc : Nat} {Ls : Array Slot} {z : Int64} (hret : meth.sig.returnType = some .long) (hd : decode c.code pc = .ok (.lreturn, 1)) (eT : T.heap = h) (hc : cells ≤ kc) (hs : slots ≤ ks)
    (hq : Q (some (.long z)) h locs) : Gl p e below s Q kc ks T (mkF m pc Ls [.long z]) := by
  refine Gl.ret X hlk (some (.long z)) (fun q => by rw [hret] at q; cases q) eT hc hs (fun fs hl => ?_) hq
  exact X.lreturnOut hx hret hd hl
theorem Gl.retV (X : Stand p l e R s m args below meth c T locs cells slots) (hx : p.tables.exec = Jvm.exec) (hlk : meth.locks = false) {pc : Nat} {Ls : Array Slot} (hret : meth.sig.returnType = none) (hd : decode c.code pc = .ok (.return_, 1)) (eT : T.heap = h) (hc : cells ≤ kc) (hs : slots ≤ ks)
    (hq : Q none h locs) : Gl p e below s Q kc ks T (mkF m pc Ls []) := by
  refine Gl.ret X hlk none (fun _ => rfl) eT hc hs (fun fs hl => ?_) hq
  exact X.returnOut hx hret hd hl
end OwnKit

section OwnArr
variable {p : Program} {l : Launch} {e : Env} {R : Room} {s : State} {m : MethodId} {args : Array Value} {below : List Frame} {meth : Method} {c : Code} {T : State} {locs : List Loc} {cells slots : Nat} {Z : State} {h : Heap} {a : Addr} {k : ClassId} {z j x : Int32} {vs : List Value} {dv v : Value} {g : JFrame} {rest : List Value}
theorem own_ldB (X : Stand p l e R s m args below meth c T locs cells slots) (hx : p.tables.exec = Jvm.exec) (hZ : Z.Warmed39 s.vm) (eT : T.heap = h) (F : Arv Z h a k .byte z vs dv) (hj : ¬ j < 0 ∧ j < z) (u : vs.getD j.toNatClampNeg dv = v) (hg : g.method = m) (hs : g.stack = .int j :: .ref a :: rest) (hd : decode c.code g.pc = .ok (.baload, 1)) :
    ∀ t, Steps p.tables e below (T.setTop { g with pc := g.pc + 1, stack := v :: rest }) t → Steps p.tables e below (T.setTop g) t := by
  obtain ⟨cl, A, q1, S, q3, H, G⟩ := F
  have hin := inb_of S hj
  intro t kk
  exact X.baloadBytes hx (by rw [eT]; exact A.1) (State.isArrayOf_alike hZ.alike A.2.1) A.2.2 hin (Has.at H hin u) hg hs hd t kk
theorem own_ldC (X : Stand p l e R s m args below meth c T locs cells slots) (hx : p.tables.exec = Jvm.exec) (hZ : Z.Warmed39 s.vm) (eT : T.heap = h) (F : Arv Z h a k .char z vs dv) (hj : ¬ j < 0 ∧ j < z) (u : vs.getD j.toNatClampNeg dv = v) (hg : g.method = m) (hs : g.stack = .int j :: .ref a :: rest) (hd : decode c.code g.pc = .ok (.caload, 1)) :
    ∀ t, Steps p.tables e below (T.setTop { g with pc := g.pc + 1, stack := v :: rest }) t → Steps p.tables e below (T.setTop g) t := by
  obtain ⟨cl, A, q1, S, q3, H, G⟩ := F
  have hin := inb_of S hj
  intro t kk
  exact X.caload hx (by rw [eT]; exact A.1) (State.isArrayOf_alike hZ.alike A.2.1) A.2.2 hin (Has.at H hin u) hg hs hd t kk
theorem own_len {ty : FieldType} (X : Stand p l e R s m args below meth c T locs cells slots) (hx : p.tables.exec = Jvm.exec) (hZ : Z.Warmed39 s.vm) (eT : T.heap = h) (F : Arv Z h a k ty z vs dv) (hg : g.method = m) (hs : g.stack = .ref a :: rest) (hd : decode c.code g.pc = .ok (.arraylength, 1)) :
    ∀ t, Steps p.tables e below (T.setTop { g with pc := g.pc + 1, stack := .int z :: rest }) t → Steps p.tables e below (T.setTop g) t := by
  obtain ⟨cl, A, q1, S, q3, H, G⟩ := F
  intro t kk
  exact X.arraylength hx (by rw [eT]; exact A.1) (State.isArrayOf_alike hZ.alike A.2.1) hg hs hd t (by rw [len_of S q3]; exact kk)
theorem own_stB (X : Stand p l e R s m args below meth c T locs cells slots) (hx : p.tables.exec = Jvm.exec) (hZ : Z.Warmed39 s.vm) (eT : T.heap = h) (F : Arv Z h a k .byte z vs dv) (hj : ¬ j < 0 ∧ j < z) (i : Nat) (hi : j.toNatClampNeg = i) (hl : i < vs.length) (hg : g.method = m) (hs : g.stack = .int x :: .int j :: .ref a :: rest) (hd : decode c.code g.pc = .ok (.bastore, 1)) :
    ∃ T' h' y, Stand p l e R s m args below meth c T' (locs ++ [⟨a, j.toNatClampNeg⟩]) cells slots ∧ T'.heap = h' ∧ Wr h h' a j.toNatClampNeg (.int y) ∧ y = nar .byte x ∧ Arv Z h' a k .byte z (vs.set i (.int y)) dv ∧
      ∀ t, Steps p.tables e below (T'.setTop { g with pc := g.pc + 1, stack := rest }) t → Steps p.tables e below (T.setTop g) t := by
  obtain ⟨cl, A, q1, S, q3, H, G⟩ := F
  obtain ⟨T', h', X', e', W', st'⟩ := stB X hx hZ eT A (inb_of S hj) hg hs hd
  exact ⟨T', h', _, X', e', W', rfl, Arv.set A q1 S q3 H G (fits_nar_byte _) W' i hi hl, st'⟩
theorem own_stC (X : Stand p l e R s m args below meth c T locs cells slots) (hx : p.tables.exec = Jvm.exec) (hZ : Z.Warmed39 s.vm) (eT : T.heap = h) (F : Arv Z h a k .char z vs dv) (hj : ¬ j < 0 ∧ j < z) (i : Nat) (hi : j.toNatClampNeg = i) (hl : i < vs.length) (hg : g.method = m) (hs : g.stack = .int x :: .int j :: .ref a :: rest) (hd : decode c.code g.pc = .ok (.castore, 1)) :
    ∃ T' h' y, Stand p l e R s m args below meth c T' (locs ++ [⟨a, j.toNatClampNeg⟩]) cells slots ∧ T'.heap = h' ∧ Wr h h' a j.toNatClampNeg (.int y) ∧ y = nar .char x ∧ Arv Z h' a k .char z (vs.set i (.int y)) dv ∧
      ∀ t, Steps p.tables e below (T'.setTop { g with pc := g.pc + 1, stack := rest }) t → Steps p.tables e below (T.setTop g) t := by
  obtain ⟨cl, A, q1, S, q3, H, G⟩ := F
  obtain ⟨T', h', X', e', W', st'⟩ := stC X hx hZ eT A (inb_of S hj) hg hs hd
  exact ⟨T', h', _, X', e', W', rfl, Arv.set A q1 S q3 H G (fits_nar_char _) W' i hi hl, st'⟩
theorem own_stI (X : Stand p l e R s m args below meth c T locs cells slots) (hx : p.tables.exec = Jvm.exec) (hZ : Z.Warmed39 s.vm) (eT : T.heap = h) (F : Arv Z h a k .int z vs dv) (hj : ¬ j < 0 ∧ j < z) (i : Nat) (hi : j.toNatClampNeg = i) (hl : i < vs.length) (hg : g.method = m) (hs : g.stack = .int x :: .int j :: .ref a :: rest) (hd : decode c.code g.pc = .ok (.iastore, 1)) :
    ∃ T' h', Stand p l e R s m args below meth c T' (locs ++ [⟨a, j.toNatClampNeg⟩]) cells slots ∧ T'.heap = h' ∧ Wr h h' a j.toNatClampNeg (.int x) ∧ Arv Z h' a k .int z (vs.set i (.int x)) dv ∧
      ∀ t, Steps p.tables e below (T'.setTop { g with pc := g.pc + 1, stack := rest }) t → Steps p.tables e below (T.setTop g) t := by
  obtain ⟨cl, A, q1, S, q3, H, G⟩ := F
  obtain ⟨T', h', X', e', W', st'⟩ := stI X hx hZ eT A (inb_of S hj) hg hs hd
  exact ⟨T', h', X', e', W', Arv.set A q1 S q3 H G rfl W' i hi hl, st'⟩
end OwnArr

theorem own_z0 : nar .boolean (0 : Int32) = 0 := by decide
theorem own_z1 : nar .boolean (1 : Int32) = 1 := by decide
theorem own_nn (x : Int32) : 0 ≤ (x &&& (2147483647 : Int32)).toInt := by
  rw [c_mask x 2147483647 31 (by decide) (by decide)]
  exact Int.emod_nonneg _ (by decide)
theorem own_lt {x y : Int32} (h : x.toInt < y.toInt) : x < y := Int32.lt_iff_toInt_lt.mpr h
theorem own_nlt {x y : Int32} (h : y.toInt ≤ x.toInt) : ¬ x < y := fun q => by
  have := Int32.lt_iff_toInt_lt.mp q; omega
theorem own_eq {x y : Int32} (h : x.toInt = y.toInt) : x = y := Int32.toInt_inj.mp h
theorem own_ltI {x y : Int32} (h : x < y) : x.toInt < y.toInt := Int32.lt_iff_toInt_lt.mp h
theorem own_nltI {x y : Int32} (h : ¬ x < y) : y.toInt ≤ x.toInt := by
  rcases Int.lt_or_le x.toInt y.toInt with q | q
  · exact absurd (own_lt q) h
  · exact q
theorem own_rem {x y : Int32} (hx : 0 ≤ x.toInt) (hy : 0 < y.toInt) : 0 ≤ (x % y).toInt ∧ (x % y).toInt < y.toInt := by
  have h := (c_irem x y y.toInt rfl).1 hx
  rw [h]; exact ⟨Int.emod_nonneg _ (by omega), Int.emod_lt_of_pos _ hy⟩
theorem own_add {x y : Int32} (h1 : -2147483648 ≤ x.toInt + y.toInt) (h2 : x.toInt + y.toInt < 2147483648) : (x + y).toInt = x.toInt + y.toInt := by
  have a := c_iadd x y; have b := (x + y).toInt_lt; have c := (x + y).le_toInt; omega
theorem own_sub {x y : Int32} (h1 : -2147483648 ≤ x.toInt - y.toInt) (h2 : x.toInt - y.toInt < 2147483648) : (x - y).toInt = x.toInt - y.toInt := by
  have a := c_isub x y; have b := (x - y).toInt_lt; have c := (x - y).le_toInt; omega
theorem own_and (x : Int32) (m : Int32) (k : Nat) (hk : k ≤ 31) (hm : m.toBitVec.toNat = 2 ^ k - 1) : 0 ≤ (x &&& m).toInt ∧ (x &&& m).toInt ≤ m.toInt ∧ (x &&& m).toInt = x.toInt % (2 ^ k : Nat) := by
  have h := c_mask x m k hk hm
  have hm0 : 0 ≤ m.toInt := by
    have e : m.toInt = m.toBitVec.toInt := rfl
    have q : 2 ^ k ≤ 2 ^ 31 := Nat.pow_le_pow_right (by decide) hk
    have l := m.toBitVec.isLt
    rw [e, BitVec.toInt_eq_toNat_cond, hm]; split <;> omega
  exact ⟨(c_and x m hm0).1, (c_and x m hm0).2, h⟩
section OwnArr2
variable {p : Program} {l : Launch} {e : Env} {R : Room} {s : State} {m : MethodId} {args : Array Value} {below : List Frame} {meth : Method} {c : Code} {T : State} {locs : List Loc} {cells slots : Nat} {Z : State} {h : Heap} {a : Addr} {k : ClassId} {z j x : Int32} {vs : List Value} {dv v : Value} {g : JFrame} {rest : List Value}
theorem own_stIx (X : Stand p l e R s m args below meth c T locs cells slots) (hx : p.tables.exec = Jvm.exec) (hZ : Z.Warmed39 s.vm) (eT : T.heap = h) (F : Arv Z h a k .int z vs dv) (hj : ¬ j < 0 ∧ j < z) (hg : g.method = m) (hs : g.stack = .int x :: .int j :: .ref a :: rest) (hd : decode c.code g.pc = .ok (.iastore, 1)) :
    ∃ T' h' vs', Stand p l e R s m args below meth c T' (locs ++ [⟨a, j.toNatClampNeg⟩]) cells slots ∧ T'.heap = h' ∧ Wr h h' a j.toNatClampNeg (.int x) ∧ Arv Z h' a k .int z vs' dv ∧
      ∀ t, Steps p.tables e below (T'.setTop { g with pc := g.pc + 1, stack := rest }) t → Steps p.tables e below (T.setTop g) t := by
  have F' := F.pad (pad_rep vs dv (j.toNatClampNeg + 1))
  obtain ⟨T', h', X', e', W', V', st'⟩ := own_stI X hx hZ eT F' hj j.toNatClampNeg rfl (by rw [List.length_append, List.length_replicate]; omega) hg hs hd
  exact ⟨T', h', _, X', e', W', V', st'⟩
end OwnArr2
def own_fits (cnt len x : Int32) : Int32 := if cnt = (0 : Int32) then 1 else if cnt < (16384 : Int32) then (if (1048576 : Int32) < (len + x) then 0 else 1) else 0
def own_em (cnt : Int32) : Int32 := if cnt = (0 : Int32) then 1 else 0
/-- small numbers, not negative -/
def Sm (b : Int) (x : Int32) : Prop := 0 ≤ x.toInt ∧ x.toInt ≤ b
theorem Sm.add {a b : Int} {x y : Int32} (h : Sm a x) (g : Sm b y) (q : a + b < 2147483648) : Sm (a + b) (x + y) := by
  obtain ⟨h1, h2⟩ := h; obtain ⟨g1, g2⟩ := g
  have := own_add (x := x) (y := y) (by omega) (by omega)
  exact ⟨by omega, by omega⟩
theorem Sm.mono {a b : Int} {x : Int32} (h : Sm a x) (q : a ≤ b) : Sm b x := ⟨h.1, Int.le_trans h.2 q⟩
theorem Sm.nn {a : Int} {x : Int32} (h : Sm a x) : ¬ x < 0 := own_nlt h.1
theorem Sm.clamp {a : Int} {x : Int32} (h : Sm a x) : (x.toNatClampNeg : Int) = x.toInt := (nat_of h.nn).symm
theorem own_fits1 {cnt len x : Int32} (hc : Sm 1000 cnt) (hl : Sm 1000 len) (hx : Sm 1000 x) : ¬ own_fits cnt len x = (0 : Int32) := by
  have q := hl.add hx (by decide)
  have t : (1048576 : Int32).toInt = 1048576 := by decide
  have u : (16384 : Int32).toInt = 16384 := by decide
  have h1 := q.2; have h2 := hc.2
  unfold own_fits
  by_cases c1 : cnt = (0 : Int32)
  · rw [if_pos c1]; decide
  · rw [if_neg c1, if_pos (own_lt (by omega)), if_neg (own_nlt (by omega))]; decide
theorem own_nb {len x : Int32} (hl : Sm 1000 len) (hx : Sm 1000 x) : ¬ (65536 : Int32) < (len + x) := by
  have q := hl.add hx (by decide)
  have t : (65536 : Int32).toInt = 65536 := by decide
  have h1 := q.2
  exact own_nlt (by omega)
theorem own_ix {cnt : Int32} (hc : Sm 1000 cnt) : ¬ cnt < 0 ∧ cnt < (16384 : Int32) := by
  have u : (16384 : Int32).toInt = 16384 := by decide
  have h2 := hc.2
  exact ⟨hc.nn, own_lt (by omega)⟩

def HB (Z : State) (n0 : Nat) (a b : Addr) (kb : ClassId) (zb : Int32) (h : Heap) (cnt len : Int32) : Prop :=
  n0 ≤ h.size ∧ Exa Z h a "com/example/bristlecone/bristlecone/HashBatch" ∧ n0 ≤ a ∧ (∃ vs, Arv Z h b kb .byte zb vs (.int (0 : Int32))) ∧ b ≠ a ∧ ∃ (aI aE : Addr) (kI kE : ClassId), Fld Z h a "com/example/bristlecone/bristlecone/HashBatch" "input" "[B" (.ref aI) ∧ Fld Z h a "com/example/bristlecone/bristlecone/HashBatch" "ends" "[I" (.ref aE) ∧ Fld Z h a "com/example/bristlecone/bristlecone/HashBatch" "count" "I" (.int cnt) ∧ Fld Z h a "com/example/bristlecone/bristlecone/HashBatch" "length" "I" (.int len) ∧ (∃ vs, Arv Z h aI kI .byte (65536 : Int32) vs (.int (0 : Int32))) ∧ (∃ vs, Arv Z h aE kE .int (16384 : Int32) vs (.int (0 : Int32))) ∧ n0 ≤ aI ∧ n0 ≤ aE ∧ a ≠ aI ∧ a ≠ aE ∧ aI ≠ aE ∧ b ≠ aI ∧ b ≠ aE ∧ (∃ w : Int64, Fld Z h a "com/example/bristlecone/bristlecone/HashBatch" "start" "J" (.long w)) ∧ (∃ w : Int32, Fld Z h a "com/example/bristlecone/bristlecone/HashBatch" "heights" "I" (.int w))
theorem HB.exa {Z : State} {n0 : Nat} {a b : Addr} {kb : ClassId} {zb : Int32} {h : Heap} {cnt len : Int32} (H : HB Z n0 a b kb zb h cnt len) : Exa Z h a "com/example/bristlecone/bristlecone/HashBatch" := H.2.1
theorem d1_0 : decode prog_11_method_1_code 0 = .ok (.aload_n 0, 1) := by decide +kernel
theorem d1_1 : decode prog_11_method_1_code 1 = .ok (.invokespecial 3, 3) := by decide +kernel
theorem d1_4 : decode prog_11_method_1_code 4 = .ok (.aload_n 0, 1) := by decide +kernel
theorem d1_5 : decode prog_11_method_1_code 5 = .ok (.ldc 9, 2) := by decide +kernel
theorem d1_7 : decode prog_11_method_1_code 7 = .ok (.newarray .byte, 2) := by decide +kernel
theorem d1_9 : decode prog_11_method_1_code 9 = .ok (.putfield 10, 3) := by decide +kernel
theorem d1_12 : decode prog_11_method_1_code 12 = .ok (.aload_n 0, 1) := by decide +kernel
theorem d1_13 : decode prog_11_method_1_code 13 = .ok (.sipush 16384, 3) := by decide +kernel
theorem d1_16 : decode prog_11_method_1_code 16 = .ok (.newarray .int, 2) := by decide +kernel
theorem d1_18 : decode prog_11_method_1_code 18 = .ok (.putfield 16, 3) := by decide +kernel
theorem d1_21 : decode prog_11_method_1_code 21 = .ok (.aload_n 0, 1) := by decide +kernel
theorem d1_22 : decode prog_11_method_1_code 22 = .ok (.iconst 0, 1) := by decide +kernel
theorem d1_23 : decode prog_11_method_1_code 23 = .ok (.newarray .byte, 2) := by decide +kernel
theorem d1_25 : decode prog_11_method_1_code 25 = .ok (.putfield 20, 3) := by decide +kernel
theorem d1_28 : decode prog_11_method_1_code 28 = .ok (.aload_n 0, 1) := by decide +kernel
theorem d1_29 : decode prog_11_method_1_code 29 = .ok (.bipush 64, 2) := by decide +kernel
theorem d1_31 : decode prog_11_method_1_code 31 = .ok (.newarray .int, 2) := by decide +kernel
theorem d1_33 : decode prog_11_method_1_code 33 = .ok (.putfield 25, 3) := by decide +kernel
theorem d1_36 : decode prog_11_method_1_code 36 = .ok (.return_, 1) := by decide +kernel
theorem pn_0 : plainName "com/example/bristlecone/bristlecone/HashBatch" = true := by first | (simp [plainName, overriddenIn]; done) | decide +kernel
theorem ef_1 (m : MethodId) (a1 : Addr) : entryFrame m #[(.ref a1)] 1 = mkF m 0 #[.val (.ref a1)] [] := by first | (simp [entryFrame, mkF, argsToLocals, Value.category]; done) | rfl
def Q1 (Z : State) (a1 : Addr) (b : Addr) (kb : ClassId) (zb : Int32) (vsB : List Value) (h0 : Heap) (n0 : Nat) (v : Option Value) (h : Heap) (L : List Loc) : Prop := v = none ∧ Fr n0 L ∧ HB Z n0 a1 b kb zb h (0 : Int32) (0 : Int32)
set_option maxRecDepth 65536 in
set_option maxHeartbeats 40000000 in
theorem rm1 (l : Launch) (Z : State) (a0 : Array Value) (hw : ∀ d ∈ tables_1, d.before a0 Z = true) (a1 : Addr) (b : Addr) (kb : ClassId) (zb : Int32) (vsB : List Value) (h0 : Heap) (n0 : Nat) (Z0 : n0 ≤ h0.size) (EX : Exa Z h0 a1 "com/example/bristlecone/bristlecone/HashBatch") (gA : n0 ≤ a1) (VB : Arv Z h0 b kb .byte zb vsB (.int (0 : Int32))) (nBA : b ≠ a1) (Finput : Fld Z h0 a1 "com/example/bristlecone/bristlecone/HashBatch" "input" "[B" .null) (Fends : Fld Z h0 a1 "com/example/bristlecone/bristlecone/HashBatch" "ends" "[I" .null) (Fnodes : Fld Z h0 a1 "com/example/bristlecone/bristlecone/HashBatch" "nodes" "[B" .null) (FheightOffsets : Fld Z h0 a1 "com/example/bristlecone/bristlecone/HashBatch" "heightOffsets" "[I" .null) (Fcount : Fld Z h0 a1 "com/example/bristlecone/bristlecone/HashBatch" "count" "I" (.int (0 : Int32))) (Flength : Fld Z h0 a1 "com/example/bristlecone/bristlecone/HashBatch" "length" "I" (.int (0 : Int32))) (Fstart : Fld Z h0 a1 "com/example/bristlecone/bristlecone/HashBatch" "start" "J" (.long (0 : Int64))) (Fheights : Fld Z h0 a1 "com/example/bristlecone/bristlecone/HashBatch" "heights" "I" (.int (0 : Int32))) :
    MetFree l (⟨"com/example/bristlecone/bristlecone/HashBatch", "<init>", "()V"⟩ : MethodName) (head1 [Jvm.Cond.code (⟨"com/example/bristlecone/bristlecone/HashBatch", "<init>", "()V"⟩ : MethodName) prog_11_method_1_code 1 none] ({ frames := 1, cells := 4, slots := 81984, locals := 12 } : Room)) (fun a U => a = #[(.ref a1)] ∧ Z.Warmed39 U.vm ∧ U.heap = h0) (fun _ _ _ _ _ => True) (fun _ U o U' => ∃ v L, o = .returned v ∧ Q1 Z a1 b kb zb vsB h0 n0 v U'.heap L ∧ FrameEnd U o U' L ({ frames := 1, cells := 4, slots := 81984, locals := 12 } : Room).cells ({ frames := 1, cells := 4, slots := 81984, locals := 12 } : Room).slots) := by
  refine MetFree.of_bodySF (plainFor_of_name pn_0) hisR ?_
  intro p e s m args below meth c s₁ Bd hml0 hP hK
  obtain ⟨rfl, hZ, hh⟩ := hP
  have hx := Bd.exec
  have hby := Bd.bytes
  have hlk : meth.locks = false := Bd.notSynchronized
  have hml : c.maxLocals = 1 := hml0
  have hown : s.vm.findClass "com/example/bristlecone/bristlecone/HashBatch" = some m.cls := findClass_of_methodNamed Bd.named
  have hnm := (name_of_methodNamed Bd.named Bd.method).1
  have X0 : Stand p l e ({ frames := 1, cells := 4, slots := 81984, locals := 12 } : Room) s m #[(.ref a1)] below meth c s₁ [] 0 0 := Stand.of_body Bd
  have e0 : s₁.heap = h0 := by rw [← hh, Bd.state]; rfl
  have N0 := Fr.nil n0
  show Gl p e below s (Q1 Z a1 b kb zb vsB h0 n0) 4 81984 s₁ (entryFrame m #[(.ref a1)] 1)
  rw [ef_1 m a1]
  refine Gl.st (g' := (mkF m 1 #[.val (.ref a1)] [(.ref a1)])) (fun t k => XS.aloadN X0.here hx rfl (hb hby d1_0) rfl rfl k) ?_
  obtain ⟨T1, X1, e1, st1⟩ := initO X0 hx hZ hown (hw _ (List.mem_of_getElem? (i := 7) rfl)) (hw _ (List.mem_of_getElem? (i := 8) rfl)) (hw _ (List.mem_of_getElem? (i := 9) rfl)) e0 (g := (mkF m 1 #[.val (.ref a1)] [(.ref a1)])) rfl (by rw [hml]; rfl) rfl (hb hby d1_1) (by decide) (W := 0) (by show 2 * 0 + _ ≤ _; exact Nat.le_of_eq rfl) (by decide)
  refine Gl.st (g' := (mkF m 4 #[.val (.ref a1)] [])) st1 ?_
  refine Gl.st (g' := (mkF m 5 #[.val (.ref a1)] [(.ref a1)])) (fun t k => XS.aloadN X1.here hx rfl (hb hby d1_4) rfl rfl k) ?_
  refine Gl.st (g' := (mkF m 7 #[.val (.ref a1)] [(.int (65536 : Int32)), (.ref a1)])) (fun t k => X1.ldcI hx hown (mvT hZ (hw _ (List.mem_of_getElem? (i := 10) rfl))) rfl (hb hby d1_5) k) ?_
  obtain ⟨T2, h2, cA2, X2, e2, E2, A2, st2⟩ := newP X1 hx hZ (hw _ (List.mem_of_getElem? (i := 0) rfl)) e1 (g := (mkF m 7 #[.val (.ref a1)] [(.int (65536 : Int32)), (.ref a1)])) rfl (hb hby d1_7) rfl (by decide) (cap := 65536) (by decide) (by decide) (by decide) (by decide)
  obtain ⟨a2, g2⟩ : ∃ z, z = h0.size := ⟨_, rfl⟩
  have ge2 : n0 ≤ a2 := Nat.le_trans Z0 (Nat.le_of_eq g2.symm)
  have ne_a1_2 : a1 ≠ a2 := fun q => absurd (g2 ▸ q ▸ (Finput.lt : a1 < h0.size)) (Nat.lt_irrefl _)
  have ne_b_2 : b ≠ a2 := fun q => absurd (g2 ▸ q ▸ (VB.lt : b < h0.size)) (Nat.lt_irrefl _)
  rw [← g2] at A2 st2
  have Z2 : n0 ≤ h2.size := Nat.le_trans Z0 E2.1
  have V2 : Arv Z h2 a2 cA2 .byte (65536 : Int32) [] (.int (0 : Int32)) := Arv.new A2 (by decide)
  have F3 : Fld Z h2 a1 "com/example/bristlecone/bristlecone/HashBatch" "input" "[B" .null := (Finput.ext E2)
  have F4 : Fld Z h2 a1 "com/example/bristlecone/bristlecone/HashBatch" "ends" "[I" .null := (Fends.ext E2)
  have F5 : Fld Z h2 a1 "com/example/bristlecone/bristlecone/HashBatch" "nodes" "[B" .null := (Fnodes.ext E2)
  have F6 : Fld Z h2 a1 "com/example/bristlecone/bristlecone/HashBatch" "heightOffsets" "[I" .null := (FheightOffsets.ext E2)
  have F7 : Fld Z h2 a1 "com/example/bristlecone/bristlecone/HashBatch" "count" "I" (.int (0 : Int32)) := (Fcount.ext E2)
  have F8 : Fld Z h2 a1 "com/example/bristlecone/bristlecone/HashBatch" "length" "I" (.int (0 : Int32)) := (Flength.ext E2)
  have F9 : Fld Z h2 a1 "com/example/bristlecone/bristlecone/HashBatch" "start" "J" (.long (0 : Int64)) := (Fstart.ext E2)
  have F10 : Fld Z h2 a1 "com/example/bristlecone/bristlecone/HashBatch" "heights" "I" (.int (0 : Int32)) := (Fheights.ext E2)
  have E11 : Exa Z h2 a1 "com/example/bristlecone/bristlecone/HashBatch" := (EX.ext E2)
  have V12 : Arv Z h2 b kb .byte zb vsB (.int (0 : Int32)) := (VB.ext E2)
  refine Gl.st (g' := (mkF m 9 #[.val (.ref a1)] [(.ref a2), (.ref a1)])) st2 ?_
  obtain ⟨T13, h13, X13, e13, W13, st13⟩ := putF X2 hx hZ hown (host := "") (Or.inl (hw _ (List.mem_of_getElem? (i := 11) rfl))) Via.refl e2 F3 E11 (Or.inl (hw _ (List.mem_of_getElem? (i := 12) rfl))) (hw _ (List.mem_of_getElem? (i := 2) rfl)) (ty := (.array .byte)) (by decide) rfl rfl (g := (mkF m 9 #[.val (.ref a1)] [(.ref a2), (.ref a1)])) rfl rfl (hb hby d1_9)
  have N13 := Fr.snoc X13 N0 gA
  have Z13 : n0 ≤ h13.size := Nat.le_trans Z2 (Keep.of_wr W13).1
  have F14 : Fld Z h13 a1 "com/example/bristlecone/bristlecone/HashBatch" "input" "[B" (.ref a2) := (F3.same W13)
  have F15 : Fld Z h13 a1 "com/example/bristlecone/bristlecone/HashBatch" "ends" "[I" .null := (F4.other W13 (Or.inr (slot_ne (Or.inr (hw _ (List.mem_of_getElem? (i := 15) rfl))) (Or.inl (hw _ (List.mem_of_getElem? (i := 12) rfl))) (by decide) (t := (.array .int)) (t' := (.array .byte)) (by decide) (by decide))))
  have F16 : Fld Z h13 a1 "com/example/bristlecone/bristlecone/HashBatch" "nodes" "[B" .null := (F5.other W13 (Or.inr (slot_ne (Or.inl (hw _ (List.mem_of_getElem? (i := 17) rfl))) (Or.inl (hw _ (List.mem_of_getElem? (i := 12) rfl))) (by decide) (t := (.array .byte)) (t' := (.array .byte)) (by decide) (by decide))))
  have F17 : Fld Z h13 a1 "com/example/bristlecone/bristlecone/HashBatch" "heightOffsets" "[I" .null := (F6.other W13 (Or.inr (slot_ne (Or.inr (hw _ (List.mem_of_getElem? (i := 19) rfl))) (Or.inl (hw _ (List.mem_of_getElem? (i := 12) rfl))) (by decide) (t := (.array .int)) (t' := (.array .byte)) (by decide) (by decide))))
  have F18 : Fld Z h13 a1 "com/example/bristlecone/bristlecone/HashBatch" "count" "I" (.int (0 : Int32)) := (F7.other W13 (Or.inr (slot_ne (Or.inl (hw _ (List.mem_of_getElem? (i := 26) rfl))) (Or.inl (hw _ (List.mem_of_getElem? (i := 12) rfl))) (by decide) (t := .int) (t' := (.array .byte)) (by decide) (by decide))))
  have F19 : Fld Z h13 a1 "com/example/bristlecone/bristlecone/HashBatch" "length" "I" (.int (0 : Int32)) := (F8.other W13 (Or.inr (slot_ne (Or.inl (hw _ (List.mem_of_getElem? (i := 38) rfl))) (Or.inl (hw _ (List.mem_of_getElem? (i := 12) rfl))) (by decide) (t := .int) (t' := (.array .byte)) (by decide) (by decide))))
  have F20 : Fld Z h13 a1 "com/example/bristlecone/bristlecone/HashBatch" "start" "J" (.long (0 : Int64)) := (F9.other W13 (Or.inr (slot_ne (Or.inl (hw _ (List.mem_of_getElem? (i := 51) rfl))) (Or.inl (hw _ (List.mem_of_getElem? (i := 12) rfl))) (by decide) (t := .long) (t' := (.array .byte)) (by decide) (by decide))))
  have F21 : Fld Z h13 a1 "com/example/bristlecone/bristlecone/HashBatch" "heights" "I" (.int (0 : Int32)) := (F10.other W13 (Or.inr (slot_ne (Or.inl (hw _ (List.mem_of_getElem? (i := 53) rfl))) (Or.inl (hw _ (List.mem_of_getElem? (i := 12) rfl))) (by decide) (t := .int) (t' := (.array .byte)) (by decide) (by decide))))
  have E22 : Exa Z h13 a1 "com/example/bristlecone/bristlecone/HashBatch" := (E11.wr W13)
  have V23 : Arv Z h13 b kb .byte zb vsB (.int (0 : Int32)) := (V12.other W13 nBA)
  have V24 : Arv Z h13 a2 cA2 .byte (65536 : Int32) [] (.int (0 : Int32)) := (V2.other W13 ne_a1_2.symm)
  refine Gl.st (g' := (mkF m 12 #[.val (.ref a1)] [])) st13 ?_
  refine Gl.st (g' := (mkF m 13 #[.val (.ref a1)] [(.ref a1)])) (fun t k => XS.aloadN X13.here hx rfl (hb hby d1_12) rfl rfl k) ?_
  refine Gl.st (g' := (mkF m 16 #[.val (.ref a1)] [(.int (16384 : Int32)), (.ref a1)])) (fun t k => XT.sipushV X13.here hx rfl (16384 : Int32) (hb hby d1_13) rfl k) ?_
  obtain ⟨T25, h25, cA25, X25, e25, E25, A25, st25⟩ := newP X13 hx hZ (hw _ (List.mem_of_getElem? (i := 13) rfl)) e13 (g := (mkF m 16 #[.val (.ref a1)] [(.int (16384 : Int32)), (.ref a1)])) rfl (hb hby d1_16) rfl (by decide) (cap := 16384) (by decide) (by decide) (by decide) (by decide)
  obtain ⟨a25, g25⟩ : ∃ z, z = h13.size := ⟨_, rfl⟩
  have ge25 : n0 ≤ a25 := Nat.le_trans Z13 (Nat.le_of_eq g25.symm)
  have ne_a1_25 : a1 ≠ a25 := fun q => absurd (g25 ▸ q ▸ (F14.lt : a1 < h13.size)) (Nat.lt_irrefl _)
  have ne_b_25 : b ≠ a25 := fun q => absurd (g25 ▸ q ▸ (V23.lt : b < h13.size)) (Nat.lt_irrefl _)
  have ne_a2_25 : a2 ≠ a25 := fun q => absurd (g25 ▸ q ▸ (V24.lt : a2 < h13.size)) (Nat.lt_irrefl _)
  rw [← g25] at A25 st25
  have Z25 : n0 ≤ h25.size := Nat.le_trans Z13 E25.1
  have V25 : Arv Z h25 a25 cA25 .int (16384 : Int32) [] (.int (0 : Int32)) := Arv.new A25 (by decide)
  have F26 : Fld Z h25 a1 "com/example/bristlecone/bristlecone/HashBatch" "input" "[B" (.ref a2) := (F14.ext E25)
  have F27 : Fld Z h25 a1 "com/example/bristlecone/bristlecone/HashBatch" "ends" "[I" .null := (F15.ext E25)
  have F28 : Fld Z h25 a1 "com/example/bristlecone/bristlecone/HashBatch" "nodes" "[B" .null := (F16.ext E25)
  have F29 : Fld Z h25 a1 "com/example/bristlecone/bristlecone/HashBatch" "heightOffsets" "[I" .null := (F17.ext E25)
  have F30 : Fld Z h25 a1 "com/example/bristlecone/bristlecone/HashBatch" "count" "I" (.int (0 : Int32)) := (F18.ext E25)
  have F31 : Fld Z h25 a1 "com/example/bristlecone/bristlecone/HashBatch" "length" "I" (.int (0 : Int32)) := (F19.ext E25)
  have F32 : Fld Z h25 a1 "com/example/bristlecone/bristlecone/HashBatch" "start" "J" (.long (0 : Int64)) := (F20.ext E25)
  have F33 : Fld Z h25 a1 "com/example/bristlecone/bristlecone/HashBatch" "heights" "I" (.int (0 : Int32)) := (F21.ext E25)
  have E34 : Exa Z h25 a1 "com/example/bristlecone/bristlecone/HashBatch" := (E22.ext E25)
  have V35 : Arv Z h25 b kb .byte zb vsB (.int (0 : Int32)) := (V23.ext E25)
  have V36 : Arv Z h25 a2 cA2 .byte (65536 : Int32) [] (.int (0 : Int32)) := (V24.ext E25)
  refine Gl.st (g' := (mkF m 18 #[.val (.ref a1)] [(.ref a25), (.ref a1)])) st25 ?_
  obtain ⟨T37, h37, X37, e37, W37, st37⟩ := putF X25 hx hZ hown (host := "") (Or.inl (hw _ (List.mem_of_getElem? (i := 14) rfl))) Via.refl e25 F27 E34 (Or.inr ⟨(hw _ (List.mem_of_getElem? (i := 15) rfl)), rfl, hnm⟩) (hw _ (List.mem_of_getElem? (i := 2) rfl)) (ty := (.array .int)) (by decide) rfl rfl (g := (mkF m 18 #[.val (.ref a1)] [(.ref a25), (.ref a1)])) rfl rfl (hb hby d1_18)
  have N37 := Fr.snoc X37 N13 gA
  have Z37 : n0 ≤ h37.size := Nat.le_trans Z25 (Keep.of_wr W37).1
  have F38 : Fld Z h37 a1 "com/example/bristlecone/bristlecone/HashBatch" "input" "[B" (.ref a2) := (F26.other W37 (Or.inr (slot_ne (Or.inl (hw _ (List.mem_of_getElem? (i := 12) rfl))) (Or.inr (hw _ (List.mem_of_getElem? (i := 15) rfl))) (by decide) (t := (.array .byte)) (t' := (.array .int)) (by decide) (by decide))))
  have F39 : Fld Z h37 a1 "com/example/bristlecone/bristlecone/HashBatch" "ends" "[I" (.ref a25) := (F27.same W37)
  have F40 : Fld Z h37 a1 "com/example/bristlecone/bristlecone/HashBatch" "nodes" "[B" .null := (F28.other W37 (Or.inr (slot_ne (Or.inl (hw _ (List.mem_of_getElem? (i := 17) rfl))) (Or.inr (hw _ (List.mem_of_getElem? (i := 15) rfl))) (by decide) (t := (.array .byte)) (t' := (.array .int)) (by decide) (by decide))))
  have F41 : Fld Z h37 a1 "com/example/bristlecone/bristlecone/HashBatch" "heightOffsets" "[I" .null := (F29.other W37 (Or.inr (slot_ne (Or.inr (hw _ (List.mem_of_getElem? (i := 19) rfl))) (Or.inr (hw _ (List.mem_of_getElem? (i := 15) rfl))) (by decide) (t := (.array .int)) (t' := (.array .int)) (by decide) (by decide))))
  have F42 : Fld Z h37 a1 "com/example/bristlecone/bristlecone/HashBatch" "count" "I" (.int (0 : Int32)) := (F30.other W37 (Or.inr (slot_ne (Or.inl (hw _ (List.mem_of_getElem? (i := 26) rfl))) (Or.inr (hw _ (List.mem_of_getElem? (i := 15) rfl))) (by decide) (t := .int) (t' := (.array .int)) (by decide) (by decide))))
  have F43 : Fld Z h37 a1 "com/example/bristlecone/bristlecone/HashBatch" "length" "I" (.int (0 : Int32)) := (F31.other W37 (Or.inr (slot_ne (Or.inl (hw _ (List.mem_of_getElem? (i := 38) rfl))) (Or.inr (hw _ (List.mem_of_getElem? (i := 15) rfl))) (by decide) (t := .int) (t' := (.array .int)) (by decide) (by decide))))
  have F44 : Fld Z h37 a1 "com/example/bristlecone/bristlecone/HashBatch" "start" "J" (.long (0 : Int64)) := (F32.other W37 (Or.inr (slot_ne (Or.inl (hw _ (List.mem_of_getElem? (i := 51) rfl))) (Or.inr (hw _ (List.mem_of_getElem? (i := 15) rfl))) (by decide) (t := .long) (t' := (.array .int)) (by decide) (by decide))))
  have F45 : Fld Z h37 a1 "com/example/bristlecone/bristlecone/HashBatch" "heights" "I" (.int (0 : Int32)) := (F33.other W37 (Or.inr (slot_ne (Or.inl (hw _ (List.mem_of_getElem? (i := 53) rfl))) (Or.inr (hw _ (List.mem_of_getElem? (i := 15) rfl))) (by decide) (t := .int) (t' := (.array .int)) (by decide) (by decide))))
  have E46 : Exa Z h37 a1 "com/example/bristlecone/bristlecone/HashBatch" := (E34.wr W37)
  have V47 : Arv Z h37 b kb .byte zb vsB (.int (0 : Int32)) := (V35.other W37 nBA)
  have V48 : Arv Z h37 a2 cA2 .byte (65536 : Int32) [] (.int (0 : Int32)) := (V36.other W37 ne_a1_2.symm)
  have V49 : Arv Z h37 a25 cA25 .int (16384 : Int32) [] (.int (0 : Int32)) := (V25.other W37 ne_a1_25.symm)
  refine Gl.st (g' := (mkF m 21 #[.val (.ref a1)] [])) st37 ?_
  refine Gl.st (g' := (mkF m 22 #[.val (.ref a1)] [(.ref a1)])) (fun t k => XS.aloadN X37.here hx rfl (hb hby d1_21) rfl rfl k) ?_
  refine Gl.st (g' := (mkF m 23 #[.val (.ref a1)] [(.int (0 : Int32)), (.ref a1)])) (fun t k => XT.iconstV X37.here hx rfl (0 : Int32) (hb hby d1_22) rfl k) ?_
  obtain ⟨T50, h50, cA50, X50, e50, E50, A50, st50⟩ := newP X37 hx hZ (hw _ (List.mem_of_getElem? (i := 0) rfl)) e37 (g := (mkF m 23 #[.val (.ref a1)] [(.int (0 : Int32)), (.ref a1)])) rfl (hb hby d1_23) rfl (by decide) (cap := 0) (by decide) (by decide) (by decide) (by decide)
  obtain ⟨a50, g50⟩ : ∃ z, z = h37.size := ⟨_, rfl⟩
  have ge50 : n0 ≤ a50 := Nat.le_trans Z37 (Nat.le_of_eq g50.symm)
  have ne_a1_50 : a1 ≠ a50 := fun q => absurd (g50 ▸ q ▸ (F38.lt : a1 < h37.size)) (Nat.lt_irrefl _)
  have ne_b_50 : b ≠ a50 := fun q => absurd (g50 ▸ q ▸ (V47.lt : b < h37.size)) (Nat.lt_irrefl _)
  have ne_a2_50 : a2 ≠ a50 := fun q => absurd (g50 ▸ q ▸ (V48.lt : a2 < h37.size)) (Nat.lt_irrefl _)
  have ne_a25_50 : a25 ≠ a50 := fun q => absurd (g50 ▸ q ▸ (V49.lt : a25 < h37.size)) (Nat.lt_irrefl _)
  rw [← g50] at A50 st50
  have Z50 : n0 ≤ h50.size := Nat.le_trans Z37 E50.1
  have V50 : Arv Z h50 a50 cA50 .byte (0 : Int32) [] (.int (0 : Int32)) := (Arv.new A50 (by decide)).pad (pad_rep [] _ 0)
  have F51 : Fld Z h50 a1 "com/example/bristlecone/bristlecone/HashBatch" "input" "[B" (.ref a2) := (F38.ext E50)
  have F52 : Fld Z h50 a1 "com/example/bristlecone/bristlecone/HashBatch" "ends" "[I" (.ref a25) := (F39.ext E50)
  have F53 : Fld Z h50 a1 "com/example/bristlecone/bristlecone/HashBatch" "nodes" "[B" .null := (F40.ext E50)
  have F54 : Fld Z h50 a1 "com/example/bristlecone/bristlecone/HashBatch" "heightOffsets" "[I" .null := (F41.ext E50)
  have F55 : Fld Z h50 a1 "com/example/bristlecone/bristlecone/HashBatch" "count" "I" (.int (0 : Int32)) := (F42.ext E50)
  have F56 : Fld Z h50 a1 "com/example/bristlecone/bristlecone/HashBatch" "length" "I" (.int (0 : Int32)) := (F43.ext E50)
  have F57 : Fld Z h50 a1 "com/example/bristlecone/bristlecone/HashBatch" "start" "J" (.long (0 : Int64)) := (F44.ext E50)
  have F58 : Fld Z h50 a1 "com/example/bristlecone/bristlecone/HashBatch" "heights" "I" (.int (0 : Int32)) := (F45.ext E50)
  have E59 : Exa Z h50 a1 "com/example/bristlecone/bristlecone/HashBatch" := (E46.ext E50)
  have V60 : Arv Z h50 b kb .byte zb vsB (.int (0 : Int32)) := (V47.ext E50)
  have V61 : Arv Z h50 a2 cA2 .byte (65536 : Int32) [] (.int (0 : Int32)) := (V48.ext E50)
  have V62 : Arv Z h50 a25 cA25 .int (16384 : Int32) [] (.int (0 : Int32)) := (V49.ext E50)
  refine Gl.st (g' := (mkF m 25 #[.val (.ref a1)] [(.ref a50), (.ref a1)])) st50 ?_
  obtain ⟨T63, h63, X63, e63, W63, st63⟩ := putF X50 hx hZ hown (host := "") (Or.inl (hw _ (List.mem_of_getElem? (i := 16) rfl))) Via.refl e50 F53 E59 (Or.inl (hw _ (List.mem_of_getElem? (i := 17) rfl))) (hw _ (List.mem_of_getElem? (i := 2) rfl)) (ty := (.array .byte)) (by decide) rfl rfl (g := (mkF m 25 #[.val (.ref a1)] [(.ref a50), (.ref a1)])) rfl rfl (hb hby d1_25)
  have N63 := Fr.snoc X63 N37 gA
  have Z63 : n0 ≤ h63.size := Nat.le_trans Z50 (Keep.of_wr W63).1
  have F64 : Fld Z h63 a1 "com/example/bristlecone/bristlecone/HashBatch" "input" "[B" (.ref a2) := (F51.other W63 (Or.inr (slot_ne (Or.inl (hw _ (List.mem_of_getElem? (i := 12) rfl))) (Or.inl (hw _ (List.mem_of_getElem? (i := 17) rfl))) (by decide) (t := (.array .byte)) (t' := (.array .byte)) (by decide) (by decide))))
  have F65 : Fld Z h63 a1 "com/example/bristlecone/bristlecone/HashBatch" "ends" "[I" (.ref a25) := (F52.other W63 (Or.inr (slot_ne (Or.inr (hw _ (List.mem_of_getElem? (i := 15) rfl))) (Or.inl (hw _ (List.mem_of_getElem? (i := 17) rfl))) (by decide) (t := (.array .int)) (t' := (.array .byte)) (by decide) (by decide))))
  have F66 : Fld Z h63 a1 "com/example/bristlecone/bristlecone/HashBatch" "nodes" "[B" (.ref a50) := (F53.same W63)
  have F67 : Fld Z h63 a1 "com/example/bristlecone/bristlecone/HashBatch" "heightOffsets" "[I" .null := (F54.other W63 (Or.inr (slot_ne (Or.inr (hw _ (List.mem_of_getElem? (i := 19) rfl))) (Or.inl (hw _ (List.mem_of_getElem? (i := 17) rfl))) (by decide) (t := (.array .int)) (t' := (.array .byte)) (by decide) (by decide))))
  have F68 : Fld Z h63 a1 "com/example/bristlecone/bristlecone/HashBatch" "count" "I" (.int (0 : Int32)) := (F55.other W63 (Or.inr (slot_ne (Or.inl (hw _ (List.mem_of_getElem? (i := 26) rfl))) (Or.inl (hw _ (List.mem_of_getElem? (i := 17) rfl))) (by decide) (t := .int) (t' := (.array .byte)) (by decide) (by decide))))
  have F69 : Fld Z h63 a1 "com/example/bristlecone/bristlecone/HashBatch" "length" "I" (.int (0 : Int32)) := (F56.other W63 (Or.inr (slot_ne (Or.inl (hw _ (List.mem_of_getElem? (i := 38) rfl))) (Or.inl (hw _ (List.mem_of_getElem? (i := 17) rfl))) (by decide) (t := .int) (t' := (.array .byte)) (by decide) (by decide))))
  have F70 : Fld Z h63 a1 "com/example/bristlecone/bristlecone/HashBatch" "start" "J" (.long (0 : Int64)) := (F57.other W63 (Or.inr (slot_ne (Or.inl (hw _ (List.mem_of_getElem? (i := 51) rfl))) (Or.inl (hw _ (List.mem_of_getElem? (i := 17) rfl))) (by decide) (t := .long) (t' := (.array .byte)) (by decide) (by decide))))
  have F71 : Fld Z h63 a1 "com/example/bristlecone/bristlecone/HashBatch" "heights" "I" (.int (0 : Int32)) := (F58.other W63 (Or.inr (slot_ne (Or.inl (hw _ (List.mem_of_getElem? (i := 53) rfl))) (Or.inl (hw _ (List.mem_of_getElem? (i := 17) rfl))) (by decide) (t := .int) (t' := (.array .byte)) (by decide) (by decide))))
  have E72 : Exa Z h63 a1 "com/example/bristlecone/bristlecone/HashBatch" := (E59.wr W63)
  have V73 : Arv Z h63 b kb .byte zb vsB (.int (0 : Int32)) := (V60.other W63 nBA)
  have V74 : Arv Z h63 a2 cA2 .byte (65536 : Int32) [] (.int (0 : Int32)) := (V61.other W63 ne_a1_2.symm)
  have V75 : Arv Z h63 a25 cA25 .int (16384 : Int32) [] (.int (0 : Int32)) := (V62.other W63 ne_a1_25.symm)
  have V76 : Arv Z h63 a50 cA50 .byte (0 : Int32) [] (.int (0 : Int32)) := (V50.other W63 ne_a1_50.symm)
  refine Gl.st (g' := (mkF m 28 #[.val (.ref a1)] [])) st63 ?_
  refine Gl.st (g' := (mkF m 29 #[.val (.ref a1)] [(.ref a1)])) (fun t k => XS.aloadN X63.here hx rfl (hb hby d1_28) rfl rfl k) ?_
  refine Gl.st (g' := (mkF m 31 #[.val (.ref a1)] [(.int (64 : Int32)), (.ref a1)])) (fun t k => XT.bipushV X63.here hx rfl (64 : Int32) (hb hby d1_29) rfl k) ?_
  obtain ⟨T77, h77, cA77, X77, e77, E77, A77, st77⟩ := newP X63 hx hZ (hw _ (List.mem_of_getElem? (i := 13) rfl)) e63 (g := (mkF m 31 #[.val (.ref a1)] [(.int (64 : Int32)), (.ref a1)])) rfl (hb hby d1_31) rfl (by decide) (cap := 64) (by decide) (by decide) (by decide) (by decide)
  obtain ⟨a77, g77⟩ : ∃ z, z = h63.size := ⟨_, rfl⟩
  have ge77 : n0 ≤ a77 := Nat.le_trans Z63 (Nat.le_of_eq g77.symm)
  have ne_a1_77 : a1 ≠ a77 := fun q => absurd (g77 ▸ q ▸ (F64.lt : a1 < h63.size)) (Nat.lt_irrefl _)
  have ne_b_77 : b ≠ a77 := fun q => absurd (g77 ▸ q ▸ (V73.lt : b < h63.size)) (Nat.lt_irrefl _)
  have ne_a2_77 : a2 ≠ a77 := fun q => absurd (g77 ▸ q ▸ (V74.lt : a2 < h63.size)) (Nat.lt_irrefl _)
  have ne_a25_77 : a25 ≠ a77 := fun q => absurd (g77 ▸ q ▸ (V75.lt : a25 < h63.size)) (Nat.lt_irrefl _)
  have ne_a50_77 : a50 ≠ a77 := fun q => absurd (g77 ▸ q ▸ (V76.lt : a50 < h63.size)) (Nat.lt_irrefl _)
  rw [← g77] at A77 st77
  have Z77 : n0 ≤ h77.size := Nat.le_trans Z63 E77.1
  have V77 : Arv Z h77 a77 cA77 .int (64 : Int32) [] (.int (0 : Int32)) := Arv.new A77 (by decide)
  have F78 : Fld Z h77 a1 "com/example/bristlecone/bristlecone/HashBatch" "input" "[B" (.ref a2) := (F64.ext E77)
  have F79 : Fld Z h77 a1 "com/example/bristlecone/bristlecone/HashBatch" "ends" "[I" (.ref a25) := (F65.ext E77)
  have F80 : Fld Z h77 a1 "com/example/bristlecone/bristlecone/HashBatch" "nodes" "[B" (.ref a50) := (F66.ext E77)
  have F81 : Fld Z h77 a1 "com/example/bristlecone/bristlecone/HashBatch" "heightOffsets" "[I" .null := (F67.ext E77)
  have F82 : Fld Z h77 a1 "com/example/bristlecone/bristlecone/HashBatch" "count" "I" (.int (0 : Int32)) := (F68.ext E77)
  have F83 : Fld Z h77 a1 "com/example/bristlecone/bristlecone/HashBatch" "length" "I" (.int (0 : Int32)) := (F69.ext E77)
  have F84 : Fld Z h77 a1 "com/example/bristlecone/bristlecone/HashBatch" "start" "J" (.long (0 : Int64)) := (F70.ext E77)
  have F85 : Fld Z h77 a1 "com/example/bristlecone/bristlecone/HashBatch" "heights" "I" (.int (0 : Int32)) := (F71.ext E77)
  have E86 : Exa Z h77 a1 "com/example/bristlecone/bristlecone/HashBatch" := (E72.ext E77)
  have V87 : Arv Z h77 b kb .byte zb vsB (.int (0 : Int32)) := (V73.ext E77)
  have V88 : Arv Z h77 a2 cA2 .byte (65536 : Int32) [] (.int (0 : Int32)) := (V74.ext E77)
  have V89 : Arv Z h77 a25 cA25 .int (16384 : Int32) [] (.int (0 : Int32)) := (V75.ext E77)
  have V90 : Arv Z h77 a50 cA50 .byte (0 : Int32) [] (.int (0 : Int32)) := (V76.ext E77)
  refine Gl.st (g' := (mkF m 33 #[.val (.ref a1)] [(.ref a77), (.ref a1)])) st77 ?_
  obtain ⟨T91, h91, X91, e91, W91, st91⟩ := putF X77 hx hZ hown (host := "") (Or.inl (hw _ (List.mem_of_getElem? (i := 18) rfl))) Via.refl e77 F81 E86 (Or.inr ⟨(hw _ (List.mem_of_getElem? (i := 19) rfl)), rfl, hnm⟩) (hw _ (List.mem_of_getElem? (i := 2) rfl)) (ty := (.array .int)) (by decide) rfl rfl (g := (mkF m 33 #[.val (.ref a1)] [(.ref a77), (.ref a1)])) rfl rfl (hb hby d1_33)
  have N91 := Fr.snoc X91 N63 gA
  have Z91 : n0 ≤ h91.size := Nat.le_trans Z77 (Keep.of_wr W91).1
  have F92 : Fld Z h91 a1 "com/example/bristlecone/bristlecone/HashBatch" "input" "[B" (.ref a2) := (F78.other W91 (Or.inr (slot_ne (Or.inl (hw _ (List.mem_of_getElem? (i := 12) rfl))) (Or.inr (hw _ (List.mem_of_getElem? (i := 19) rfl))) (by decide) (t := (.array .byte)) (t' := (.array .int)) (by decide) (by decide))))
  have F93 : Fld Z h91 a1 "com/example/bristlecone/bristlecone/HashBatch" "ends" "[I" (.ref a25) := (F79.other W91 (Or.inr (slot_ne (Or.inr (hw _ (List.mem_of_getElem? (i := 15) rfl))) (Or.inr (hw _ (List.mem_of_getElem? (i := 19) rfl))) (by decide) (t := (.array .int)) (t' := (.array .int)) (by decide) (by decide))))
  have F94 : Fld Z h91 a1 "com/example/bristlecone/bristlecone/HashBatch" "nodes" "[B" (.ref a50) := (F80.other W91 (Or.inr (slot_ne (Or.inl (hw _ (List.mem_of_getElem? (i := 17) rfl))) (Or.inr (hw _ (List.mem_of_getElem? (i := 19) rfl))) (by decide) (t := (.array .byte)) (t' := (.array .int)) (by decide) (by decide))))
  have F95 : Fld Z h91 a1 "com/example/bristlecone/bristlecone/HashBatch" "heightOffsets" "[I" (.ref a77) := (F81.same W91)
  have F96 : Fld Z h91 a1 "com/example/bristlecone/bristlecone/HashBatch" "count" "I" (.int (0 : Int32)) := (F82.other W91 (Or.inr (slot_ne (Or.inl (hw _ (List.mem_of_getElem? (i := 26) rfl))) (Or.inr (hw _ (List.mem_of_getElem? (i := 19) rfl))) (by decide) (t := .int) (t' := (.array .int)) (by decide) (by decide))))
  have F97 : Fld Z h91 a1 "com/example/bristlecone/bristlecone/HashBatch" "length" "I" (.int (0 : Int32)) := (F83.other W91 (Or.inr (slot_ne (Or.inl (hw _ (List.mem_of_getElem? (i := 38) rfl))) (Or.inr (hw _ (List.mem_of_getElem? (i := 19) rfl))) (by decide) (t := .int) (t' := (.array .int)) (by decide) (by decide))))
  have F98 : Fld Z h91 a1 "com/example/bristlecone/bristlecone/HashBatch" "start" "J" (.long (0 : Int64)) := (F84.other W91 (Or.inr (slot_ne (Or.inl (hw _ (List.mem_of_getElem? (i := 51) rfl))) (Or.inr (hw _ (List.mem_of_getElem? (i := 19) rfl))) (by decide) (t := .long) (t' := (.array .int)) (by decide) (by decide))))
  have F99 : Fld Z h91 a1 "com/example/bristlecone/bristlecone/HashBatch" "heights" "I" (.int (0 : Int32)) := (F85.other W91 (Or.inr (slot_ne (Or.inl (hw _ (List.mem_of_getElem? (i := 53) rfl))) (Or.inr (hw _ (List.mem_of_getElem? (i := 19) rfl))) (by decide) (t := .int) (t' := (.array .int)) (by decide) (by decide))))
  have E100 : Exa Z h91 a1 "com/example/bristlecone/bristlecone/HashBatch" := (E86.wr W91)
  have V101 : Arv Z h91 b kb .byte zb vsB (.int (0 : Int32)) := (V87.other W91 nBA)
  have V102 : Arv Z h91 a2 cA2 .byte (65536 : Int32) [] (.int (0 : Int32)) := (V88.other W91 ne_a1_2.symm)
  have V103 : Arv Z h91 a25 cA25 .int (16384 : Int32) [] (.int (0 : Int32)) := (V89.other W91 ne_a1_25.symm)
  have V104 : Arv Z h91 a50 cA50 .byte (0 : Int32) [] (.int (0 : Int32)) := (V90.other W91 ne_a1_50.symm)
  have V105 : Arv Z h91 a77 cA77 .int (64 : Int32) [] (.int (0 : Int32)) := (V77.other W91 ne_a1_77.symm)
  refine Gl.st (g' := (mkF m 36 #[.val (.ref a1)] [])) st91 ?_
  refine Gl.retV X91 hx hlk Bd.returns (hb hby d1_36) e91 (by decide) (by decide) ?_
  exact ⟨rfl, N91, ⟨Z91, E100, gA, ⟨_, V101⟩, nBA, a2, a25, _, _, F92, F93, F96, F97, ⟨_, V102⟩, ⟨_, V103⟩, ge2, ge25, ne_a1_2, ne_a1_25, ne_a2_25, ne_b_2, ne_b_25, ⟨_, F98⟩, ⟨_, F99⟩⟩⟩
theorem d2_0 : decode prog_11_method_6_code 0 = .ok (.aload_n 0, 1) := by decide +kernel
theorem d2_1 : decode prog_11_method_6_code 1 = .ok (.getfield 41, 3) := by decide +kernel
theorem d2_4 : decode prog_11_method_6_code 4 = .ok (.ifCond .eq 24, 3) := by decide +kernel
theorem d2_7 : decode prog_11_method_6_code 7 = .ok (.aload_n 0, 1) := by decide +kernel
theorem d2_8 : decode prog_11_method_6_code 8 = .ok (.getfield 41, 3) := by decide +kernel
theorem d2_11 : decode prog_11_method_6_code 11 = .ok (.sipush 16384, 3) := by decide +kernel
theorem d2_14 : decode prog_11_method_6_code 14 = .ok (.if_icmp .ge 18, 3) := by decide +kernel
theorem d2_17 : decode prog_11_method_6_code 17 = .ok (.aload_n 0, 1) := by decide +kernel
theorem d2_18 : decode prog_11_method_6_code 18 = .ok (.getfield 45, 3) := by decide +kernel
theorem d2_21 : decode prog_11_method_6_code 21 = .ok (.iload_n 1, 1) := by decide +kernel
theorem d2_22 : decode prog_11_method_6_code 22 = .ok (.iadd, 1) := by decide +kernel
theorem d2_23 : decode prog_11_method_6_code 23 = .ok (.ldc 51, 2) := by decide +kernel
theorem d2_25 : decode prog_11_method_6_code 25 = .ok (.if_icmp .gt 7, 3) := by decide +kernel
theorem d2_28 : decode prog_11_method_6_code 28 = .ok (.iconst 1, 1) := by decide +kernel
theorem d2_29 : decode prog_11_method_6_code 29 = .ok (.goto 4, 3) := by decide +kernel
theorem d2_32 : decode prog_11_method_6_code 32 = .ok (.iconst 0, 1) := by decide +kernel
theorem d2_33 : decode prog_11_method_6_code 33 = .ok (.ireturn, 1) := by decide +kernel
theorem ef_2 (m : MethodId) (a1 : Addr) (p1 : Int32) : entryFrame m #[(.ref a1), (.int p1)] 2 = mkF m 0 #[.val (.ref a1), .val (.int p1)] [] := by first | (simp [entryFrame, mkF, argsToLocals, Value.category]; done) | rfl
def Q2 (Z : State) (a1 : Addr) (p1 : Int32) (b : Addr) (kb : ClassId) (zb cnt len : Int32) (h0 : Heap) (n0 : Nat) (v : Option Value) (h : Heap) (L : List Loc) : Prop := v = some (.int (own_fits cnt len p1)) ∧ Fr n0 L ∧ h = h0
set_option maxRecDepth 65536 in
set_option maxHeartbeats 40000000 in
theorem rm2 (l : Launch) (Z : State) (a0 : Array Value) (hw : ∀ d ∈ tables_1, d.before a0 Z = true) (a1 : Addr) (p1 : Int32) (b : Addr) (kb : ClassId) (zb cnt len : Int32) (h0 : Heap) (n0 : Nat) (Z0 : n0 ≤ h0.size) (H : HB Z n0 a1 b kb zb h0 cnt len) :
    MetFree l (⟨"com/example/bristlecone/bristlecone/HashBatch", "fits", "(I)Z"⟩ : MethodName) (head1 [Jvm.Cond.code (⟨"com/example/bristlecone/bristlecone/HashBatch", "fits", "(I)Z"⟩ : MethodName) prog_11_method_6_code 2 (some .boolean)] ({ frames := 0, cells := 0, slots := 0, locals := 0 } : Room)) (fun a U => a = #[(.ref a1), (.int p1)] ∧ Z.Warmed39 U.vm ∧ U.heap = h0) (fun _ _ _ _ _ => True) (fun _ U o U' => ∃ v L, o = .returned v ∧ Q2 Z a1 p1 b kb zb cnt len h0 n0 v U'.heap L ∧ FrameEnd U o U' L ({ frames := 0, cells := 0, slots := 0, locals := 0 } : Room).cells ({ frames := 0, cells := 0, slots := 0, locals := 0 } : Room).slots) := by
  refine MetFree.of_bodySF (plainFor_of_name pn_0) hisR ?_
  intro p e s m args below meth c s₁ Bd hml0 hP hK
  obtain ⟨rfl, hZ, hh⟩ := hP
  have hx := Bd.exec
  have hby := Bd.bytes
  have hlk : meth.locks = false := Bd.notSynchronized
  have hml : c.maxLocals = 2 := hml0
  have hown : s.vm.findClass "com/example/bristlecone/bristlecone/HashBatch" = some m.cls := findClass_of_methodNamed Bd.named
  have hnm := (name_of_methodNamed Bd.named Bd.method).1
  have X0 : Stand p l e ({ frames := 0, cells := 0, slots := 0, locals := 0 } : Room) s m #[(.ref a1), (.int p1)] below meth c s₁ [] 0 0 := Stand.of_body Bd
  have e0 : s₁.heap = h0 := by rw [← hh, Bd.state]; rfl
  have N0 := Fr.nil n0
  show Gl p e below s (Q2 Z a1 p1 b kb zb cnt len h0 n0) 0 0 s₁ (entryFrame m #[(.ref a1), (.int p1)] 2)
  rw [ef_2 m a1 p1]
  obtain ⟨hZ1, EX, gA, ⟨vsB, VB⟩, nBA, aI, aE, kI, kE, Finput, Fends, Fcount, Flength, ⟨vsI, VI⟩, ⟨vsE, VE⟩, gI, gE, nAI, nAE, nIE, nBI, nBE, ⟨fS, Fstart⟩, ⟨fH, Fheights⟩⟩ := H
  have Z0 := hZ1
  refine Gl.st (g' := (mkF m 1 #[.val (.ref a1), .val (.int p1)] [(.ref a1)])) (fun t k => XS.aloadN X0.here hx rfl (hb hby d2_0) rfl rfl k) ?_
  obtain ⟨T106, X106, e106, st106⟩ := getF X0 hx hZ hown (host := "") (Or.inl (hw _ (List.mem_of_getElem? (i := 25) rfl))) Via.refl e0 Fcount (g := (mkF m 1 #[.val (.ref a1), .val (.int p1)] [(.ref a1)])) rfl rfl (hb hby d2_1)
  refine Gl.st (g' := (mkF m 4 #[.val (.ref a1), .val (.int p1)] [(.int cnt)])) st106 ?_
  by_cases c107 : cnt = (0 : Int32)
  · skip
    refine Gl.st (g' := (mkF m 28 #[.val (.ref a1), .val (.int p1)] [])) (fun t k => XS.ifYes X106.here hx rfl (pc0 := 4) (pc' := 28) rfl (hb hby d2_4) rfl (XT.i0_eq_t c107) (by decide) (by decide) k) ?_
    refine Gl.st (g' := (mkF m 29 #[.val (.ref a1), .val (.int p1)] [(.int (1 : Int32))])) (fun t k => XT.iconstV X106.here hx rfl (1 : Int32) (hb hby d2_28) rfl k) ?_
    refine Gl.st (g' := (mkF m 33 #[.val (.ref a1), .val (.int p1)] [(.int (1 : Int32))])) (fun t k => XS.goto X106.here hx rfl (pc0 := 29) (pc' := 33) rfl (hb hby d2_29) (by decide) (by decide) k) ?_
    refine Gl.retZ X106 hx hlk .boolean (by simp) Bd.returns (hb hby d2_33) e106 (by decide) (by decide) ?_
    refine ⟨?_, N0, rfl⟩
    rw [own_z1]
    unfold own_fits
    rw [if_pos c107]
  · skip
    refine Gl.st (g' := (mkF m 7 #[.val (.ref a1), .val (.int p1)] [])) (fun t k => XS.ifNo X106.here hx rfl (hb hby d2_4) rfl (XT.i0_eq_f c107) k) ?_
    refine Gl.st (g' := (mkF m 8 #[.val (.ref a1), .val (.int p1)] [(.ref a1)])) (fun t k => XS.aloadN X106.here hx rfl (hb hby d2_7) rfl rfl k) ?_
    obtain ⟨T108, X108, e108, st108⟩ := getF X106 hx hZ hown (host := "") (Or.inl (hw _ (List.mem_of_getElem? (i := 25) rfl))) Via.refl e106 Fcount (g := (mkF m 8 #[.val (.ref a1), .val (.int p1)] [(.ref a1)])) rfl rfl (hb hby d2_8)
    refine Gl.st (g' := (mkF m 11 #[.val (.ref a1), .val (.int p1)] [(.int cnt)])) st108 ?_
    refine Gl.st (g' := (mkF m 14 #[.val (.ref a1), .val (.int p1)] [(.int (16384 : Int32)), (.int cnt)])) (fun t k => XT.sipushV X108.here hx rfl (16384 : Int32) (hb hby d2_11) rfl k) ?_
    by_cases c109 : cnt < (16384 : Int32)
    · skip
      refine Gl.st (g' := (mkF m 17 #[.val (.ref a1), .val (.int p1)] [])) (fun t k => XS.icmpNo X108.here hx rfl (hb hby d2_14) rfl (XT.ii_ge_f c109) k) ?_
      refine Gl.st (g' := (mkF m 18 #[.val (.ref a1), .val (.int p1)] [(.ref a1)])) (fun t k => XS.aloadN X108.here hx rfl (hb hby d2_17) rfl rfl k) ?_
      obtain ⟨T110, X110, e110, st110⟩ := getF X108 hx hZ hown (host := "") (Or.inl (hw _ (List.mem_of_getElem? (i := 37) rfl))) Via.refl e108 Flength (g := (mkF m 18 #[.val (.ref a1), .val (.int p1)] [(.ref a1)])) rfl rfl (hb hby d2_18)
      refine Gl.st (g' := (mkF m 21 #[.val (.ref a1), .val (.int p1)] [(.int len)])) st110 ?_
      refine Gl.st (g' := (mkF m 22 #[.val (.ref a1), .val (.int p1)] [(.int p1), (.int len)])) (fun t k => XS.iloadN X110.here hx rfl (hb hby d2_21) rfl k) ?_
      refine Gl.st (g' := (mkF m 23 #[.val (.ref a1), .val (.int p1)] [(.int (len + p1))])) (fun t k => XS.iadd X110.here hx rfl (hb hby d2_22) rfl k) ?_
      refine Gl.st (g' := (mkF m 25 #[.val (.ref a1), .val (.int p1)] [(.int (1048576 : Int32)), (.int (len + p1))])) (fun t k => X110.ldcI hx hown (mvT hZ (hw _ (List.mem_of_getElem? (i := 43) rfl))) rfl (hb hby d2_23) k) ?_
      by_cases c111 : (1048576 : Int32) < (len + p1)
      · skip
        refine Gl.st (g' := (mkF m 32 #[.val (.ref a1), .val (.int p1)] [])) (fun t k => XS.icmpYes X110.here hx rfl (pc0 := 25) (pc' := 32) rfl (hb hby d2_25) rfl (XT.ii_gt_t c111) (by decide) (by decide) k) ?_
        refine Gl.st (g' := (mkF m 33 #[.val (.ref a1), .val (.int p1)] [(.int (0 : Int32))])) (fun t k => XT.iconstV X110.here hx rfl (0 : Int32) (hb hby d2_32) rfl k) ?_
        refine Gl.retZ X110 hx hlk .boolean (by simp) Bd.returns (hb hby d2_33) e110 (by decide) (by decide) ?_
        refine ⟨?_, N0, rfl⟩
        rw [own_z0]
        unfold own_fits
        rw [if_neg c107, if_pos c109, if_pos c111]
      · skip
        refine Gl.st (g' := (mkF m 28 #[.val (.ref a1), .val (.int p1)] [])) (fun t k => XS.icmpNo X110.here hx rfl (hb hby d2_25) rfl (XT.ii_gt_f c111) k) ?_
        refine Gl.st (g' := (mkF m 29 #[.val (.ref a1), .val (.int p1)] [(.int (1 : Int32))])) (fun t k => XT.iconstV X110.here hx rfl (1 : Int32) (hb hby d2_28) rfl k) ?_
        refine Gl.st (g' := (mkF m 33 #[.val (.ref a1), .val (.int p1)] [(.int (1 : Int32))])) (fun t k => XS.goto X110.here hx rfl (pc0 := 29) (pc' := 33) rfl (hb hby d2_29) (by decide) (by decide) k) ?_
        refine Gl.retZ X110 hx hlk .boolean (by simp) Bd.returns (hb hby d2_33) e110 (by decide) (by decide) ?_
        refine ⟨?_, N0, rfl⟩
        rw [own_z1]
        unfold own_fits
        rw [if_neg c107, if_pos c109, if_neg c111]
    · skip
      refine Gl.st (g' := (mkF m 32 #[.val (.ref a1), .val (.int p1)] [])) (fun t k => XS.icmpYes X108.here hx rfl (pc0 := 14) (pc' := 32) rfl (hb hby d2_14) rfl (XT.ii_ge_t c109) (by decide) (by decide) k) ?_
      refine Gl.st (g' := (mkF m 33 #[.val (.ref a1), .val (.int p1)] [(.int (0 : Int32))])) (fun t k => XT.iconstV X108.here hx rfl (0 : Int32) (hb hby d2_32) rfl k) ?_
      refine Gl.retZ X108 hx hlk .boolean (by simp) Bd.returns (hb hby d2_33) e108 (by decide) (by decide) ?_
      refine ⟨?_, N0, rfl⟩
      rw [own_z0]
      unfold own_fits
      rw [if_neg c107, if_neg c109]
theorem pd_0 : parseMethodDescriptor "(I)Z" = some ⟨[.int], some .boolean⟩ := by decide +kernel
theorem d3_0 : decode prog_11_method_7_code 0 = .ok (.aload_n 0, 1) := by decide +kernel
theorem d3_1 : decode prog_11_method_7_code 1 = .ok (.iload_n 3, 1) := by decide +kernel
theorem d3_2 : decode prog_11_method_7_code 2 = .ok (.invokevirtual 52, 3) := by decide +kernel
theorem d3_5 : decode prog_11_method_7_code 5 = .ok (.ifCond .ne 17, 3) := by decide +kernel
theorem d3_8 : decode prog_11_method_7_code 8 = .ok (.new 56, 3) := by decide +kernel
theorem d3_11 : decode prog_11_method_7_code 11 = .ok (.dup, 1) := by decide +kernel
theorem d3_12 : decode prog_11_method_7_code 12 = .ok (.iload_n 3, 1) := by decide +kernel
theorem d3_13 : decode prog_11_method_7_code 13 = .ok (.invokedynamic 58, 5) := by decide +kernel
theorem d3_18 : decode prog_11_method_7_code 18 = .ok (.invokespecial 61, 3) := by decide +kernel
theorem d3_21 : decode prog_11_method_7_code 21 = .ok (.athrow, 1) := by decide +kernel
theorem d3_22 : decode prog_11_method_7_code 22 = .ok (.aload_n 0, 1) := by decide +kernel
theorem d3_23 : decode prog_11_method_7_code 23 = .ok (.getfield 45, 3) := by decide +kernel
theorem d3_26 : decode prog_11_method_7_code 26 = .ok (.iload_n 3, 1) := by decide +kernel
theorem d3_27 : decode prog_11_method_7_code 27 = .ok (.iadd, 1) := by decide +kernel
theorem d3_28 : decode prog_11_method_7_code 28 = .ok (.istore 4, 2) := by decide +kernel
theorem d3_30 : decode prog_11_method_7_code 30 = .ok (.iload 4, 2) := by decide +kernel
theorem d3_32 : decode prog_11_method_7_code 32 = .ok (.aload_n 0, 1) := by decide +kernel
theorem d3_33 : decode prog_11_method_7_code 33 = .ok (.getfield 10, 3) := by decide +kernel
theorem d3_36 : decode prog_11_method_7_code 36 = .ok (.arraylength, 1) := by decide +kernel
theorem d3_37 : decode prog_11_method_7_code 37 = .ok (.if_icmp .le 31, 3) := by decide +kernel
theorem d3_40 : decode prog_11_method_7_code 40 = .ok (.aload_n 0, 1) := by decide +kernel
theorem d3_41 : decode prog_11_method_7_code 41 = .ok (.aload_n 0, 1) := by decide +kernel
theorem d3_42 : decode prog_11_method_7_code 42 = .ok (.getfield 10, 3) := by decide +kernel
theorem d3_45 : decode prog_11_method_7_code 45 = .ok (.iload 4, 2) := by decide +kernel
theorem d3_47 : decode prog_11_method_7_code 47 = .ok (.iconst 2, 1) := by decide +kernel
theorem d3_48 : decode prog_11_method_7_code 48 = .ok (.aload_n 0, 1) := by decide +kernel
theorem d3_49 : decode prog_11_method_7_code 49 = .ok (.getfield 10, 3) := by decide +kernel
theorem d3_52 : decode prog_11_method_7_code 52 = .ok (.arraylength, 1) := by decide +kernel
theorem d3_53 : decode prog_11_method_7_code 53 = .ok (.imul, 1) := by decide +kernel
theorem d3_54 : decode prog_11_method_7_code 54 = .ok (.ldc 51, 2) := by decide +kernel
theorem d3_56 : decode prog_11_method_7_code 56 = .ok (.invokestatic 62, 3) := by decide +kernel
theorem d3_59 : decode prog_11_method_7_code 59 = .ok (.invokestatic 68, 3) := by decide +kernel
theorem d3_62 : decode prog_11_method_7_code 62 = .ok (.invokestatic 71, 3) := by decide +kernel
theorem d3_65 : decode prog_11_method_7_code 65 = .ok (.putfield 10, 3) := by decide +kernel
theorem d3_68 : decode prog_11_method_7_code 68 = .ok (.aload_n 1, 1) := by decide +kernel
theorem d3_69 : decode prog_11_method_7_code 69 = .ok (.iload_n 2, 1) := by decide +kernel
theorem d3_70 : decode prog_11_method_7_code 70 = .ok (.aload_n 0, 1) := by decide +kernel
theorem d3_71 : decode prog_11_method_7_code 71 = .ok (.getfield 10, 3) := by decide +kernel
theorem d3_74 : decode prog_11_method_7_code 74 = .ok (.aload_n 0, 1) := by decide +kernel
theorem d3_75 : decode prog_11_method_7_code 75 = .ok (.getfield 45, 3) := by decide +kernel
theorem d3_78 : decode prog_11_method_7_code 78 = .ok (.iload_n 3, 1) := by decide +kernel
theorem d3_79 : decode prog_11_method_7_code 79 = .ok (.invokestatic 77, 3) := by decide +kernel
theorem d3_82 : decode prog_11_method_7_code 82 = .ok (.aload_n 0, 1) := by decide +kernel
theorem d3_83 : decode prog_11_method_7_code 83 = .ok (.iload 4, 2) := by decide +kernel
theorem d3_85 : decode prog_11_method_7_code 85 = .ok (.putfield 45, 3) := by decide +kernel
theorem d3_88 : decode prog_11_method_7_code 88 = .ok (.aload_n 0, 1) := by decide +kernel
theorem d3_89 : decode prog_11_method_7_code 89 = .ok (.getfield 16, 3) := by decide +kernel
theorem d3_92 : decode prog_11_method_7_code 92 = .ok (.aload_n 0, 1) := by decide +kernel
theorem d3_93 : decode prog_11_method_7_code 93 = .ok (.dup, 1) := by decide +kernel
theorem d3_94 : decode prog_11_method_7_code 94 = .ok (.getfield 41, 3) := by decide +kernel
theorem d3_97 : decode prog_11_method_7_code 97 = .ok (.dup_x1, 1) := by decide +kernel
theorem d3_98 : decode prog_11_method_7_code 98 = .ok (.iconst 1, 1) := by decide +kernel
theorem d3_99 : decode prog_11_method_7_code 99 = .ok (.iadd, 1) := by decide +kernel
theorem d3_100 : decode prog_11_method_7_code 100 = .ok (.putfield 41, 3) := by decide +kernel
theorem d3_103 : decode prog_11_method_7_code 103 = .ok (.iload 4, 2) := by decide +kernel
theorem d3_105 : decode prog_11_method_7_code 105 = .ok (.iastore, 1) := by decide +kernel
theorem d3_106 : decode prog_11_method_7_code 106 = .ok (.return_, 1) := by decide +kernel
theorem ef_3 (m : MethodId) (a1 : Addr) (b : Addr) (p3 : Int32) (p4 : Int32) : entryFrame m #[(.ref a1), (.ref b), (.int p3), (.int p4)] 5 = mkF m 0 #[.val (.ref a1), .val (.ref b), .val (.int p3), .val (.int p4), .unset] [] := by first | (simp [entryFrame, mkF, argsToLocals, Value.category]; done) | rfl
def Q3 (Z : State) (a1 : Addr) (b : Addr) (p3 : Int32) (p4 : Int32) (kb : ClassId) (zb cnt len : Int32) (h0 : Heap) (n0 : Nat) (v : Option Value) (h : Heap) (L : List Loc) : Prop := v = none ∧ Fr n0 L ∧ HB Z n0 a1 b kb zb h (cnt + (1 : Int32)) (len + p4)
set_option maxRecDepth 65536 in
set_option maxHeartbeats 40000000 in
theorem rm3 (l : Launch) (Z : State) (a0 : Array Value) (hw : ∀ d ∈ tables_1, d.before a0 Z = true) (a1 : Addr) (b : Addr) (p3 : Int32) (p4 : Int32) (kb : ClassId) (zb cnt len : Int32) (h0 : Heap) (n0 : Nat) (Z0 : n0 ≤ h0.size) (H : HB Z n0 a1 b kb zb h0 cnt len) (hp3 : p3 = 0) (hp : Sm 1000 p4) (hc0 : Sm 1000 cnt) (hl0 : Sm 1000 len) (hzb : p4.toNatClampNeg ≤ zb.toNatClampNeg) :
    MetFree l (⟨"com/example/bristlecone/bristlecone/HashBatch", "add", "([BII)V"⟩ : MethodName) (head1 [Jvm.Cond.code (⟨"com/example/bristlecone/bristlecone/HashBatch", "add", "([BII)V"⟩ : MethodName) prog_11_method_7_code 5 none] ({ frames := 1, cells := 0, slots := 0, locals := 24 } : Room)) (fun a U => a = #[(.ref a1), (.ref b), (.int p3), (.int p4)] ∧ Z.Warmed39 U.vm ∧ U.heap = h0) (fun _ _ _ _ _ => True) (fun _ U o U' => ∃ v L, o = .returned v ∧ Q3 Z a1 b p3 p4 kb zb cnt len h0 n0 v U'.heap L ∧ FrameEnd U o U' L ({ frames := 1, cells := 0, slots := 0, locals := 24 } : Room).cells ({ frames := 1, cells := 0, slots := 0, locals := 24 } : Room).slots) := by
  refine MetFree.of_bodySF (plainFor_of_name pn_0) hisR ?_
  intro p e s m args below meth c s₁ Bd hml0 hP hK
  obtain ⟨rfl, hZ, hh⟩ := hP
  have hx := Bd.exec
  have hby := Bd.bytes
  have hlk : meth.locks = false := Bd.notSynchronized
  have hml : c.maxLocals = 5 := hml0
  have hown : s.vm.findClass "com/example/bristlecone/bristlecone/HashBatch" = some m.cls := findClass_of_methodNamed Bd.named
  have hnm := (name_of_methodNamed Bd.named Bd.method).1
  have X0 : Stand p l e ({ frames := 1, cells := 0, slots := 0, locals := 24 } : Room) s m #[(.ref a1), (.ref b), (.int p3), (.int p4)] below meth c s₁ [] 0 0 := Stand.of_body Bd
  have e0 : s₁.heap = h0 := by rw [← hh, Bd.state]; rfl
  have N0 := Fr.nil n0
  show Gl p e below s (Q3 Z a1 b p3 p4 kb zb cnt len h0 n0) 0 0 s₁ (entryFrame m #[(.ref a1), (.ref b), (.int p3), (.int p4)] 5)
  rw [ef_3 m a1 b p3 p4]
  have H0 := H
  obtain ⟨hZ1, EX, gA, ⟨vsB, VB⟩, nBA, aI, aE, kI, kE, Finput, Fends, Fcount, Flength, ⟨vsI, VI⟩, ⟨vsE, VE⟩, gI, gE, nAI, nAE, nIE, nBI, nBE, ⟨fS, Fstart⟩, ⟨fH, Fheights⟩⟩ := H
  have Z0 := hZ1
  have hs1 : p3.toNatClampNeg + p4.toNatClampNeg ≤ zb.toNatClampNeg := by rw [hp3]; have := hp.clamp; have := hp.2; have := hzb; show 0 + _ ≤ _; omega
  have hs2 : len.toNatClampNeg + p4.toNatClampNeg ≤ (65536 : Int32).toNatClampNeg := by have := hl0.clamp; have := hl0.2; have := hp.clamp; have := hp.2; show _ ≤ 65536; omega
  have hsp : ¬ p3 < 0 := by rw [hp3]; decide
  have hs3 : ∀ vs : List Value, len.toNatClampNeg + p4.toNatClampNeg ≤ (vs ++ List.replicate 4000 (Value.int (0 : Int32))).length := fun vs => by have := hl0.clamp; have := hl0.2; have := hp.clamp; have := hp.2; rw [List.length_append, List.length_replicate]; omega
  refine Gl.st (g' := (mkF m 1 #[.val (.ref a1), .val (.ref b), .val (.int p3), .val (.int p4), .unset] [(.ref a1)])) (fun t k => XS.aloadN X0.here hx rfl (hb hby d3_0) rfl rfl k) ?_
  refine Gl.st (g' := (mkF m 2 #[.val (.ref a1), .val (.ref b), .val (.int p3), .val (.int p4), .unset] [(.int p4), (.ref a1)])) (fun t k => XS.iloadN X0.here hx rfl (hb hby d3_1) rfl k) ?_
  obtain ⟨cq112, kq112, qa112, qb112, qc112⟩ := isOf hZ e0 EX
  obtain ⟨_, _, ⟨T112, L112, k112, n112⟩, -, X112, ⟨Lc112, hQ112, l112, y112, z112⟩, st112⟩ := X0.virtualBack hx (y := (⟨"com/example/bristlecone/bristlecone/HashBatch", "fits", "(I)Z"⟩ : MethodName)) (z := (⟨"com/example/bristlecone/bristlecone/HashBatch", "fits", "(I)Z"⟩ : MethodName)) hown (mvT hZ (hw _ (List.mem_of_getElem? (i := 32) rfl))) (mvT hZ (hw _ (List.mem_of_getElem? (i := 33) rfl))) (notFace_of_selects (args := #[]) (mvT hZ (hw _ (List.mem_of_getElem? (i := 35) rfl)))) (mvT hZ (hw _ (List.mem_of_getElem? (i := 35) rfl))) (mvT hZ (hw _ (List.mem_of_getElem? (i := 34) rfl))) (by decide) (backOf (W := 0) (rm2 l Z a0 hw a1 p4 b kb zb cnt len h0 n0 Z0 H0) hZ (hw _ (List.mem_of_getElem? (i := 36) rfl)) (hw _ (List.mem_of_getElem? (i := 3) rfl)) (by decide) (by decide)) qa112 qc112 (g := (mkF m 2 #[.val (.ref a1), .val (.ref b), .val (.int p3), .val (.int p4), .unset] [(.int p4), (.ref a1)])) rfl (by rw [hml]; rfl) (Steps.refl _) (argsL := [(.int p4)]) (rest := []) (lenOf pd_0 rfl) rfl (by show 2 * 0 + _ ≤ _; exact Nat.le_of_eq rfl) (hb hby d3_2) (fun _ _ => ⟨rfl, e0, (by decide : 0 + 0 ≤ _), (by decide : 0 + 0 ≤ _)⟩)
  dsimp only [Pt.U, Pt.locs, Pt.cells, Pt.slots] at X112 l112 y112 z112 st112 hQ112
  subst l112 y112 z112
  obtain ⟨rfl, Nq112, e112⟩ := hQ112
  have N112 := Fr.app N0 Nq112
  refine Gl.st (g' := (mkF m 5 #[.val (.ref a1), .val (.ref b), .val (.int p3), .val (.int p4), .unset] [(.int (own_fits cnt len p4))])) (fun t k => st112.trans k) ?_
  refine Gl.st (g' := (mkF m 22 #[.val (.ref a1), .val (.ref b), .val (.int p3), .val (.int p4), .unset] [])) (fun t k => XS.ifYes X112.here hx rfl (pc0 := 5) (pc' := 22) rfl (hb hby d3_5) rfl (XT.i0_ne_t (own_fits1 hc0 hl0 hp)) (by decide) (by decide) k) ?_
  refine Gl.st (g' := (mkF m 23 #[.val (.ref a1), .val (.ref b), .val (.int p3), .val (.int p4), .unset] [(.ref a1)])) (fun t k => XS.aloadN X112.here hx rfl (hb hby d3_22) rfl rfl k) ?_
  obtain ⟨T113, X113, e113, st113⟩ := getF X112 hx hZ hown (host := "") (Or.inl (hw _ (List.mem_of_getElem? (i := 37) rfl))) Via.refl e112 Flength (g := (mkF m 23 #[.val (.ref a1), .val (.ref b), .val (.int p3), .val (.int p4), .unset] [(.ref a1)])) rfl rfl (hb hby d3_23)
  refine Gl.st (g' := (mkF m 26 #[.val (.ref a1), .val (.ref b), .val (.int p3), .val (.int p4), .unset] [(.int len)])) st113 ?_
  refine Gl.st (g' := (mkF m 27 #[.val (.ref a1), .val (.ref b), .val (.int p3), .val (.int p4), .unset] [(.int p4), (.int len)])) (fun t k => XS.iloadN X113.here hx rfl (hb hby d3_26) rfl k) ?_
  refine Gl.st (g' := (mkF m 28 #[.val (.ref a1), .val (.ref b), .val (.int p3), .val (.int p4), .unset] [(.int (len + p4))])) (fun t k => XS.iadd X113.here hx rfl (hb hby d3_27) rfl k) ?_
  refine Gl.st (g' := (mkF m 30 #[.val (.ref a1), .val (.ref b), .val (.int p3), .val (.int p4), .val (.int (len + p4))] [])) (fun t k => XS.istore X113.here hx rfl (hb hby d3_28) rfl (l' := #[.val (.ref a1), .val (.ref b), .val (.int p3), .val (.int p4), .val (.int (len + p4))]) rfl k) ?_
  refine Gl.st (g' := (mkF m 32 #[.val (.ref a1), .val (.ref b), .val (.int p3), .val (.int p4), .val (.int (len + p4))] [(.int (len + p4))])) (fun t k => XS.iload X113.here hx rfl (hb hby d3_30) rfl k) ?_
  refine Gl.st (g' := (mkF m 33 #[.val (.ref a1), .val (.ref b), .val (.int p3), .val (.int p4), .val (.int (len + p4))] [(.ref a1), (.int (len + p4))])) (fun t k => XS.aloadN X113.here hx rfl (hb hby d3_32) rfl rfl k) ?_
  obtain ⟨T114, X114, e114, st114⟩ := getF X113 hx hZ hown (host := "") (Or.inl (hw _ (List.mem_of_getElem? (i := 11) rfl))) Via.refl e113 Finput (g := (mkF m 33 #[.val (.ref a1), .val (.ref b), .val (.int p3), .val (.int p4), .val (.int (len + p4))] [(.ref a1), (.int (len + p4))])) rfl rfl (hb hby d3_33)
  refine Gl.st (g' := (mkF m 36 #[.val (.ref a1), .val (.ref b), .val (.int p3), .val (.int p4), .val (.int (len + p4))] [(.ref aI), (.int (len + p4))])) st114 ?_
  refine Gl.st (g' := (mkF m 37 #[.val (.ref a1), .val (.ref b), .val (.int p3), .val (.int p4), .val (.int (len + p4))] [(.int (65536 : Int32)), (.int (len + p4))])) (own_len X114 hx hZ e114 VI (g := (mkF m 36 #[.val (.ref a1), .val (.ref b), .val (.int p3), .val (.int p4), .val (.int (len + p4))] [(.ref aI), (.int (len + p4))])) rfl rfl (hb hby d3_36)) ?_
  refine Gl.st (g' := (mkF m 68 #[.val (.ref a1), .val (.ref b), .val (.int p3), .val (.int p4), .val (.int (len + p4))] [])) (fun t k => XS.icmpYes X114.here hx rfl (pc0 := 37) (pc' := 68) rfl (hb hby d3_37) rfl (XT.ii_le_t (own_nb hl0 hp)) (by decide) (by decide) k) ?_
  refine Gl.st (g' := (mkF m 69 #[.val (.ref a1), .val (.ref b), .val (.int p3), .val (.int p4), .val (.int (len + p4))] [(.ref b)])) (fun t k => XS.aloadN X114.here hx rfl (hb hby d3_68) rfl rfl k) ?_
  refine Gl.st (g' := (mkF m 70 #[.val (.ref a1), .val (.ref b), .val (.int p3), .val (.int p4), .val (.int (len + p4))] [(.int p3), (.ref b)])) (fun t k => XS.iloadN X114.here hx rfl (hb hby d3_69) rfl k) ?_
  refine Gl.st (g' := (mkF m 71 #[.val (.ref a1), .val (.ref b), .val (.int p3), .val (.int p4), .val (.int (len + p4))] [(.ref a1), (.int p3), (.ref b)])) (fun t k => XS.aloadN X114.here hx rfl (hb hby d3_70) rfl rfl k) ?_
  obtain ⟨T115, X115, e115, st115⟩ := getF X114 hx hZ hown (host := "") (Or.inl (hw _ (List.mem_of_getElem? (i := 11) rfl))) Via.refl e114 Finput (g := (mkF m 71 #[.val (.ref a1), .val (.ref b), .val (.int p3), .val (.int p4), .val (.int (len + p4))] [(.ref a1), (.int p3), (.ref b)])) rfl rfl (hb hby d3_71)
  refine Gl.st (g' := (mkF m 74 #[.val (.ref a1), .val (.ref b), .val (.int p3), .val (.int p4), .val (.int (len + p4))] [(.ref aI), (.int p3), (.ref b)])) st115 ?_
  refine Gl.st (g' := (mkF m 75 #[.val (.ref a1), .val (.ref b), .val (.int p3), .val (.int p4), .val (.int (len + p4))] [(.ref a1), (.ref aI), (.int p3), (.ref b)])) (fun t k => XS.aloadN X115.here hx rfl (hb hby d3_74) rfl rfl k) ?_
  obtain ⟨T116, X116, e116, st116⟩ := getF X115 hx hZ hown (host := "") (Or.inl (hw _ (List.mem_of_getElem? (i := 37) rfl))) Via.refl e115 Flength (g := (mkF m 75 #[.val (.ref a1), .val (.ref b), .val (.int p3), .val (.int p4), .val (.int (len + p4))] [(.ref a1), (.ref aI), (.int p3), (.ref b)])) rfl rfl (hb hby d3_75)
  refine Gl.st (g' := (mkF m 78 #[.val (.ref a1), .val (.ref b), .val (.int p3), .val (.int p4), .val (.int (len + p4))] [(.int len), (.ref aI), (.int p3), (.ref b)])) st116 ?_
  refine Gl.st (g' := (mkF m 79 #[.val (.ref a1), .val (.ref b), .val (.int p3), .val (.int p4), .val (.int (len + p4))] [(.int p4), (.int len), (.ref aI), (.int p3), (.ref b)])) (fun t k => XS.iloadN X116.here hx rfl (hb hby d3_78) rfl k) ?_
  have Vp117 : Arv Z h0 aI kI .byte (65536 : Int32) (vsI ++ List.replicate 4000 (.int (0 : Int32))) (.int (0 : Int32)) := VI.pad (pad_rep vsI _ 4000)
  obtain ⟨T117, h117, L117, X117, e117, N117, K117, V117, st117⟩ := cpA X116 hx hZ hown (hw _ (List.mem_of_getElem? (i := 39) rfl)) (hw _ (List.mem_of_getElem? (i := 42) rfl)) (hw _ (List.mem_of_getElem? (i := 40) rfl)) (hw _ (List.mem_of_getElem? (i := 41) rfl)) e116 VB Vp117 (Or.inl ⟨rfl, rfl⟩) hsp hl0.nn hp.nn hs1 hs2 rfl (hs3 _) N112 gI (g := (mkF m 79 #[.val (.ref a1), .val (.ref b), .val (.int p3), .val (.int p4), .val (.int (len + p4))] [(.int p4), (.int len), (.ref aI), (.int p3), (.ref b)])) rfl (by rw [hml]; rfl) rfl (hb hby d3_79) (by decide) (W := 0) (by show 2 * 0 + _ ≤ _; exact Nat.le_of_eq rfl) (by decide)
  have Z117 : n0 ≤ h117.size := Nat.le_trans Z0 K117.1
  obtain ⟨vn117, Vn117⟩ : ∃ vs, Arv Z h117 aI kI .byte (65536 : Int32) vs (.int (0 : Int32)) := ⟨_, V117⟩
  have F118 : Fld Z h117 a1 "com/example/bristlecone/bristlecone/HashBatch" "input" "[B" (.ref aI) := (Finput.keep K117 (ninS nAI nin0))
  have F119 : Fld Z h117 a1 "com/example/bristlecone/bristlecone/HashBatch" "ends" "[I" (.ref aE) := (Fends.keep K117 (ninS nAI nin0))
  have F120 : Fld Z h117 a1 "com/example/bristlecone/bristlecone/HashBatch" "count" "I" (.int cnt) := (Fcount.keep K117 (ninS nAI nin0))
  have F121 : Fld Z h117 a1 "com/example/bristlecone/bristlecone/HashBatch" "length" "I" (.int len) := (Flength.keep K117 (ninS nAI nin0))
  have F122 : Fld Z h117 a1 "com/example/bristlecone/bristlecone/HashBatch" "start" "J" (.long fS) := (Fstart.keep K117 (ninS nAI nin0))
  have F123 : Fld Z h117 a1 "com/example/bristlecone/bristlecone/HashBatch" "heights" "I" (.int fH) := (Fheights.keep K117 (ninS nAI nin0))
  have E124 : Exa Z h117 a1 "com/example/bristlecone/bristlecone/HashBatch" := (EX.keep K117)
  have V125 : Arv Z h117 b kb .byte zb vsB (.int (0 : Int32)) := (VB.keep K117 (ninS nBI nin0))
  have V126 : Arv Z h117 aE kE .int (16384 : Int32) vsE (.int (0 : Int32)) := (VE.keep K117 (ninS nIE.symm nin0))
  refine Gl.st (g' := (mkF m 82 #[.val (.ref a1), .val (.ref b), .val (.int p3), .val (.int p4), .val (.int (len + p4))] [])) st117 ?_
  refine Gl.st (g' := (mkF m 83 #[.val (.ref a1), .val (.ref b), .val (.int p3), .val (.int p4), .val (.int (len + p4))] [(.ref a1)])) (fun t k => XS.aloadN X117.here hx rfl (hb hby d3_82) rfl rfl k) ?_
  refine Gl.st (g' := (mkF m 85 #[.val (.ref a1), .val (.ref b), .val (.int p3), .val (.int p4), .val (.int (len + p4))] [(.int (len + p4)), (.ref a1)])) (fun t k => XS.iload X117.here hx rfl (hb hby d3_83) rfl k) ?_
  obtain ⟨T127, h127, X127, e127, W127, st127⟩ := putF X117 hx hZ hown (host := "") (Or.inl (hw _ (List.mem_of_getElem? (i := 37) rfl))) Via.refl e117 F121 E124 (Or.inl (hw _ (List.mem_of_getElem? (i := 38) rfl))) (hw _ (List.mem_of_getElem? (i := 2) rfl)) (ty := .int) (by decide) rfl rfl (g := (mkF m 85 #[.val (.ref a1), .val (.ref b), .val (.int p3), .val (.int p4), .val (.int (len + p4))] [(.int (len + p4)), (.ref a1)])) rfl rfl (hb hby d3_85)
  have N127 := Fr.snoc X127 N117 gA
  have Z127 : n0 ≤ h127.size := Nat.le_trans Z117 (Keep.of_wr W127).1
  have F128 : Fld Z h127 a1 "com/example/bristlecone/bristlecone/HashBatch" "input" "[B" (.ref aI) := (F118.other W127 (Or.inr (slot_ne (Or.inl (hw _ (List.mem_of_getElem? (i := 12) rfl))) (Or.inl (hw _ (List.mem_of_getElem? (i := 38) rfl))) (by decide) (t := (.array .byte)) (t' := .int) (by decide) (by decide))))
  have F129 : Fld Z h127 a1 "com/example/bristlecone/bristlecone/HashBatch" "ends" "[I" (.ref aE) := (F119.other W127 (Or.inr (slot_ne (Or.inr (hw _ (List.mem_of_getElem? (i := 15) rfl))) (Or.inl (hw _ (List.mem_of_getElem? (i := 38) rfl))) (by decide) (t := (.array .int)) (t' := .int) (by decide) (by decide))))
  have F130 : Fld Z h127 a1 "com/example/bristlecone/bristlecone/HashBatch" "count" "I" (.int cnt) := (F120.other W127 (Or.inr (slot_ne (Or.inl (hw _ (List.mem_of_getElem? (i := 26) rfl))) (Or.inl (hw _ (List.mem_of_getElem? (i := 38) rfl))) (by decide) (t := .int) (t' := .int) (by decide) (by decide))))
  have F131 : Fld Z h127 a1 "com/example/bristlecone/bristlecone/HashBatch" "length" "I" (.int (len + p4)) := (F121.same W127)
  have F132 : Fld Z h127 a1 "com/example/bristlecone/bristlecone/HashBatch" "start" "J" (.long fS) := (F122.other W127 (Or.inr (slot_ne (Or.inl (hw _ (List.mem_of_getElem? (i := 51) rfl))) (Or.inl (hw _ (List.mem_of_getElem? (i := 38) rfl))) (by decide) (t := .long) (t' := .int) (by decide) (by decide))))
  have F133 : Fld Z h127 a1 "com/example/bristlecone/bristlecone/HashBatch" "heights" "I" (.int fH) := (F123.other W127 (Or.inr (slot_ne (Or.inl (hw _ (List.mem_of_getElem? (i := 53) rfl))) (Or.inl (hw _ (List.mem_of_getElem? (i := 38) rfl))) (by decide) (t := .int) (t' := .int) (by decide) (by decide))))
  have E134 : Exa Z h127 a1 "com/example/bristlecone/bristlecone/HashBatch" := (E124.wr W127)
  have V135 : Arv Z h127 b kb .byte zb vsB (.int (0 : Int32)) := (V125.other W127 nBA)
  have V136 : Arv Z h127 aI kI .byte (65536 : Int32) vn117 (.int (0 : Int32)) := (Vn117.other W127 nAI.symm)
  have V137 : Arv Z h127 aE kE .int (16384 : Int32) vsE (.int (0 : Int32)) := (V126.other W127 nAE.symm)
  refine Gl.st (g' := (mkF m 88 #[.val (.ref a1), .val (.ref b), .val (.int p3), .val (.int p4), .val (.int (len + p4))] [])) st127 ?_
  refine Gl.st (g' := (mkF m 89 #[.val (.ref a1), .val (.ref b), .val (.int p3), .val (.int p4), .val (.int (len + p4))] [(.ref a1)])) (fun t k => XS.aloadN X127.here hx rfl (hb hby d3_88) rfl rfl k) ?_
  obtain ⟨T138, X138, e138, st138⟩ := getF X127 hx hZ hown (host := "") (Or.inl (hw _ (List.mem_of_getElem? (i := 14) rfl))) Via.refl e127 F129 (g := (mkF m 89 #[.val (.ref a1), .val (.ref b), .val (.int p3), .val (.int p4), .val (.int (len + p4))] [(.ref a1)])) rfl rfl (hb hby d3_89)
  refine Gl.st (g' := (mkF m 92 #[.val (.ref a1), .val (.ref b), .val (.int p3), .val (.int p4), .val (.int (len + p4))] [(.ref aE)])) st138 ?_
  refine Gl.st (g' := (mkF m 93 #[.val (.ref a1), .val (.ref b), .val (.int p3), .val (.int p4), .val (.int (len + p4))] [(.ref a1), (.ref aE)])) (fun t k => XS.aloadN X138.here hx rfl (hb hby d3_92) rfl rfl k) ?_
  refine Gl.st (g' := (mkF m 94 #[.val (.ref a1), .val (.ref b), .val (.int p3), .val (.int p4), .val (.int (len + p4))] [(.ref a1), (.ref a1), (.ref aE)])) (fun t k => XS.dup X138.here hx rfl (hb hby d3_93) rfl rfl k) ?_
  obtain ⟨T139, X139, e139, st139⟩ := getF X138 hx hZ hown (host := "") (Or.inl (hw _ (List.mem_of_getElem? (i := 25) rfl))) Via.refl e138 F130 (g := (mkF m 94 #[.val (.ref a1), .val (.ref b), .val (.int p3), .val (.int p4), .val (.int (len + p4))] [(.ref a1), (.ref a1), (.ref aE)])) rfl rfl (hb hby d3_94)
  refine Gl.st (g' := (mkF m 97 #[.val (.ref a1), .val (.ref b), .val (.int p3), .val (.int p4), .val (.int (len + p4))] [(.int cnt), (.ref a1), (.ref aE)])) st139 ?_
  refine Gl.st (g' := (mkF m 98 #[.val (.ref a1), .val (.ref b), .val (.int p3), .val (.int p4), .val (.int (len + p4))] [(.int cnt), (.ref a1), (.int cnt), (.ref aE)])) (fun t k => XS.dupX1 X139.here hx rfl (hb hby d3_97) rfl rfl rfl k) ?_
  refine Gl.st (g' := (mkF m 99 #[.val (.ref a1), .val (.ref b), .val (.int p3), .val (.int p4), .val (.int (len + p4))] [(.int (1 : Int32)), (.int cnt), (.ref a1), (.int cnt), (.ref aE)])) (fun t k => XT.iconstV X139.here hx rfl (1 : Int32) (hb hby d3_98) rfl k) ?_
  refine Gl.st (g' := (mkF m 100 #[.val (.ref a1), .val (.ref b), .val (.int p3), .val (.int p4), .val (.int (len + p4))] [(.int (cnt + (1 : Int32))), (.ref a1), (.int cnt), (.ref aE)])) (fun t k => XS.iadd X139.here hx rfl (hb hby d3_99) rfl k) ?_
  obtain ⟨T140, h140, X140, e140, W140, st140⟩ := putF X139 hx hZ hown (host := "") (Or.inl (hw _ (List.mem_of_getElem? (i := 25) rfl))) Via.refl e139 F130 E134 (Or.inl (hw _ (List.mem_of_getElem? (i := 26) rfl))) (hw _ (List.mem_of_getElem? (i := 2) rfl)) (ty := .int) (by decide) rfl rfl (g := (mkF m 100 #[.val (.ref a1), .val (.ref b), .val (.int p3), .val (.int p4), .val (.int (len + p4))] [(.int (cnt + (1 : Int32))), (.ref a1), (.int cnt), (.ref aE)])) rfl rfl (hb hby d3_100)
  have N140 := Fr.snoc X140 N127 gA
  have Z140 : n0 ≤ h140.size := Nat.le_trans Z127 (Keep.of_wr W140).1
  have F141 : Fld Z h140 a1 "com/example/bristlecone/bristlecone/HashBatch" "input" "[B" (.ref aI) := (F128.other W140 (Or.inr (slot_ne (Or.inl (hw _ (List.mem_of_getElem? (i := 12) rfl))) (Or.inl (hw _ (List.mem_of_getElem? (i := 26) rfl))) (by decide) (t := (.array .byte)) (t' := .int) (by decide) (by decide))))
  have F142 : Fld Z h140 a1 "com/example/bristlecone/bristlecone/HashBatch" "ends" "[I" (.ref aE) := (F129.other W140 (Or.inr (slot_ne (Or.inr (hw _ (List.mem_of_getElem? (i := 15) rfl))) (Or.inl (hw _ (List.mem_of_getElem? (i := 26) rfl))) (by decide) (t := (.array .int)) (t' := .int) (by decide) (by decide))))
  have F143 : Fld Z h140 a1 "com/example/bristlecone/bristlecone/HashBatch" "count" "I" (.int (cnt + (1 : Int32))) := (F130.same W140)
  have F144 : Fld Z h140 a1 "com/example/bristlecone/bristlecone/HashBatch" "length" "I" (.int (len + p4)) := (F131.other W140 (Or.inr (slot_ne (Or.inl (hw _ (List.mem_of_getElem? (i := 38) rfl))) (Or.inl (hw _ (List.mem_of_getElem? (i := 26) rfl))) (by decide) (t := .int) (t' := .int) (by decide) (by decide))))
  have F145 : Fld Z h140 a1 "com/example/bristlecone/bristlecone/HashBatch" "start" "J" (.long fS) := (F132.other W140 (Or.inr (slot_ne (Or.inl (hw _ (List.mem_of_getElem? (i := 51) rfl))) (Or.inl (hw _ (List.mem_of_getElem? (i := 26) rfl))) (by decide) (t := .long) (t' := .int) (by decide) (by decide))))
  have F146 : Fld Z h140 a1 "com/example/bristlecone/bristlecone/HashBatch" "heights" "I" (.int fH) := (F133.other W140 (Or.inr (slot_ne (Or.inl (hw _ (List.mem_of_getElem? (i := 53) rfl))) (Or.inl (hw _ (List.mem_of_getElem? (i := 26) rfl))) (by decide) (t := .int) (t' := .int) (by decide) (by decide))))
  have E147 : Exa Z h140 a1 "com/example/bristlecone/bristlecone/HashBatch" := (E134.wr W140)
  have V148 : Arv Z h140 b kb .byte zb vsB (.int (0 : Int32)) := (V135.other W140 nBA)
  have V149 : Arv Z h140 aI kI .byte (65536 : Int32) vn117 (.int (0 : Int32)) := (V136.other W140 nAI.symm)
  have V150 : Arv Z h140 aE kE .int (16384 : Int32) vsE (.int (0 : Int32)) := (V137.other W140 nAE.symm)
  refine Gl.st (g' := (mkF m 103 #[.val (.ref a1), .val (.ref b), .val (.int p3), .val (.int p4), .val (.int (len + p4))] [(.int cnt), (.ref aE)])) st140 ?_
  refine Gl.st (g' := (mkF m 105 #[.val (.ref a1), .val (.ref b), .val (.int p3), .val (.int p4), .val (.int (len + p4))] [(.int (len + p4)), (.int cnt), (.ref aE)])) (fun t k => XS.iload X140.here hx rfl (hb hby d3_103) rfl k) ?_
  obtain ⟨T151, h151, vw151, X151, e151, W151, V151, st151⟩ := own_stIx X140 hx hZ e140 V150 (j := cnt) (own_ix hc0) (g := (mkF m 105 #[.val (.ref a1), .val (.ref b), .val (.int p3), .val (.int p4), .val (.int (len + p4))] [(.int (len + p4)), (.int cnt), (.ref aE)])) rfl rfl (hb hby d3_105)
  have N151 := Fr.snoc X151 N140 gE
  have Z151 : n0 ≤ h151.size := Nat.le_trans Z140 (Keep.of_wr W151).1
  have F152 : Fld Z h151 a1 "com/example/bristlecone/bristlecone/HashBatch" "input" "[B" (.ref aI) := (F141.other W151 (Or.inl nAE))
  have F153 : Fld Z h151 a1 "com/example/bristlecone/bristlecone/HashBatch" "ends" "[I" (.ref aE) := (F142.other W151 (Or.inl nAE))
  have F154 : Fld Z h151 a1 "com/example/bristlecone/bristlecone/HashBatch" "count" "I" (.int (cnt + (1 : Int32))) := (F143.other W151 (Or.inl nAE))
  have F155 : Fld Z h151 a1 "com/example/bristlecone/bristlecone/HashBatch" "length" "I" (.int (len + p4)) := (F144.other W151 (Or.inl nAE))
  have F156 : Fld Z h151 a1 "com/example/bristlecone/bristlecone/HashBatch" "start" "J" (.long fS) := (F145.other W151 (Or.inl nAE))
  have F157 : Fld Z h151 a1 "com/example/bristlecone/bristlecone/HashBatch" "heights" "I" (.int fH) := (F146.other W151 (Or.inl nAE))
  have E158 : Exa Z h151 a1 "com/example/bristlecone/bristlecone/HashBatch" := (E147.wr W151)
  have V159 : Arv Z h151 b kb .byte zb vsB (.int (0 : Int32)) := (V148.other W151 nBE)
  have V160 : Arv Z h151 aI kI .byte (65536 : Int32) vn117 (.int (0 : Int32)) := (V149.other W151 nIE)
  refine Gl.st (g' := (mkF m 106 #[.val (.ref a1), .val (.ref b), .val (.int p3), .val (.int p4), .val (.int (len + p4))] [])) st151 ?_
  refine Gl.retV X151 hx hlk Bd.returns (hb hby d3_106) e151 (by decide) (by decide) ?_
  exact ⟨rfl, N151, ⟨Z151, E158, gA, ⟨_, V159⟩, nBA, aI, aE, _, _, F152, F153, F154, F155, ⟨_, V160⟩, ⟨_, V151⟩, gI, gE, nAI, nAE, nIE, nBI, nBE, ⟨_, F156⟩, ⟨_, F157⟩⟩⟩
theorem pd_1 : parseMethodDescriptor "()V" = some ⟨[], none⟩ := by decide +kernel
theorem pd_2 : parseMethodDescriptor "([BII)V" = some ⟨[(.array .byte), .int, .int], none⟩ := by decide +kernel
theorem own_em0 : own_em (0 : Int32) = (1 : Int32) := by decide
theorem own_l3 (x : Int32) : Sm 3 (x &&& (3 : Int32)) := by
  obtain ⟨h1, h2, -⟩ := own_and x 3 2 (by decide) (by decide)
  exact ⟨h1, h2⟩
theorem own_n3 {x v : Int32} (e : (x &&& (3 : Int32)) = v) : Sm 3 v := e ▸ own_l3 x
theorem own_le3 {v : Int32} (h : Sm 3 v) : v.toNatClampNeg ≤ (3 : Int32).toNatClampNeg := by
  have := h.clamp; have := h.2; show _ ≤ 3; omega
theorem own_mx (x : Int64) : ¬ (x &&& (9223372036854775807 : Int64)) < (0 : Int64) := fun q => by
  have h := c_maskL x 9223372036854775807 63 (by decide) (by decide)
  have q2 := Int64.lt_iff_toInt_lt.mp q
  have z : (0 : Int64).toInt = 0 := by decide
  have : 0 ≤ x.toInt % ((2 ^ 63 : Nat) : Int) := Int.emod_nonneg _ (by decide)
  omega
theorem own_ndn {v a b : Int32} (h : ¬ a < v) (hab : a < b) : ¬ b < v := own_nlt (by have := own_nltI h; have := own_ltI hab; omega)
theorem own_pin {v : Int32} (k j : Int32) (h1 : j < v) (h2 : ¬ k < v) (h3 : k.toInt = j.toInt + 1) : v = k := own_eq (by have := own_ltI h1; have := own_nltI h2; omega)
theorem own_pin0 {v : Int32} (h1 : ¬ v < 0) (h2 : ¬ 0 < v) : v = 0 := own_eq (by have := own_nltI h1; have := own_nltI h2; omega)
theorem own_pin3 {v : Int32} (h1 : (2 : Int32) < v) (h2 : Sm 3 v) : v = 3 := own_eq (by have := own_ltI h1; have := h2.2; have t : (2 : Int32).toInt = 2 := (by decide); show _ = (3 : Int); omega)
theorem d4_0 : decode prog_11_method_5_code 0 = .ok (.aload_n 0, 1) := by decide +kernel
theorem d4_1 : decode prog_11_method_5_code 1 = .ok (.getfield 41, 3) := by decide +kernel
theorem d4_4 : decode prog_11_method_5_code 4 = .ok (.ifCond .ne 7, 3) := by decide +kernel
theorem d4_7 : decode prog_11_method_5_code 7 = .ok (.iconst 1, 1) := by decide +kernel
theorem d4_8 : decode prog_11_method_5_code 8 = .ok (.goto 4, 3) := by decide +kernel
theorem d4_11 : decode prog_11_method_5_code 11 = .ok (.iconst 0, 1) := by decide +kernel
theorem d4_12 : decode prog_11_method_5_code 12 = .ok (.ireturn, 1) := by decide +kernel
theorem ef_4 (m : MethodId) (a1 : Addr) : entryFrame m #[(.ref a1)] 1 = mkF m 0 #[.val (.ref a1)] [] := by first | (simp [entryFrame, mkF, argsToLocals, Value.category]; done) | rfl
def Q4 (Z : State) (a1 : Addr) (b : Addr) (kb : ClassId) (zb cnt len : Int32) (h0 : Heap) (n0 : Nat) (v : Option Value) (h : Heap) (L : List Loc) : Prop := v = some (.int (own_em cnt)) ∧ Fr n0 L ∧ h = h0
set_option maxRecDepth 65536 in
set_option maxHeartbeats 40000000 in
theorem rm4 (l : Launch) (Z : State) (a0 : Array Value) (hw : ∀ d ∈ tables_1, d.before a0 Z = true) (a1 : Addr) (b : Addr) (kb : ClassId) (zb cnt len : Int32) (h0 : Heap) (n0 : Nat) (Z0 : n0 ≤ h0.size) (H : HB Z n0 a1 b kb zb h0 cnt len) :
    MetFree l (⟨"com/example/bristlecone/bristlecone/HashBatch", "isEmpty", "()Z"⟩ : MethodName) (head1 [Jvm.Cond.code (⟨"com/example/bristlecone/bristlecone/HashBatch", "isEmpty", "()Z"⟩ : MethodName) prog_11_method_5_code 1 (some .boolean)] ({ frames := 0, cells := 0, slots := 0, locals := 0 } : Room)) (fun a U => a = #[(.ref a1)] ∧ Z.Warmed39 U.vm ∧ U.heap = h0) (fun _ _ _ _ _ => True) (fun _ U o U' => ∃ v L, o = .returned v ∧ Q4 Z a1 b kb zb cnt len h0 n0 v U'.heap L ∧ FrameEnd U o U' L ({ frames := 0, cells := 0, slots := 0, locals := 0 } : Room).cells ({ frames := 0, cells := 0, slots := 0, locals := 0 } : Room).slots) := by
  refine MetFree.of_bodySF (plainFor_of_name pn_0) hisR ?_
  intro p e s m args below meth c s₁ Bd hml0 hP hK
  obtain ⟨rfl, hZ, hh⟩ := hP
  have hx := Bd.exec
  have hby := Bd.bytes
  have hlk : meth.locks = false := Bd.notSynchronized
  have hml : c.maxLocals = 1 := hml0
  have hown : s.vm.findClass "com/example/bristlecone/bristlecone/HashBatch" = some m.cls := findClass_of_methodNamed Bd.named
  have hnm := (name_of_methodNamed Bd.named Bd.method).1
  have X0 : Stand p l e ({ frames := 0, cells := 0, slots := 0, locals := 0 } : Room) s m #[(.ref a1)] below meth c s₁ [] 0 0 := Stand.of_body Bd
  have e0 : s₁.heap = h0 := by rw [← hh, Bd.state]; rfl
  have N0 := Fr.nil n0
  show Gl p e below s (Q4 Z a1 b kb zb cnt len h0 n0) 0 0 s₁ (entryFrame m #[(.ref a1)] 1)
  rw [ef_4 m a1]
  obtain ⟨hZ1, EX, gA, ⟨vsB, VB⟩, nBA, aI, aE, kI, kE, Finput, Fends, Fcount, Flength, ⟨vsI, VI⟩, ⟨vsE, VE⟩, gI, gE, nAI, nAE, nIE, nBI, nBE, ⟨fS, Fstart⟩, ⟨fH, Fheights⟩⟩ := H
  have Z0 := hZ1
  refine Gl.st (g' := (mkF m 1 #[.val (.ref a1)] [(.ref a1)])) (fun t k => XS.aloadN X0.here hx rfl (hb hby d4_0) rfl rfl k) ?_
  obtain ⟨T161, X161, e161, st161⟩ := getF X0 hx hZ hown (host := "") (Or.inl (hw _ (List.mem_of_getElem? (i := 25) rfl))) Via.refl e0 Fcount (g := (mkF m 1 #[.val (.ref a1)] [(.ref a1)])) rfl rfl (hb hby d4_1)
  refine Gl.st (g' := (mkF m 4 #[.val (.ref a1)] [(.int cnt)])) st161 ?_
  by_cases c162 : cnt = (0 : Int32)
  · skip
    refine Gl.st (g' := (mkF m 7 #[.val (.ref a1)] [])) (fun t k => XS.ifNo X161.here hx rfl (hb hby d4_4) rfl (XT.i0_ne_f c162) k) ?_
    refine Gl.st (g' := (mkF m 8 #[.val (.ref a1)] [(.int (1 : Int32))])) (fun t k => XT.iconstV X161.here hx rfl (1 : Int32) (hb hby d4_7) rfl k) ?_
    refine Gl.st (g' := (mkF m 12 #[.val (.ref a1)] [(.int (1 : Int32))])) (fun t k => XS.goto X161.here hx rfl (pc0 := 8) (pc' := 12) rfl (hb hby d4_8) (by decide) (by decide) k) ?_
    refine Gl.retZ X161 hx hlk .boolean (by simp) Bd.returns (hb hby d4_12) e161 (by decide) (by decide) ?_
    refine ⟨?_, N0, rfl⟩
    rw [own_z1]
    unfold own_em
    rw [if_pos c162]
  · skip
    refine Gl.st (g' := (mkF m 11 #[.val (.ref a1)] [])) (fun t k => XS.ifYes X161.here hx rfl (pc0 := 4) (pc' := 11) rfl (hb hby d4_4) rfl (XT.i0_ne_t c162) (by decide) (by decide) k) ?_
    refine Gl.st (g' := (mkF m 12 #[.val (.ref a1)] [(.int (0 : Int32))])) (fun t k => XT.iconstV X161.here hx rfl (0 : Int32) (hb hby d4_11) rfl k) ?_
    refine Gl.retZ X161 hx hlk .boolean (by simp) Bd.returns (hb hby d4_12) e161 (by decide) (by decide) ?_
    refine ⟨?_, N0, rfl⟩
    rw [own_z0]
    unfold own_em
    rw [if_neg c162]
theorem d5_0 : decode prog_11_method_2_code 0 = .ok (.lload_n 1, 1) := by decide +kernel
theorem d5_1 : decode prog_11_method_2_code 1 = .ok (.lconst 0, 1) := by decide +kernel
theorem d5_2 : decode prog_11_method_2_code 2 = .ok (.lcmp, 1) := by decide +kernel
theorem d5_3 : decode prog_11_method_2_code 3 = .ok (.ifCond .ge 17, 3) := by decide +kernel
theorem d5_6 : decode prog_11_method_2_code 6 = .ok (.new 28, 3) := by decide +kernel
theorem d5_9 : decode prog_11_method_2_code 9 = .ok (.dup, 1) := by decide +kernel
theorem d5_10 : decode prog_11_method_2_code 10 = .ok (.lload_n 1, 1) := by decide +kernel
theorem d5_11 : decode prog_11_method_2_code 11 = .ok (.invokedynamic 30, 5) := by decide +kernel
theorem d5_16 : decode prog_11_method_2_code 16 = .ok (.invokespecial 34, 3) := by decide +kernel
theorem d5_19 : decode prog_11_method_2_code 19 = .ok (.athrow, 1) := by decide +kernel
theorem d5_20 : decode prog_11_method_2_code 20 = .ok (.aload_n 0, 1) := by decide +kernel
theorem d5_21 : decode prog_11_method_2_code 21 = .ok (.lload_n 1, 1) := by decide +kernel
theorem d5_22 : decode prog_11_method_2_code 22 = .ok (.putfield 37, 3) := by decide +kernel
theorem d5_25 : decode prog_11_method_2_code 25 = .ok (.aload_n 0, 1) := by decide +kernel
theorem d5_26 : decode prog_11_method_2_code 26 = .ok (.iconst 0, 1) := by decide +kernel
theorem d5_27 : decode prog_11_method_2_code 27 = .ok (.putfield 41, 3) := by decide +kernel
theorem d5_30 : decode prog_11_method_2_code 30 = .ok (.aload_n 0, 1) := by decide +kernel
theorem d5_31 : decode prog_11_method_2_code 31 = .ok (.iconst 0, 1) := by decide +kernel
theorem d5_32 : decode prog_11_method_2_code 32 = .ok (.putfield 45, 3) := by decide +kernel
theorem d5_35 : decode prog_11_method_2_code 35 = .ok (.aload_n 0, 1) := by decide +kernel
theorem d5_36 : decode prog_11_method_2_code 36 = .ok (.iconst 0, 1) := by decide +kernel
theorem d5_37 : decode prog_11_method_2_code 37 = .ok (.putfield 48, 3) := by decide +kernel
theorem d5_40 : decode prog_11_method_2_code 40 = .ok (.return_, 1) := by decide +kernel
theorem ef_5 (m : MethodId) (a1 : Addr) (p1 : Int64) : entryFrame m #[(.ref a1), (.long p1)] 3 = mkF m 0 #[.val (.ref a1), .val (.long p1), .second] [] := by first | (simp [entryFrame, mkF, argsToLocals, Value.category]; done) | rfl
def Q5 (Z : State) (a1 : Addr) (p1 : Int64) (b : Addr) (kb : ClassId) (zb cnt len : Int32) (h0 : Heap) (n0 : Nat) (v : Option Value) (h : Heap) (L : List Loc) : Prop := v = none ∧ Fr n0 L ∧ HB Z n0 a1 b kb zb h (0 : Int32) (0 : Int32)
set_option maxRecDepth 65536 in
set_option maxHeartbeats 40000000 in
theorem rm5 (l : Launch) (Z : State) (a0 : Array Value) (hw : ∀ d ∈ tables_1, d.before a0 Z = true) (a1 : Addr) (p1 : Int64) (b : Addr) (kb : ClassId) (zb cnt len : Int32) (h0 : Heap) (n0 : Nat) (Z0 : n0 ≤ h0.size) (H : HB Z n0 a1 b kb zb h0 cnt len) (hp : ¬ p1 < (0 : Int64)) :
    MetFree l (⟨"com/example/bristlecone/bristlecone/HashBatch", "restart", "(J)V"⟩ : MethodName) (head1 [Jvm.Cond.code (⟨"com/example/bristlecone/bristlecone/HashBatch", "restart", "(J)V"⟩ : MethodName) prog_11_method_2_code 3 none] ({ frames := 0, cells := 0, slots := 0, locals := 0 } : Room)) (fun a U => a = #[(.ref a1), (.long p1)] ∧ Z.Warmed39 U.vm ∧ U.heap = h0) (fun _ _ _ _ _ => True) (fun _ U o U' => ∃ v L, o = .returned v ∧ Q5 Z a1 p1 b kb zb cnt len h0 n0 v U'.heap L ∧ FrameEnd U o U' L ({ frames := 0, cells := 0, slots := 0, locals := 0 } : Room).cells ({ frames := 0, cells := 0, slots := 0, locals := 0 } : Room).slots) := by
  refine MetFree.of_bodySF (plainFor_of_name pn_0) hisR ?_
  intro p e s m args below meth c s₁ Bd hml0 hP hK
  obtain ⟨rfl, hZ, hh⟩ := hP
  have hx := Bd.exec
  have hby := Bd.bytes
  have hlk : meth.locks = false := Bd.notSynchronized
  have hml : c.maxLocals = 3 := hml0
  have hown : s.vm.findClass "com/example/bristlecone/bristlecone/HashBatch" = some m.cls := findClass_of_methodNamed Bd.named
  have hnm := (name_of_methodNamed Bd.named Bd.method).1
  have X0 : Stand p l e ({ frames := 0, cells := 0, slots := 0, locals := 0 } : Room) s m #[(.ref a1), (.long p1)] below meth c s₁ [] 0 0 := Stand.of_body Bd
  have e0 : s₁.heap = h0 := by rw [← hh, Bd.state]; rfl
  have N0 := Fr.nil n0
  show Gl p e below s (Q5 Z a1 p1 b kb zb cnt len h0 n0) 0 0 s₁ (entryFrame m #[(.ref a1), (.long p1)] 3)
  rw [ef_5 m a1 p1]
  obtain ⟨hZ1, EX, gA, ⟨vsB, VB⟩, nBA, aI, aE, kI, kE, Finput, Fends, Fcount, Flength, ⟨vsI, VI⟩, ⟨vsE, VE⟩, gI, gE, nAI, nAE, nIE, nBI, nBE, ⟨fS, Fstart⟩, ⟨fH, Fheights⟩⟩ := H
  have Z0 := hZ1
  refine Gl.st (g' := (mkF m 1 #[.val (.ref a1), .val (.long p1), .second] [(.long p1)])) (fun t k => XS.lloadN X0.here hx rfl (hb hby d5_0) rfl k) ?_
  refine Gl.st (g' := (mkF m 2 #[.val (.ref a1), .val (.long p1), .second] [(.long (0 : Int64)), (.long p1)])) (fun t k => XT.lconstV X0.here hx rfl (0 : Int64) (hb hby d5_1) rfl k) ?_
  refine Gl.st (g' := (mkF m 3 #[.val (.ref a1), .val (.long p1), .second] [(.int (XT.cmpL p1 (0 : Int64)))])) (fun t k => XT.lcmp X0.here hx rfl (hb hby d5_2) rfl k) ?_
  refine Gl.st (g' := (mkF m 20 #[.val (.ref a1), .val (.long p1), .second] [])) (fun t k => XS.ifYes X0.here hx rfl (pc0 := 3) (pc' := 20) rfl (hb hby d5_3) rfl (XT.ll_ge_t hp) (by decide) (by decide) k) ?_
  refine Gl.st (g' := (mkF m 21 #[.val (.ref a1), .val (.long p1), .second] [(.ref a1)])) (fun t k => XS.aloadN X0.here hx rfl (hb hby d5_20) rfl rfl k) ?_
  refine Gl.st (g' := (mkF m 22 #[.val (.ref a1), .val (.long p1), .second] [(.long p1), (.ref a1)])) (fun t k => XS.lloadN X0.here hx rfl (hb hby d5_21) rfl k) ?_
  obtain ⟨T163, h163, X163, e163, W163, st163⟩ := putF X0 hx hZ hown (host := "") (Or.inl (hw _ (List.mem_of_getElem? (i := 50) rfl))) Via.refl e0 Fstart EX (Or.inl (hw _ (List.mem_of_getElem? (i := 51) rfl))) (hw _ (List.mem_of_getElem? (i := 2) rfl)) (ty := .long) (by decide) rfl rfl (g := (mkF m 22 #[.val (.ref a1), .val (.long p1), .second] [(.long p1), (.ref a1)])) rfl rfl (hb hby d5_22)
  have N163 := Fr.snoc X163 N0 gA
  have Z163 : n0 ≤ h163.size := Nat.le_trans Z0 (Keep.of_wr W163).1
  have F164 : Fld Z h163 a1 "com/example/bristlecone/bristlecone/HashBatch" "input" "[B" (.ref aI) := (Finput.other W163 (Or.inr (slot_ne (Or.inl (hw _ (List.mem_of_getElem? (i := 12) rfl))) (Or.inl (hw _ (List.mem_of_getElem? (i := 51) rfl))) (by decide) (t := (.array .byte)) (t' := .long) (by decide) (by decide))))
  have F165 : Fld Z h163 a1 "com/example/bristlecone/bristlecone/HashBatch" "ends" "[I" (.ref aE) := (Fends.other W163 (Or.inr (slot_ne (Or.inr (hw _ (List.mem_of_getElem? (i := 15) rfl))) (Or.inl (hw _ (List.mem_of_getElem? (i := 51) rfl))) (by decide) (t := (.array .int)) (t' := .long) (by decide) (by decide))))
  have F166 : Fld Z h163 a1 "com/example/bristlecone/bristlecone/HashBatch" "count" "I" (.int cnt) := (Fcount.other W163 (Or.inr (slot_ne (Or.inl (hw _ (List.mem_of_getElem? (i := 26) rfl))) (Or.inl (hw _ (List.mem_of_getElem? (i := 51) rfl))) (by decide) (t := .int) (t' := .long) (by decide) (by decide))))
  have F167 : Fld Z h163 a1 "com/example/bristlecone/bristlecone/HashBatch" "length" "I" (.int len) := (Flength.other W163 (Or.inr (slot_ne (Or.inl (hw _ (List.mem_of_getElem? (i := 38) rfl))) (Or.inl (hw _ (List.mem_of_getElem? (i := 51) rfl))) (by decide) (t := .int) (t' := .long) (by decide) (by decide))))
  have F168 : Fld Z h163 a1 "com/example/bristlecone/bristlecone/HashBatch" "start" "J" (.long p1) := (Fstart.same W163)
  have F169 : Fld Z h163 a1 "com/example/bristlecone/bristlecone/HashBatch" "heights" "I" (.int fH) := (Fheights.other W163 (Or.inr (slot_ne (Or.inl (hw _ (List.mem_of_getElem? (i := 53) rfl))) (Or.inl (hw _ (List.mem_of_getElem? (i := 51) rfl))) (by decide) (t := .int) (t' := .long) (by decide) (by decide))))
  have E170 : Exa Z h163 a1 "com/example/bristlecone/bristlecone/HashBatch" := (EX.wr W163)
  have V171 : Arv Z h163 b kb .byte zb vsB (.int (0 : Int32)) := (VB.other W163 nBA)
  have V172 : Arv Z h163 aI kI .byte (65536 : Int32) vsI (.int (0 : Int32)) := (VI.other W163 nAI.symm)
  have V173 : Arv Z h163 aE kE .int (16384 : Int32) vsE (.int (0 : Int32)) := (VE.other W163 nAE.symm)
  refine Gl.st (g' := (mkF m 25 #[.val (.ref a1), .val (.long p1), .second] [])) st163 ?_
  refine Gl.st (g' := (mkF m 26 #[.val (.ref a1), .val (.long p1), .second] [(.ref a1)])) (fun t k => XS.aloadN X163.here hx rfl (hb hby d5_25) rfl rfl k) ?_
  refine Gl.st (g' := (mkF m 27 #[.val (.ref a1), .val (.long p1), .second] [(.int (0 : Int32)), (.ref a1)])) (fun t k => XT.iconstV X163.here hx rfl (0 : Int32) (hb hby d5_26) rfl k) ?_
  obtain ⟨T174, h174, X174, e174, W174, st174⟩ := putF X163 hx hZ hown (host := "") (Or.inl (hw _ (List.mem_of_getElem? (i := 25) rfl))) Via.refl e163 F166 E170 (Or.inl (hw _ (List.mem_of_getElem? (i := 26) rfl))) (hw _ (List.mem_of_getElem? (i := 2) rfl)) (ty := .int) (by decide) rfl rfl (g := (mkF m 27 #[.val (.ref a1), .val (.long p1), .second] [(.int (0 : Int32)), (.ref a1)])) rfl rfl (hb hby d5_27)
  have N174 := Fr.snoc X174 N163 gA
  have Z174 : n0 ≤ h174.size := Nat.le_trans Z163 (Keep.of_wr W174).1
  have F175 : Fld Z h174 a1 "com/example/bristlecone/bristlecone/HashBatch" "input" "[B" (.ref aI) := (F164.other W174 (Or.inr (slot_ne (Or.inl (hw _ (List.mem_of_getElem? (i := 12) rfl))) (Or.inl (hw _ (List.mem_of_getElem? (i := 26) rfl))) (by decide) (t := (.array .byte)) (t' := .int) (by decide) (by decide))))
  have F176 : Fld Z h174 a1 "com/example/bristlecone/bristlecone/HashBatch" "ends" "[I" (.ref aE) := (F165.other W174 (Or.inr (slot_ne (Or.inr (hw _ (List.mem_of_getElem? (i := 15) rfl))) (Or.inl (hw _ (List.mem_of_getElem? (i := 26) rfl))) (by decide) (t := (.array .int)) (t' := .int) (by decide) (by decide))))
  have F177 : Fld Z h174 a1 "com/example/bristlecone/bristlecone/HashBatch" "count" "I" (.int (0 : Int32)) := (F166.same W174)
  have F178 : Fld Z h174 a1 "com/example/bristlecone/bristlecone/HashBatch" "length" "I" (.int len) := (F167.other W174 (Or.inr (slot_ne (Or.inl (hw _ (List.mem_of_getElem? (i := 38) rfl))) (Or.inl (hw _ (List.mem_of_getElem? (i := 26) rfl))) (by decide) (t := .int) (t' := .int) (by decide) (by decide))))
  have F179 : Fld Z h174 a1 "com/example/bristlecone/bristlecone/HashBatch" "start" "J" (.long p1) := (F168.other W174 (Or.inr (slot_ne (Or.inl (hw _ (List.mem_of_getElem? (i := 51) rfl))) (Or.inl (hw _ (List.mem_of_getElem? (i := 26) rfl))) (by decide) (t := .long) (t' := .int) (by decide) (by decide))))
  have F180 : Fld Z h174 a1 "com/example/bristlecone/bristlecone/HashBatch" "heights" "I" (.int fH) := (F169.other W174 (Or.inr (slot_ne (Or.inl (hw _ (List.mem_of_getElem? (i := 53) rfl))) (Or.inl (hw _ (List.mem_of_getElem? (i := 26) rfl))) (by decide) (t := .int) (t' := .int) (by decide) (by decide))))
  have E181 : Exa Z h174 a1 "com/example/bristlecone/bristlecone/HashBatch" := (E170.wr W174)
  have V182 : Arv Z h174 b kb .byte zb vsB (.int (0 : Int32)) := (V171.other W174 nBA)
  have V183 : Arv Z h174 aI kI .byte (65536 : Int32) vsI (.int (0 : Int32)) := (V172.other W174 nAI.symm)
  have V184 : Arv Z h174 aE kE .int (16384 : Int32) vsE (.int (0 : Int32)) := (V173.other W174 nAE.symm)
  refine Gl.st (g' := (mkF m 30 #[.val (.ref a1), .val (.long p1), .second] [])) st174 ?_
  refine Gl.st (g' := (mkF m 31 #[.val (.ref a1), .val (.long p1), .second] [(.ref a1)])) (fun t k => XS.aloadN X174.here hx rfl (hb hby d5_30) rfl rfl k) ?_
  refine Gl.st (g' := (mkF m 32 #[.val (.ref a1), .val (.long p1), .second] [(.int (0 : Int32)), (.ref a1)])) (fun t k => XT.iconstV X174.here hx rfl (0 : Int32) (hb hby d5_31) rfl k) ?_
  obtain ⟨T185, h185, X185, e185, W185, st185⟩ := putF X174 hx hZ hown (host := "") (Or.inl (hw _ (List.mem_of_getElem? (i := 37) rfl))) Via.refl e174 F178 E181 (Or.inl (hw _ (List.mem_of_getElem? (i := 38) rfl))) (hw _ (List.mem_of_getElem? (i := 2) rfl)) (ty := .int) (by decide) rfl rfl (g := (mkF m 32 #[.val (.ref a1), .val (.long p1), .second] [(.int (0 : Int32)), (.ref a1)])) rfl rfl (hb hby d5_32)
  have N185 := Fr.snoc X185 N174 gA
  have Z185 : n0 ≤ h185.size := Nat.le_trans Z174 (Keep.of_wr W185).1
  have F186 : Fld Z h185 a1 "com/example/bristlecone/bristlecone/HashBatch" "input" "[B" (.ref aI) := (F175.other W185 (Or.inr (slot_ne (Or.inl (hw _ (List.mem_of_getElem? (i := 12) rfl))) (Or.inl (hw _ (List.mem_of_getElem? (i := 38) rfl))) (by decide) (t := (.array .byte)) (t' := .int) (by decide) (by decide))))
  have F187 : Fld Z h185 a1 "com/example/bristlecone/bristlecone/HashBatch" "ends" "[I" (.ref aE) := (F176.other W185 (Or.inr (slot_ne (Or.inr (hw _ (List.mem_of_getElem? (i := 15) rfl))) (Or.inl (hw _ (List.mem_of_getElem? (i := 38) rfl))) (by decide) (t := (.array .int)) (t' := .int) (by decide) (by decide))))
  have F188 : Fld Z h185 a1 "com/example/bristlecone/bristlecone/HashBatch" "count" "I" (.int (0 : Int32)) := (F177.other W185 (Or.inr (slot_ne (Or.inl (hw _ (List.mem_of_getElem? (i := 26) rfl))) (Or.inl (hw _ (List.mem_of_getElem? (i := 38) rfl))) (by decide) (t := .int) (t' := .int) (by decide) (by decide))))
  have F189 : Fld Z h185 a1 "com/example/bristlecone/bristlecone/HashBatch" "length" "I" (.int (0 : Int32)) := (F178.same W185)
  have F190 : Fld Z h185 a1 "com/example/bristlecone/bristlecone/HashBatch" "start" "J" (.long p1) := (F179.other W185 (Or.inr (slot_ne (Or.inl (hw _ (List.mem_of_getElem? (i := 51) rfl))) (Or.inl (hw _ (List.mem_of_getElem? (i := 38) rfl))) (by decide) (t := .long) (t' := .int) (by decide) (by decide))))
  have F191 : Fld Z h185 a1 "com/example/bristlecone/bristlecone/HashBatch" "heights" "I" (.int fH) := (F180.other W185 (Or.inr (slot_ne (Or.inl (hw _ (List.mem_of_getElem? (i := 53) rfl))) (Or.inl (hw _ (List.mem_of_getElem? (i := 38) rfl))) (by decide) (t := .int) (t' := .int) (by decide) (by decide))))
  have E192 : Exa Z h185 a1 "com/example/bristlecone/bristlecone/HashBatch" := (E181.wr W185)
  have V193 : Arv Z h185 b kb .byte zb vsB (.int (0 : Int32)) := (V182.other W185 nBA)
  have V194 : Arv Z h185 aI kI .byte (65536 : Int32) vsI (.int (0 : Int32)) := (V183.other W185 nAI.symm)
  have V195 : Arv Z h185 aE kE .int (16384 : Int32) vsE (.int (0 : Int32)) := (V184.other W185 nAE.symm)
  refine Gl.st (g' := (mkF m 35 #[.val (.ref a1), .val (.long p1), .second] [])) st185 ?_
  refine Gl.st (g' := (mkF m 36 #[.val (.ref a1), .val (.long p1), .second] [(.ref a1)])) (fun t k => XS.aloadN X185.here hx rfl (hb hby d5_35) rfl rfl k) ?_
  refine Gl.st (g' := (mkF m 37 #[.val (.ref a1), .val (.long p1), .second] [(.int (0 : Int32)), (.ref a1)])) (fun t k => XT.iconstV X185.here hx rfl (0 : Int32) (hb hby d5_36) rfl k) ?_
  obtain ⟨T196, h196, X196, e196, W196, st196⟩ := putF X185 hx hZ hown (host := "") (Or.inl (hw _ (List.mem_of_getElem? (i := 52) rfl))) Via.refl e185 F191 E192 (Or.inl (hw _ (List.mem_of_getElem? (i := 53) rfl))) (hw _ (List.mem_of_getElem? (i := 2) rfl)) (ty := .int) (by decide) rfl rfl (g := (mkF m 37 #[.val (.ref a1), .val (.long p1), .second] [(.int (0 : Int32)), (.ref a1)])) rfl rfl (hb hby d5_37)
  have N196 := Fr.snoc X196 N185 gA
  have Z196 : n0 ≤ h196.size := Nat.le_trans Z185 (Keep.of_wr W196).1
  have F197 : Fld Z h196 a1 "com/example/bristlecone/bristlecone/HashBatch" "input" "[B" (.ref aI) := (F186.other W196 (Or.inr (slot_ne (Or.inl (hw _ (List.mem_of_getElem? (i := 12) rfl))) (Or.inl (hw _ (List.mem_of_getElem? (i := 53) rfl))) (by decide) (t := (.array .byte)) (t' := .int) (by decide) (by decide))))
  have F198 : Fld Z h196 a1 "com/example/bristlecone/bristlecone/HashBatch" "ends" "[I" (.ref aE) := (F187.other W196 (Or.inr (slot_ne (Or.inr (hw _ (List.mem_of_getElem? (i := 15) rfl))) (Or.inl (hw _ (List.mem_of_getElem? (i := 53) rfl))) (by decide) (t := (.array .int)) (t' := .int) (by decide) (by decide))))
  have F199 : Fld Z h196 a1 "com/example/bristlecone/bristlecone/HashBatch" "count" "I" (.int (0 : Int32)) := (F188.other W196 (Or.inr (slot_ne (Or.inl (hw _ (List.mem_of_getElem? (i := 26) rfl))) (Or.inl (hw _ (List.mem_of_getElem? (i := 53) rfl))) (by decide) (t := .int) (t' := .int) (by decide) (by decide))))
  have F200 : Fld Z h196 a1 "com/example/bristlecone/bristlecone/HashBatch" "length" "I" (.int (0 : Int32)) := (F189.other W196 (Or.inr (slot_ne (Or.inl (hw _ (List.mem_of_getElem? (i := 38) rfl))) (Or.inl (hw _ (List.mem_of_getElem? (i := 53) rfl))) (by decide) (t := .int) (t' := .int) (by decide) (by decide))))
  have F201 : Fld Z h196 a1 "com/example/bristlecone/bristlecone/HashBatch" "start" "J" (.long p1) := (F190.other W196 (Or.inr (slot_ne (Or.inl (hw _ (List.mem_of_getElem? (i := 51) rfl))) (Or.inl (hw _ (List.mem_of_getElem? (i := 53) rfl))) (by decide) (t := .long) (t' := .int) (by decide) (by decide))))
  have F202 : Fld Z h196 a1 "com/example/bristlecone/bristlecone/HashBatch" "heights" "I" (.int (0 : Int32)) := (F191.same W196)
  have E203 : Exa Z h196 a1 "com/example/bristlecone/bristlecone/HashBatch" := (E192.wr W196)
  have V204 : Arv Z h196 b kb .byte zb vsB (.int (0 : Int32)) := (V193.other W196 nBA)
  have V205 : Arv Z h196 aI kI .byte (65536 : Int32) vsI (.int (0 : Int32)) := (V194.other W196 nAI.symm)
  have V206 : Arv Z h196 aE kE .int (16384 : Int32) vsE (.int (0 : Int32)) := (V195.other W196 nAE.symm)
  refine Gl.st (g' := (mkF m 40 #[.val (.ref a1), .val (.long p1), .second] [])) st196 ?_
  refine Gl.retV X196 hx hlk Bd.returns (hb hby d5_40) e196 (by decide) (by decide) ?_
  exact ⟨rfl, N196, ⟨Z196, E203, gA, ⟨_, V204⟩, nBA, aI, aE, _, _, F197, F198, F199, F200, ⟨_, V205⟩, ⟨_, V206⟩, gI, gE, nAI, nAE, nIE, nBI, nBE, ⟨_, F201⟩, ⟨_, F202⟩⟩⟩
theorem pd_3 : parseMethodDescriptor "()Z" = some ⟨[], some .boolean⟩ := by decide +kernel
theorem pd_4 : parseMethodDescriptor "(J)V" = some ⟨[.long], none⟩ := by decide +kernel
theorem pn_1 : plainName "com/example/bristlecone/bristlecone/HashBatchIsEmptyPinLaw" = true := by first | (simp [plainName, overriddenIn]; done) | decide +kernel
theorem ef_0 (m : MethodId) (p1 : Int64) (p2 : Int32) (p3 : Int32) (p4 : Int64) (p5 : Int32) : entryFrame m #[(.long p1), (.int p2), (.int p3), (.long p4), (.int p5)] maxLocals = mkF m 0 #[.val (.long p1), .second, .val (.int p2), .val (.int p3), .val (.long p4), .second, .val (.int p5), .unset, .unset, .unset, .unset] [] := by first | (simp [entryFrame, mkF, argsToLocals, Value.category, maxLocals]; done) | rfl
def Q0 (Z : State) (p1 : Int64) (p2 : Int32) (p3 : Int32) (p4 : Int64) (p5 : Int32)  (h0 : Heap) (n0 : Nat) (v : Option Value) (h : Heap) (L : List Loc) : Prop := v = some (.int 1) ∧ Fr n0 L
set_option maxRecDepth 65536 in
set_option maxHeartbeats 40000000 in
theorem rm0 (l : Launch) (Z : State) (a0 : Array Value) (hw : ∀ d ∈ tables_1, d.before a0 Z = true) (ws : List Jvm.Cond) (p1 : Int64) (p2 : Int32) (p3 : Int32) (p4 : Int64) (p5 : Int32)  (h0 : Heap) (n0 : Nat) (Z0 : n0 ≤ h0.size)  :
    MetFree l x (head1 (Jvm.Cond.code x code maxLocals ret :: ws) room_1) (fun a U => a = #[(.long p1), (.int p2), (.int p3), (.long p4), (.int p5)] ∧ Z.Warmed39 U.vm ∧ U.heap = h0) (fun _ _ _ _ _ => True) (fun _ U o U' => ∃ v L, o = .returned v ∧ Q0 Z p1 p2 p3 p4 p5  h0 n0 v U'.heap L ∧ FrameEnd U o U' L 24 164096) := by
  refine MetFree.of_bodySF (plainFor_of_name pn_1) hisR ?_
  intro p e s m args below meth c s₁ Bd hml0 hP hK
  obtain ⟨rfl, hZ, hh⟩ := hP
  have hx := Bd.exec
  have hby := Bd.bytes
  have hlk : meth.locks = false := Bd.notSynchronized
  have hml : c.maxLocals = 11 := hml0
  have hown : s.vm.findClass "com/example/bristlecone/bristlecone/HashBatchIsEmptyPinLaw" = some m.cls := findClass_of_methodNamed Bd.named
  have hnm := (name_of_methodNamed Bd.named Bd.method).1
  have X0 : Stand p l e room_1 s m #[(.long p1), (.int p2), (.int p3), (.long p4), (.int p5)] below meth c s₁ [] 0 0 := Stand.of_body Bd
  have e0 : s₁.heap = h0 := by rw [← hh, Bd.state]; rfl
  have N0 := Fr.nil n0
  show Gl p e below s (Q0 Z p1 p2 p3 p4 p5  h0 n0) 24 164096 s₁ (entryFrame m #[(.long p1), (.int p2), (.int p3), (.long p4), (.int p5)] maxLocals)
  rw [ef_0 m p1 p2 p3 p4 p5]
  refine Gl.st (g' := (mkF m 1 #[.val (.long p1), .second, .val (.int p2), .val (.int p3), .val (.long p4), .second, .val (.int p5), .unset, .unset, .unset, .unset] [(.int (3 : Int32))])) (fun t k => XT.iconstV X0.here hx rfl (3 : Int32) (hb hby at_0) rfl k) ?_
  obtain ⟨T207, h207, cA207, X207, e207, E207, A207, st207⟩ := newP X0 hx hZ (hw _ (List.mem_of_getElem? (i := 0) rfl)) e0 (g := (mkF m 1 #[.val (.long p1), .second, .val (.int p2), .val (.int p3), .val (.long p4), .second, .val (.int p5), .unset, .unset, .unset, .unset] [(.int (3 : Int32))])) rfl (hb hby at_1) rfl (by decide) (cap := 3) (by decide) (by decide) (by decide) (by decide)
  obtain ⟨a207, g207⟩ : ∃ z, z = h0.size := ⟨_, rfl⟩
  have ge207 : n0 ≤ a207 := Nat.le_trans Z0 (Nat.le_of_eq g207.symm)
  rw [← g207] at A207 st207
  have Z207 : n0 ≤ h207.size := Nat.le_trans Z0 E207.1
  have V207 : Arv Z h207 a207 cA207 .byte (3 : Int32) [(.int (0 : Int32)), (.int (0 : Int32)), (.int (0 : Int32))] (.int (0 : Int32)) := (Arv.new A207 (by decide)).pad (pad_rep [] _ 3)
  refine Gl.st (g' := (mkF m 3 #[.val (.long p1), .second, .val (.int p2), .val (.int p3), .val (.long p4), .second, .val (.int p5), .unset, .unset, .unset, .unset] [(.ref a207)])) st207 ?_
  refine Gl.st (g' := (mkF m 5 #[.val (.long p1), .second, .val (.int p2), .val (.int p3), .val (.long p4), .second, .val (.int p5), .val (.ref a207), .unset, .unset, .unset] [])) (fun t k => XS.astore X207.here hx rfl (hb hby at_3) rfl rfl (l' := #[.val (.long p1), .second, .val (.int p2), .val (.int p3), .val (.long p4), .second, .val (.int p5), .val (.ref a207), .unset, .unset, .unset]) rfl k) ?_
  obtain ⟨T208, h208, X208, e208, E208, A208, D208, -, st208⟩ := newO X207 hx hZ hown (hw _ (List.mem_of_getElem? (i := 1) rfl)) (hw _ (List.mem_of_getElem? (i := 2) rfl)) (hw _ (List.mem_of_getElem? (i := 3) rfl)) e207 (g := (mkF m 5 #[.val (.long p1), .second, .val (.int p2), .val (.int p3), .val (.long p4), .second, .val (.int p5), .val (.ref a207), .unset, .unset, .unset] [])) rfl (hb hby at_5) (by decide) (by decide)
  obtain ⟨a208, g208⟩ : ∃ z, z = h207.size := ⟨_, rfl⟩
  have ge208 : n0 ≤ a208 := Nat.le_trans Z207 (Nat.le_of_eq g208.symm)
  have ne_a207_208 : a207 ≠ a208 := fun q => absurd (g208 ▸ q ▸ (V207.lt : a207 < h207.size)) (Nat.lt_irrefl _)
  rw [← g208] at A208 D208 st208
  have Z208 : n0 ≤ h208.size := Nat.le_trans Z207 E208.1
  have F209 : Fld Z h208 a208 "com/example/bristlecone/bristlecone/HashBatch" "input" "[B" .null := (D208 (Or.inl (hw _ (List.mem_of_getElem? (i := 12) rfl))) (ty := (.array .byte)) (by decide))
  have F210 : Fld Z h208 a208 "com/example/bristlecone/bristlecone/HashBatch" "ends" "[I" .null := (D208 (Or.inr (hw _ (List.mem_of_getElem? (i := 15) rfl))) (ty := (.array .int)) (by decide))
  have F211 : Fld Z h208 a208 "com/example/bristlecone/bristlecone/HashBatch" "nodes" "[B" .null := (D208 (Or.inl (hw _ (List.mem_of_getElem? (i := 17) rfl))) (ty := (.array .byte)) (by decide))
  have F212 : Fld Z h208 a208 "com/example/bristlecone/bristlecone/HashBatch" "heightOffsets" "[I" .null := (D208 (Or.inr (hw _ (List.mem_of_getElem? (i := 19) rfl))) (ty := (.array .int)) (by decide))
  have F213 : Fld Z h208 a208 "com/example/bristlecone/bristlecone/HashBatch" "count" "I" (.int (0 : Int32)) := (D208 (Or.inl (hw _ (List.mem_of_getElem? (i := 26) rfl))) (ty := .int) (by decide))
  have F214 : Fld Z h208 a208 "com/example/bristlecone/bristlecone/HashBatch" "length" "I" (.int (0 : Int32)) := (D208 (Or.inl (hw _ (List.mem_of_getElem? (i := 38) rfl))) (ty := .int) (by decide))
  have F215 : Fld Z h208 a208 "com/example/bristlecone/bristlecone/HashBatch" "start" "J" (.long (0 : Int64)) := (D208 (Or.inl (hw _ (List.mem_of_getElem? (i := 51) rfl))) (ty := .long) (by decide))
  have F216 : Fld Z h208 a208 "com/example/bristlecone/bristlecone/HashBatch" "heights" "I" (.int (0 : Int32)) := (D208 (Or.inl (hw _ (List.mem_of_getElem? (i := 53) rfl))) (ty := .int) (by decide))
  have V217 : Arv Z h208 a207 cA207 .byte (3 : Int32) [(.int (0 : Int32)), (.int (0 : Int32)), (.int (0 : Int32))] (.int (0 : Int32)) := (V207.ext E208)
  refine Gl.st (g' := (mkF m 8 #[.val (.long p1), .second, .val (.int p2), .val (.int p3), .val (.long p4), .second, .val (.int p5), .val (.ref a207), .unset, .unset, .unset] [(.ref a208)])) st208 ?_
  refine Gl.st (g' := (mkF m 9 #[.val (.long p1), .second, .val (.int p2), .val (.int p3), .val (.long p4), .second, .val (.int p5), .val (.ref a207), .unset, .unset, .unset] [(.ref a208), (.ref a208)])) (fun t k => XS.dup X208.here hx rfl (hb hby at_8) rfl rfl k) ?_
  obtain ⟨_, _, ⟨T218, L218, k218, n218⟩, -, X218, ⟨Lc218, hQ218, l218, y218, z218⟩, st218⟩ := X208.specialBack hx (y := (⟨"com/example/bristlecone/bristlecone/HashBatch", "<init>", "()V"⟩ : MethodName)) rfl hown (mvT hZ (hw _ (List.mem_of_getElem? (i := 4) rfl))) (mvT hZ (hw _ (List.mem_of_getElem? (i := 5) rfl))) (mvT hZ (hw _ (List.mem_of_getElem? (i := 6) rfl))) (by decide) (backOf (W := 1) (rm1 l Z a0 hw a208 a207 cA207 (3 : Int32) [(.int (0 : Int32)), (.int (0 : Int32)), (.int (0 : Int32))] h208 n0 Z208 A208 ge208 V217 ne_a207_208 F209 F210 F211 F212 F213 F214 F215 F216) hZ (hw _ (List.mem_of_getElem? (i := 6) rfl)) (hw _ (List.mem_of_getElem? (i := 3) rfl)) (by decide) (by decide)) (g := (mkF m 9 #[.val (.long p1), .second, .val (.int p2), .val (.int p3), .val (.long p4), .second, .val (.int p5), .val (.ref a207), .unset, .unset, .unset] [(.ref a208), (.ref a208)])) rfl (by rw [hml]; rfl) (Steps.refl _) (a := a208) (argsL := []) (rest := [(.ref a208)]) (lenOf pd_1 rfl) rfl (by show 2 * 0 + _ ≤ _; exact Nat.le_of_eq rfl) (hb hby at_9) (fun _ _ => ⟨rfl, e208, (by decide : 0 + 1 + 1 + 4 ≤ _), (by decide : 0 + 3 + 8 + 81984 ≤ _)⟩)
  dsimp only [Pt.U, Pt.locs, Pt.cells, Pt.slots] at X218 l218 y218 z218 st218 hQ218
  subst l218 y218 z218
  obtain ⟨rfl, Nq218, H218⟩ := hQ218
  have N218 := Fr.app N0 Nq218
  have e218 : T218.heap = T218.heap := rfl
  refine Gl.st (g' := (mkF m 12 #[.val (.long p1), .second, .val (.int p2), .val (.int p3), .val (.long p4), .second, .val (.int p5), .val (.ref a207), .unset, .unset, .unset] [(.ref a208)])) (fun t k => st218.trans k) ?_
  refine Gl.st (g' := (mkF m 14 #[.val (.long p1), .second, .val (.int p2), .val (.int p3), .val (.long p4), .second, .val (.int p5), .val (.ref a207), .val (.ref a208), .unset, .unset] [])) (fun t k => XS.astore X218.here hx rfl (hb hby at_12) rfl rfl (l' := #[.val (.long p1), .second, .val (.int p2), .val (.int p3), .val (.long p4), .second, .val (.int p5), .val (.ref a207), .val (.ref a208), .unset, .unset]) rfl k) ?_
  refine Gl.st (g' := (mkF m 16 #[.val (.long p1), .second, .val (.int p2), .val (.int p3), .val (.long p4), .second, .val (.int p5), .val (.ref a207), .val (.ref a208), .unset, .unset] [(.ref a208)])) (fun t k => XS.aload X218.here hx rfl (hb hby at_14) rfl rfl k) ?_
  obtain ⟨cq219, kq219, qa219, qb219, qc219⟩ := isOf hZ e218 H218.exa
  obtain ⟨_, _, ⟨T219, L219, k219, n219⟩, -, X219, ⟨Lc219, hQ219, l219, y219, z219⟩, st219⟩ := X218.virtualBack hx (y := (⟨"com/example/bristlecone/bristlecone/HashBatch", "isEmpty", "()Z"⟩ : MethodName)) (z := (⟨"com/example/bristlecone/bristlecone/HashBatch", "isEmpty", "()Z"⟩ : MethodName)) hown (mvT hZ (hw _ (List.mem_of_getElem? (i := 20) rfl))) (mvT hZ (hw _ (List.mem_of_getElem? (i := 21) rfl))) (notFace_of_selects (args := #[]) (mvT hZ (hw _ (List.mem_of_getElem? (i := 23) rfl)))) (mvT hZ (hw _ (List.mem_of_getElem? (i := 23) rfl))) (mvT hZ (hw _ (List.mem_of_getElem? (i := 22) rfl))) (by decide) (backOf (W := 0) (rm4 l Z a0 hw a208 a207 cA207 (3 : Int32) (0 : Int32) (0 : Int32) T218.heap n0 H218.1 H218) hZ (hw _ (List.mem_of_getElem? (i := 24) rfl)) (hw _ (List.mem_of_getElem? (i := 3) rfl)) (by decide) (by decide)) qa219 qc219 (g := (mkF m 16 #[.val (.long p1), .second, .val (.int p2), .val (.int p3), .val (.long p4), .second, .val (.int p5), .val (.ref a207), .val (.ref a208), .unset, .unset] [(.ref a208)])) rfl (by rw [hml]; rfl) (Steps.refl _) (argsL := []) (rest := []) (lenOf pd_3 rfl) rfl (by show 2 * 0 + _ ≤ _; exact Nat.le_of_eq rfl) (hb hby at_16) (fun _ _ => ⟨rfl, e218, (by decide : 0 + 1 + 1 + 4 + 0 ≤ _), (by decide : 0 + 3 + 8 + 81984 + 0 ≤ _)⟩)
  dsimp only [Pt.U, Pt.locs, Pt.cells, Pt.slots] at X219 l219 y219 z219 st219 hQ219
  subst l219 y219 z219
  obtain ⟨rfl, Nq219, e219⟩ := hQ219
  have N219 := Fr.app N218 Nq219
  have H219 := H218
  rw [← e219] at H219
  refine Gl.st (g' := (mkF m 19 #[.val (.long p1), .second, .val (.int p2), .val (.int p3), .val (.long p4), .second, .val (.int p5), .val (.ref a207), .val (.ref a208), .unset, .unset] [(.int (own_em (0 : Int32)))])) (fun t k => st219.trans k) ?_
  rw [own_em0]
  refine Gl.st (g' := (mkF m 21 #[.val (.long p1), .second, .val (.int p2), .val (.int p3), .val (.long p4), .second, .val (.int p5), .val (.ref a207), .val (.ref a208), .val (.int (1 : Int32)), .unset] [])) (fun t k => XS.istore X219.here hx rfl (hb hby at_19) rfl (l' := #[.val (.long p1), .second, .val (.int p2), .val (.int p3), .val (.long p4), .second, .val (.int p5), .val (.ref a207), .val (.ref a208), .val (.int (1 : Int32)), .unset]) rfl k) ?_
  refine Gl.st (g' := (mkF m 23 #[.val (.long p1), .second, .val (.int p2), .val (.int p3), .val (.long p4), .second, .val (.int p5), .val (.ref a207), .val (.ref a208), .val (.int (1 : Int32)), .unset] [(.int p5)])) (fun t k => XS.iload X219.here hx rfl (hb hby at_21) rfl k) ?_
  refine Gl.st (g' := (mkF m 24 #[.val (.long p1), .second, .val (.int p2), .val (.int p3), .val (.long p4), .second, .val (.int p5), .val (.ref a207), .val (.ref a208), .val (.int (1 : Int32)), .unset] [(.int (1 : Int32)), (.int p5)])) (fun t k => XT.iconstV X219.here hx rfl (1 : Int32) (hb hby at_23) rfl k) ?_
  refine Gl.st (g' := (mkF m 25 #[.val (.long p1), .second, .val (.int p2), .val (.int p3), .val (.long p4), .second, .val (.int p5), .val (.ref a207), .val (.ref a208), .val (.int (1 : Int32)), .unset] [(.int (p5 &&& (1 : Int32)))])) (fun t k => XS.iand X219.here hx rfl (hb hby at_24) rfl k) ?_
  have j58 : ∀ (Tj58 : State) (locsj58 : List Loc) (Xj58 : Stand p l e room_1 s m #[(.long p1), (.int p2), (.int p3), (.long p4), (.int p5)] below meth c Tj58 locsj58 6 81995) (Nj58 : Fr n0 locsj58) (Hj58 : HB Z n0 a208 a207 cA207 (3 : Int32) Tj58.heap (0 : Int32) (0 : Int32)), Gl p e below s (Q0 Z p1 p2 p3 p4 p5  h0 n0) 24 164096 Tj58 (mkF m 58 #[.val (.long p1), .second, .val (.int p2), .val (.int p3), .val (.long p4), .second, .val (.int p5), .val (.ref a207), .val (.ref a208), .val (.int (1 : Int32)), .unset] []) := by
    intro Tj58 locsj58 Xj58 Nj58 Hj58
    refine Gl.st (g' := (mkF m 59 #[.val (.long p1), .second, .val (.int p2), .val (.int p3), .val (.long p4), .second, .val (.int p5), .val (.ref a207), .val (.ref a208), .val (.int (1 : Int32)), .unset] [(.int p2)])) (fun t k => XS.iloadN Xj58.here hx rfl (hb hby at_58) rfl k) ?_
    refine Gl.st (g' := (mkF m 60 #[.val (.long p1), .second, .val (.int p2), .val (.int p3), .val (.long p4), .second, .val (.int p5), .val (.ref a207), .val (.ref a208), .val (.int (1 : Int32)), .unset] [(.int (3 : Int32)), (.int p2)])) (fun t k => XT.iconstV Xj58.here hx rfl (3 : Int32) (hb hby at_59) rfl k) ?_
    refine Gl.st (g' := (mkF m 61 #[.val (.long p1), .second, .val (.int p2), .val (.int p3), .val (.long p4), .second, .val (.int p5), .val (.ref a207), .val (.ref a208), .val (.int (1 : Int32)), .unset] [(.int (p2 &&& (3 : Int32)))])) (fun t k => XS.iand Xj58.here hx rfl (hb hby at_60) rfl k) ?_
    generalize hv220 : (p2 &&& (3 : Int32)) = v220
    refine Gl.st (g' := (mkF m 63 #[.val (.long p1), .second, .val (.int p2), .val (.int p3), .val (.long p4), .second, .val (.int p5), .val (.ref a207), .val (.ref a208), .val (.int (1 : Int32)), .val (.int v220)] [])) (fun t k => XS.istore Xj58.here hx rfl (hb hby at_61) rfl (l' := #[.val (.long p1), .second, .val (.int p2), .val (.int p3), .val (.long p4), .second, .val (.int p5), .val (.ref a207), .val (.ref a208), .val (.int (1 : Int32)), .val (.int v220)]) rfl k) ?_
    have hK := own_n3 hv220
    have j117 : ∀ (Tj117 : State) (locsj117 : List Loc) (Xj117 : Stand p l e room_1 s m #[(.long p1), (.int p2), (.int p3), (.long p4), (.int p5)] below meth c Tj117 locsj117 6 81995) (Nj117 : Fr n0 locsj117) (cnt len : Int32) (hcnt : cnt = v220) (Hj117 : HB Z n0 a208 a207 cA207 (3 : Int32) Tj117.heap cnt len), Gl p e below s (Q0 Z p1 p2 p3 p4 p5  h0 n0) 24 164096 Tj117 (mkF m 117 #[.val (.long p1), .second, .val (.int p2), .val (.int p3), .val (.long p4), .second, .val (.int p5), .val (.ref a207), .val (.ref a208), .val (.int (1 : Int32)), .val (.int v220)] []) := by
      intro Tj117 locsj117 Xj117 Nj117 cnt len hcnt Hj117
      refine Gl.st (g' := (mkF m 119 #[.val (.long p1), .second, .val (.int p2), .val (.int p3), .val (.long p4), .second, .val (.int p5), .val (.ref a207), .val (.ref a208), .val (.int (1 : Int32)), .val (.int v220)] [(.int (1 : Int32))])) (fun t k => XS.iload Xj117.here hx rfl (hb hby at_117) rfl k) ?_
      refine Gl.st (g' := (mkF m 122 #[.val (.long p1), .second, .val (.int p2), .val (.int p3), .val (.long p4), .second, .val (.int p5), .val (.ref a207), .val (.ref a208), .val (.int (1 : Int32)), .val (.int v220)] [])) (fun t k => XS.ifNo Xj117.here hx rfl (hb hby at_119) rfl (XT.i0_eq_f (by decide)) k) ?_
      refine Gl.st (g' := (mkF m 124 #[.val (.long p1), .second, .val (.int p2), .val (.int p3), .val (.long p4), .second, .val (.int p5), .val (.ref a207), .val (.ref a208), .val (.int (1 : Int32)), .val (.int v220)] [(.ref a208)])) (fun t k => XS.aload Xj117.here hx rfl (hb hby at_122) rfl rfl k) ?_
      obtain ⟨cq221, kq221, qa221, qb221, qc221⟩ := isOf hZ (rfl : Tj117.heap = _) Hj117.exa
      obtain ⟨_, _, ⟨T221, L221, k221, n221⟩, -, X221, ⟨Lc221, hQ221, l221, y221, z221⟩, st221⟩ := Xj117.virtualBack hx (y := (⟨"com/example/bristlecone/bristlecone/HashBatch", "isEmpty", "()Z"⟩ : MethodName)) (z := (⟨"com/example/bristlecone/bristlecone/HashBatch", "isEmpty", "()Z"⟩ : MethodName)) hown (mvT hZ (hw _ (List.mem_of_getElem? (i := 20) rfl))) (mvT hZ (hw _ (List.mem_of_getElem? (i := 21) rfl))) (notFace_of_selects (args := #[]) (mvT hZ (hw _ (List.mem_of_getElem? (i := 23) rfl)))) (mvT hZ (hw _ (List.mem_of_getElem? (i := 23) rfl))) (mvT hZ (hw _ (List.mem_of_getElem? (i := 22) rfl))) (by decide) (backOf (W := 0) (rm4 l Z a0 hw a208 a207 cA207 (3 : Int32) cnt len Tj117.heap n0 Hj117.1 Hj117) hZ (hw _ (List.mem_of_getElem? (i := 24) rfl)) (hw _ (List.mem_of_getElem? (i := 3) rfl)) (by decide) (by decide)) qa221 qc221 (g := (mkF m 124 #[.val (.long p1), .second, .val (.int p2), .val (.int p3), .val (.long p4), .second, .val (.int p5), .val (.ref a207), .val (.ref a208), .val (.int (1 : Int32)), .val (.int v220)] [(.ref a208)])) rfl (by rw [hml]; rfl) (Steps.refl _) (argsL := []) (rest := []) (lenOf pd_3 rfl) rfl (by show 2 * 0 + _ ≤ _; exact Nat.le_of_eq rfl) (hb hby at_124) (fun _ _ => ⟨rfl, (rfl : Tj117.heap = _), (by decide : 6 + 0 ≤ _), (by decide : 81995 + 0 ≤ _)⟩)
      dsimp only [Pt.U, Pt.locs, Pt.cells, Pt.slots] at X221 l221 y221 z221 st221 hQ221
      subst l221 y221 z221
      obtain ⟨rfl, Nq221, e221⟩ := hQ221
      have N221 := Fr.app Nj117 Nq221
      have H221 := Hj117
      rw [← e221] at H221
      refine Gl.st (g' := (mkF m 127 #[.val (.long p1), .second, .val (.int p2), .val (.int p3), .val (.long p4), .second, .val (.int p5), .val (.ref a207), .val (.ref a208), .val (.int (1 : Int32)), .val (.int v220)] [(.int (own_em cnt))])) (fun t k => st221.trans k) ?_
      refine Gl.st (g' := (mkF m 129 #[.val (.long p1), .second, .val (.int p2), .val (.int p3), .val (.long p4), .second, .val (.int p5), .val (.ref a207), .val (.ref a208), .val (.int (1 : Int32)), .val (.int v220)] [(.int v220), (.int (own_em cnt))])) (fun t k => XS.iload X221.here hx rfl (hb hby at_127) rfl k) ?_
      by_cases c222 : v220 = (0 : Int32)
      · skip
        refine Gl.st (g' := (mkF m 132 #[.val (.long p1), .second, .val (.int p2), .val (.int p3), .val (.long p4), .second, .val (.int p5), .val (.ref a207), .val (.ref a208), .val (.int (1 : Int32)), .val (.int v220)] [(.int (own_em cnt))])) (fun t k => XS.ifNo X221.here hx rfl (hb hby at_129) rfl (XT.i0_ne_f c222) k) ?_
        refine Gl.st (g' := (mkF m 133 #[.val (.long p1), .second, .val (.int p2), .val (.int p3), .val (.long p4), .second, .val (.int p5), .val (.ref a207), .val (.ref a208), .val (.int (1 : Int32)), .val (.int v220)] [(.int (1 : Int32)), (.int (own_em cnt))])) (fun t k => XT.iconstV X221.here hx rfl (1 : Int32) (hb hby at_132) rfl k) ?_
        refine Gl.st (g' := (mkF m 137 #[.val (.long p1), .second, .val (.int p2), .val (.int p3), .val (.long p4), .second, .val (.int p5), .val (.ref a207), .val (.ref a208), .val (.int (1 : Int32)), .val (.int v220)] [(.int (1 : Int32)), (.int (own_em cnt))])) (fun t k => XS.goto X221.here hx rfl (pc0 := 133) (pc' := 137) rfl (hb hby at_133) (by decide) (by decide) k) ?_
        refine Gl.st (g' := (mkF m 140 #[.val (.long p1), .second, .val (.int p2), .val (.int p3), .val (.long p4), .second, .val (.int p5), .val (.ref a207), .val (.ref a208), .val (.int (1 : Int32)), .val (.int v220)] [])) (fun t k => XS.icmpNo X221.here hx rfl (hb hby at_137) rfl (XT.ii_ne_f (by rw [hcnt]; unfold own_em; rw [if_pos c222])) k) ?_
        refine Gl.st (g' := (mkF m 141 #[.val (.long p1), .second, .val (.int p2), .val (.int p3), .val (.long p4), .second, .val (.int p5), .val (.ref a207), .val (.ref a208), .val (.int (1 : Int32)), .val (.int v220)] [(.int (1 : Int32))])) (fun t k => XT.iconstV X221.here hx rfl (1 : Int32) (hb hby at_140) rfl k) ?_
        refine Gl.st (g' := (mkF m 145 #[.val (.long p1), .second, .val (.int p2), .val (.int p3), .val (.long p4), .second, .val (.int p5), .val (.ref a207), .val (.ref a208), .val (.int (1 : Int32)), .val (.int v220)] [(.int (1 : Int32))])) (fun t k => XS.goto X221.here hx rfl (pc0 := 141) (pc' := 145) rfl (hb hby at_141) (by decide) (by decide) k) ?_
        refine Gl.st (g' := (mkF m 147 #[.val (.long p1), .second, .val (.int p2), .val (.int p3), .val (.long p4), .second, .val (.int p5), .val (.ref a207), .val (.ref a208), .val (.int (1 : Int32)), .val (.int v220)] [])) (fun t k => XS.istore X221.here hx rfl (hb hby at_145) rfl (l' := #[.val (.long p1), .second, .val (.int p2), .val (.int p3), .val (.long p4), .second, .val (.int p5), .val (.ref a207), .val (.ref a208), .val (.int (1 : Int32)), .val (.int v220)]) rfl k) ?_
        refine Gl.st (g' := (mkF m 149 #[.val (.long p1), .second, .val (.int p2), .val (.int p3), .val (.long p4), .second, .val (.int p5), .val (.ref a207), .val (.ref a208), .val (.int (1 : Int32)), .val (.int v220)] [(.int p5)])) (fun t k => XS.iload X221.here hx rfl (hb hby at_147) rfl k) ?_
        refine Gl.st (g' := (mkF m 150 #[.val (.long p1), .second, .val (.int p2), .val (.int p3), .val (.long p4), .second, .val (.int p5), .val (.ref a207), .val (.ref a208), .val (.int (1 : Int32)), .val (.int v220)] [(.int (2 : Int32)), (.int p5)])) (fun t k => XT.iconstV X221.here hx rfl (2 : Int32) (hb hby at_149) rfl k) ?_
        refine Gl.st (g' := (mkF m 151 #[.val (.long p1), .second, .val (.int p2), .val (.int p3), .val (.long p4), .second, .val (.int p5), .val (.ref a207), .val (.ref a208), .val (.int (1 : Int32)), .val (.int v220)] [(.int (p5 &&& (2 : Int32)))])) (fun t k => XS.iand X221.here hx rfl (hb hby at_150) rfl k) ?_
        by_cases c223 : (p5 &&& (2 : Int32)) = (0 : Int32)
        · skip
          refine Gl.st (g' := (mkF m 185 #[.val (.long p1), .second, .val (.int p2), .val (.int p3), .val (.long p4), .second, .val (.int p5), .val (.ref a207), .val (.ref a208), .val (.int (1 : Int32)), .val (.int v220)] [])) (fun t k => XS.ifYes X221.here hx rfl (pc0 := 151) (pc' := 185) rfl (hb hby at_151) rfl (XT.i0_eq_t c223) (by decide) (by decide) k) ?_
          refine Gl.st (g' := (mkF m 187 #[.val (.long p1), .second, .val (.int p2), .val (.int p3), .val (.long p4), .second, .val (.int p5), .val (.ref a207), .val (.ref a208), .val (.int (1 : Int32)), .val (.int v220)] [(.int (1 : Int32))])) (fun t k => XS.iload X221.here hx rfl (hb hby at_185) rfl k) ?_
          refine Gl.retZ X221 hx hlk .boolean (by simp) Bd.returns (hb hby at_187) (rfl : T221.heap = _) (by decide) (by decide) ?_
          rw [Q0, own_z1]
          exact ⟨rfl, N221⟩
        · skip
          refine Gl.st (g' := (mkF m 154 #[.val (.long p1), .second, .val (.int p2), .val (.int p3), .val (.long p4), .second, .val (.int p5), .val (.ref a207), .val (.ref a208), .val (.int (1 : Int32)), .val (.int v220)] [])) (fun t k => XS.ifNo X221.here hx rfl (hb hby at_151) rfl (XT.i0_eq_f c223) k) ?_
          refine Gl.st (g' := (mkF m 156 #[.val (.long p1), .second, .val (.int p2), .val (.int p3), .val (.long p4), .second, .val (.int p5), .val (.ref a207), .val (.ref a208), .val (.int (1 : Int32)), .val (.int v220)] [(.ref a208)])) (fun t k => XS.aload X221.here hx rfl (hb hby at_154) rfl rfl k) ?_
          refine Gl.st (g' := (mkF m 158 #[.val (.long p1), .second, .val (.int p2), .val (.int p3), .val (.long p4), .second, .val (.int p5), .val (.ref a207), .val (.ref a208), .val (.int (1 : Int32)), .val (.int v220)] [(.long p4), (.ref a208)])) (fun t k => XS.lload X221.here hx rfl (hb hby at_156) rfl k) ?_
          refine Gl.st (g' := (mkF m 161 #[.val (.long p1), .second, .val (.int p2), .val (.int p3), .val (.long p4), .second, .val (.int p5), .val (.ref a207), .val (.ref a208), .val (.int (1 : Int32)), .val (.int v220)] [(.long (9223372036854775807 : Int64)), (.long p4), (.ref a208)])) (fun t k => X221.ldc2J hx hown (mvT hZ (hw _ (List.mem_of_getElem? (i := 44) rfl))) rfl (hb hby at_158) k) ?_
          refine Gl.st (g' := (mkF m 162 #[.val (.long p1), .second, .val (.int p2), .val (.int p3), .val (.long p4), .second, .val (.int p5), .val (.ref a207), .val (.ref a208), .val (.int (1 : Int32)), .val (.int v220)] [(.long (p4 &&& (9223372036854775807 : Int64))), (.ref a208)])) (fun t k => XS.land X221.here hx rfl (hb hby at_161) rfl k) ?_
          obtain ⟨cq224, kq224, qa224, qb224, qc224⟩ := isOf hZ (rfl : T221.heap = _) H221.exa
          obtain ⟨_, _, ⟨T224, L224, k224, n224⟩, -, X224, ⟨Lc224, hQ224, l224, y224, z224⟩, st224⟩ := X221.virtualBack hx (y := (⟨"com/example/bristlecone/bristlecone/HashBatch", "restart", "(J)V"⟩ : MethodName)) (z := (⟨"com/example/bristlecone/bristlecone/HashBatch", "restart", "(J)V"⟩ : MethodName)) hown (mvT hZ (hw _ (List.mem_of_getElem? (i := 45) rfl))) (mvT hZ (hw _ (List.mem_of_getElem? (i := 46) rfl))) (notFace_of_selects (args := #[]) (mvT hZ (hw _ (List.mem_of_getElem? (i := 48) rfl)))) (mvT hZ (hw _ (List.mem_of_getElem? (i := 48) rfl))) (mvT hZ (hw _ (List.mem_of_getElem? (i := 47) rfl))) (by decide) (backOf (W := 0) (rm5 l Z a0 hw a208 (p4 &&& (9223372036854775807 : Int64)) a207 cA207 (3 : Int32) cnt len T221.heap n0 H221.1 H221 (own_mx _)) hZ (hw _ (List.mem_of_getElem? (i := 49) rfl)) (hw _ (List.mem_of_getElem? (i := 3) rfl)) (by decide) (by decide)) qa224 qc224 (g := (mkF m 162 #[.val (.long p1), .second, .val (.int p2), .val (.int p3), .val (.long p4), .second, .val (.int p5), .val (.ref a207), .val (.ref a208), .val (.int (1 : Int32)), .val (.int v220)] [(.long (p4 &&& (9223372036854775807 : Int64))), (.ref a208)])) rfl (by rw [hml]; rfl) (Steps.refl _) (argsL := [(.long (p4 &&& (9223372036854775807 : Int64)))]) (rest := []) (lenOf pd_4 rfl) rfl (by show 2 * 0 + _ ≤ _; exact Nat.le_of_eq rfl) (hb hby at_162) (fun _ _ => ⟨rfl, (rfl : T221.heap = _), (by decide : 6 + 0 + 0 ≤ _), (by decide : 81995 + 0 + 0 ≤ _)⟩)
          dsimp only [Pt.U, Pt.locs, Pt.cells, Pt.slots] at X224 l224 y224 z224 st224 hQ224
          subst l224 y224 z224
          obtain ⟨rfl, Nq224, H224⟩ := hQ224
          have N224 := Fr.app N221 Nq224
          have e224 : T224.heap = T224.heap := rfl
          refine Gl.st (g' := (mkF m 165 #[.val (.long p1), .second, .val (.int p2), .val (.int p3), .val (.long p4), .second, .val (.int p5), .val (.ref a207), .val (.ref a208), .val (.int (1 : Int32)), .val (.int v220)] [])) (fun t k => st224.trans k) ?_
          refine Gl.st (g' := (mkF m 167 #[.val (.long p1), .second, .val (.int p2), .val (.int p3), .val (.long p4), .second, .val (.int p5), .val (.ref a207), .val (.ref a208), .val (.int (1 : Int32)), .val (.int v220)] [(.int (1 : Int32))])) (fun t k => XS.iload X224.here hx rfl (hb hby at_165) rfl k) ?_
          refine Gl.st (g' := (mkF m 170 #[.val (.long p1), .second, .val (.int p2), .val (.int p3), .val (.long p4), .second, .val (.int p5), .val (.ref a207), .val (.ref a208), .val (.int (1 : Int32)), .val (.int v220)] [])) (fun t k => XS.ifNo X224.here hx rfl (hb hby at_167) rfl (XT.i0_eq_f (by decide)) k) ?_
          refine Gl.st (g' := (mkF m 172 #[.val (.long p1), .second, .val (.int p2), .val (.int p3), .val (.long p4), .second, .val (.int p5), .val (.ref a207), .val (.ref a208), .val (.int (1 : Int32)), .val (.int v220)] [(.ref a208)])) (fun t k => XS.aload X224.here hx rfl (hb hby at_170) rfl rfl k) ?_
          obtain ⟨cq225, kq225, qa225, qb225, qc225⟩ := isOf hZ e224 H224.exa
          obtain ⟨_, _, ⟨T225, L225, k225, n225⟩, -, X225, ⟨Lc225, hQ225, l225, y225, z225⟩, st225⟩ := X224.virtualBack hx (y := (⟨"com/example/bristlecone/bristlecone/HashBatch", "isEmpty", "()Z"⟩ : MethodName)) (z := (⟨"com/example/bristlecone/bristlecone/HashBatch", "isEmpty", "()Z"⟩ : MethodName)) hown (mvT hZ (hw _ (List.mem_of_getElem? (i := 20) rfl))) (mvT hZ (hw _ (List.mem_of_getElem? (i := 21) rfl))) (notFace_of_selects (args := #[]) (mvT hZ (hw _ (List.mem_of_getElem? (i := 23) rfl)))) (mvT hZ (hw _ (List.mem_of_getElem? (i := 23) rfl))) (mvT hZ (hw _ (List.mem_of_getElem? (i := 22) rfl))) (by decide) (backOf (W := 0) (rm4 l Z a0 hw a208 a207 cA207 (3 : Int32) (0 : Int32) (0 : Int32) T224.heap n0 H224.1 H224) hZ (hw _ (List.mem_of_getElem? (i := 24) rfl)) (hw _ (List.mem_of_getElem? (i := 3) rfl)) (by decide) (by decide)) qa225 qc225 (g := (mkF m 172 #[.val (.long p1), .second, .val (.int p2), .val (.int p3), .val (.long p4), .second, .val (.int p5), .val (.ref a207), .val (.ref a208), .val (.int (1 : Int32)), .val (.int v220)] [(.ref a208)])) rfl (by rw [hml]; rfl) (Steps.refl _) (argsL := []) (rest := []) (lenOf pd_3 rfl) rfl (by show 2 * 0 + _ ≤ _; exact Nat.le_of_eq rfl) (hb hby at_172) (fun _ _ => ⟨rfl, e224, (by decide : 6 + 0 + 0 + 0 ≤ _), (by decide : 81995 + 0 + 0 + 0 ≤ _)⟩)
          dsimp only [Pt.U, Pt.locs, Pt.cells, Pt.slots] at X225 l225 y225 z225 st225 hQ225
          subst l225 y225 z225
          obtain ⟨rfl, Nq225, e225⟩ := hQ225
          have N225 := Fr.app N224 Nq225
          have H225 := H224
          rw [← e225] at H225
          refine Gl.st (g' := (mkF m 175 #[.val (.long p1), .second, .val (.int p2), .val (.int p3), .val (.long p4), .second, .val (.int p5), .val (.ref a207), .val (.ref a208), .val (.int (1 : Int32)), .val (.int v220)] [(.int (own_em (0 : Int32)))])) (fun t k => st225.trans k) ?_
          refine Gl.st (g' := (mkF m 178 #[.val (.long p1), .second, .val (.int p2), .val (.int p3), .val (.long p4), .second, .val (.int p5), .val (.ref a207), .val (.ref a208), .val (.int (1 : Int32)), .val (.int v220)] [])) (fun t k => XS.ifNo X225.here hx rfl (hb hby at_175) rfl (XT.i0_eq_f (by decide)) k) ?_
          refine Gl.st (g' := (mkF m 179 #[.val (.long p1), .second, .val (.int p2), .val (.int p3), .val (.long p4), .second, .val (.int p5), .val (.ref a207), .val (.ref a208), .val (.int (1 : Int32)), .val (.int v220)] [(.int (1 : Int32))])) (fun t k => XT.iconstV X225.here hx rfl (1 : Int32) (hb hby at_178) rfl k) ?_
          refine Gl.st (g' := (mkF m 183 #[.val (.long p1), .second, .val (.int p2), .val (.int p3), .val (.long p4), .second, .val (.int p5), .val (.ref a207), .val (.ref a208), .val (.int (1 : Int32)), .val (.int v220)] [(.int (1 : Int32))])) (fun t k => XS.goto X225.here hx rfl (pc0 := 179) (pc' := 183) rfl (hb hby at_179) (by decide) (by decide) k) ?_
          refine Gl.st (g' := (mkF m 185 #[.val (.long p1), .second, .val (.int p2), .val (.int p3), .val (.long p4), .second, .val (.int p5), .val (.ref a207), .val (.ref a208), .val (.int (1 : Int32)), .val (.int v220)] [])) (fun t k => XS.istore X225.here hx rfl (hb hby at_183) rfl (l' := #[.val (.long p1), .second, .val (.int p2), .val (.int p3), .val (.long p4), .second, .val (.int p5), .val (.ref a207), .val (.ref a208), .val (.int (1 : Int32)), .val (.int v220)]) rfl k) ?_
          refine Gl.st (g' := (mkF m 187 #[.val (.long p1), .second, .val (.int p2), .val (.int p3), .val (.long p4), .second, .val (.int p5), .val (.ref a207), .val (.ref a208), .val (.int (1 : Int32)), .val (.int v220)] [(.int (1 : Int32))])) (fun t k => XS.iload X225.here hx rfl (hb hby at_185) rfl k) ?_
          refine Gl.retZ X225 hx hlk .boolean (by simp) Bd.returns (hb hby at_187) (rfl : T225.heap = _) (by decide) (by decide) ?_
          rw [Q0, own_z1]
          exact ⟨rfl, N225⟩
      · skip
        refine Gl.st (g' := (mkF m 136 #[.val (.long p1), .second, .val (.int p2), .val (.int p3), .val (.long p4), .second, .val (.int p5), .val (.ref a207), .val (.ref a208), .val (.int (1 : Int32)), .val (.int v220)] [(.int (own_em cnt))])) (fun t k => XS.ifYes X221.here hx rfl (pc0 := 129) (pc' := 136) rfl (hb hby at_129) rfl (XT.i0_ne_t c222) (by decide) (by decide) k) ?_
        refine Gl.st (g' := (mkF m 137 #[.val (.long p1), .second, .val (.int p2), .val (.int p3), .val (.long p4), .second, .val (.int p5), .val (.ref a207), .val (.ref a208), .val (.int (1 : Int32)), .val (.int v220)] [(.int (0 : Int32)), (.int (own_em cnt))])) (fun t k => XT.iconstV X221.here hx rfl (0 : Int32) (hb hby at_136) rfl k) ?_
        refine Gl.st (g' := (mkF m 140 #[.val (.long p1), .second, .val (.int p2), .val (.int p3), .val (.long p4), .second, .val (.int p5), .val (.ref a207), .val (.ref a208), .val (.int (1 : Int32)), .val (.int v220)] [])) (fun t k => XS.icmpNo X221.here hx rfl (hb hby at_137) rfl (XT.ii_ne_f (by rw [hcnt]; unfold own_em; rw [if_neg c222])) k) ?_
        refine Gl.st (g' := (mkF m 141 #[.val (.long p1), .second, .val (.int p2), .val (.int p3), .val (.long p4), .second, .val (.int p5), .val (.ref a207), .val (.ref a208), .val (.int (1 : Int32)), .val (.int v220)] [(.int (1 : Int32))])) (fun t k => XT.iconstV X221.here hx rfl (1 : Int32) (hb hby at_140) rfl k) ?_
        refine Gl.st (g' := (mkF m 145 #[.val (.long p1), .second, .val (.int p2), .val (.int p3), .val (.long p4), .second, .val (.int p5), .val (.ref a207), .val (.ref a208), .val (.int (1 : Int32)), .val (.int v220)] [(.int (1 : Int32))])) (fun t k => XS.goto X221.here hx rfl (pc0 := 141) (pc' := 145) rfl (hb hby at_141) (by decide) (by decide) k) ?_
        refine Gl.st (g' := (mkF m 147 #[.val (.long p1), .second, .val (.int p2), .val (.int p3), .val (.long p4), .second, .val (.int p5), .val (.ref a207), .val (.ref a208), .val (.int (1 : Int32)), .val (.int v220)] [])) (fun t k => XS.istore X221.here hx rfl (hb hby at_145) rfl (l' := #[.val (.long p1), .second, .val (.int p2), .val (.int p3), .val (.long p4), .second, .val (.int p5), .val (.ref a207), .val (.ref a208), .val (.int (1 : Int32)), .val (.int v220)]) rfl k) ?_
        refine Gl.st (g' := (mkF m 149 #[.val (.long p1), .second, .val (.int p2), .val (.int p3), .val (.long p4), .second, .val (.int p5), .val (.ref a207), .val (.ref a208), .val (.int (1 : Int32)), .val (.int v220)] [(.int p5)])) (fun t k => XS.iload X221.here hx rfl (hb hby at_147) rfl k) ?_
        refine Gl.st (g' := (mkF m 150 #[.val (.long p1), .second, .val (.int p2), .val (.int p3), .val (.long p4), .second, .val (.int p5), .val (.ref a207), .val (.ref a208), .val (.int (1 : Int32)), .val (.int v220)] [(.int (2 : Int32)), (.int p5)])) (fun t k => XT.iconstV X221.here hx rfl (2 : Int32) (hb hby at_149) rfl k) ?_
        refine Gl.st (g' := (mkF m 151 #[.val (.long p1), .second, .val (.int p2), .val (.int p3), .val (.long p4), .second, .val (.int p5), .val (.ref a207), .val (.ref a208), .val (.int (1 : Int32)), .val (.int v220)] [(.int (p5 &&& (2 : Int32)))])) (fun t k => XS.iand X221.here hx rfl (hb hby at_150) rfl k) ?_
        by_cases c226 : (p5 &&& (2 : Int32)) = (0 : Int32)
        · skip
          refine Gl.st (g' := (mkF m 185 #[.val (.long p1), .second, .val (.int p2), .val (.int p3), .val (.long p4), .second, .val (.int p5), .val (.ref a207), .val (.ref a208), .val (.int (1 : Int32)), .val (.int v220)] [])) (fun t k => XS.ifYes X221.here hx rfl (pc0 := 151) (pc' := 185) rfl (hb hby at_151) rfl (XT.i0_eq_t c226) (by decide) (by decide) k) ?_
          refine Gl.st (g' := (mkF m 187 #[.val (.long p1), .second, .val (.int p2), .val (.int p3), .val (.long p4), .second, .val (.int p5), .val (.ref a207), .val (.ref a208), .val (.int (1 : Int32)), .val (.int v220)] [(.int (1 : Int32))])) (fun t k => XS.iload X221.here hx rfl (hb hby at_185) rfl k) ?_
          refine Gl.retZ X221 hx hlk .boolean (by simp) Bd.returns (hb hby at_187) (rfl : T221.heap = _) (by decide) (by decide) ?_
          rw [Q0, own_z1]
          exact ⟨rfl, N221⟩
        · skip
          refine Gl.st (g' := (mkF m 154 #[.val (.long p1), .second, .val (.int p2), .val (.int p3), .val (.long p4), .second, .val (.int p5), .val (.ref a207), .val (.ref a208), .val (.int (1 : Int32)), .val (.int v220)] [])) (fun t k => XS.ifNo X221.here hx rfl (hb hby at_151) rfl (XT.i0_eq_f c226) k) ?_
          refine Gl.st (g' := (mkF m 156 #[.val (.long p1), .second, .val (.int p2), .val (.int p3), .val (.long p4), .second, .val (.int p5), .val (.ref a207), .val (.ref a208), .val (.int (1 : Int32)), .val (.int v220)] [(.ref a208)])) (fun t k => XS.aload X221.here hx rfl (hb hby at_154) rfl rfl k) ?_
          refine Gl.st (g' := (mkF m 158 #[.val (.long p1), .second, .val (.int p2), .val (.int p3), .val (.long p4), .second, .val (.int p5), .val (.ref a207), .val (.ref a208), .val (.int (1 : Int32)), .val (.int v220)] [(.long p4), (.ref a208)])) (fun t k => XS.lload X221.here hx rfl (hb hby at_156) rfl k) ?_
          refine Gl.st (g' := (mkF m 161 #[.val (.long p1), .second, .val (.int p2), .val (.int p3), .val (.long p4), .second, .val (.int p5), .val (.ref a207), .val (.ref a208), .val (.int (1 : Int32)), .val (.int v220)] [(.long (9223372036854775807 : Int64)), (.long p4), (.ref a208)])) (fun t k => X221.ldc2J hx hown (mvT hZ (hw _ (List.mem_of_getElem? (i := 44) rfl))) rfl (hb hby at_158) k) ?_
          refine Gl.st (g' := (mkF m 162 #[.val (.long p1), .second, .val (.int p2), .val (.int p3), .val (.long p4), .second, .val (.int p5), .val (.ref a207), .val (.ref a208), .val (.int (1 : Int32)), .val (.int v220)] [(.long (p4 &&& (9223372036854775807 : Int64))), (.ref a208)])) (fun t k => XS.land X221.here hx rfl (hb hby at_161) rfl k) ?_
          obtain ⟨cq227, kq227, qa227, qb227, qc227⟩ := isOf hZ (rfl : T221.heap = _) H221.exa
          obtain ⟨_, _, ⟨T227, L227, k227, n227⟩, -, X227, ⟨Lc227, hQ227, l227, y227, z227⟩, st227⟩ := X221.virtualBack hx (y := (⟨"com/example/bristlecone/bristlecone/HashBatch", "restart", "(J)V"⟩ : MethodName)) (z := (⟨"com/example/bristlecone/bristlecone/HashBatch", "restart", "(J)V"⟩ : MethodName)) hown (mvT hZ (hw _ (List.mem_of_getElem? (i := 45) rfl))) (mvT hZ (hw _ (List.mem_of_getElem? (i := 46) rfl))) (notFace_of_selects (args := #[]) (mvT hZ (hw _ (List.mem_of_getElem? (i := 48) rfl)))) (mvT hZ (hw _ (List.mem_of_getElem? (i := 48) rfl))) (mvT hZ (hw _ (List.mem_of_getElem? (i := 47) rfl))) (by decide) (backOf (W := 0) (rm5 l Z a0 hw a208 (p4 &&& (9223372036854775807 : Int64)) a207 cA207 (3 : Int32) cnt len T221.heap n0 H221.1 H221 (own_mx _)) hZ (hw _ (List.mem_of_getElem? (i := 49) rfl)) (hw _ (List.mem_of_getElem? (i := 3) rfl)) (by decide) (by decide)) qa227 qc227 (g := (mkF m 162 #[.val (.long p1), .second, .val (.int p2), .val (.int p3), .val (.long p4), .second, .val (.int p5), .val (.ref a207), .val (.ref a208), .val (.int (1 : Int32)), .val (.int v220)] [(.long (p4 &&& (9223372036854775807 : Int64))), (.ref a208)])) rfl (by rw [hml]; rfl) (Steps.refl _) (argsL := [(.long (p4 &&& (9223372036854775807 : Int64)))]) (rest := []) (lenOf pd_4 rfl) rfl (by show 2 * 0 + _ ≤ _; exact Nat.le_of_eq rfl) (hb hby at_162) (fun _ _ => ⟨rfl, (rfl : T221.heap = _), (by decide : 6 + 0 + 0 ≤ _), (by decide : 81995 + 0 + 0 ≤ _)⟩)
          dsimp only [Pt.U, Pt.locs, Pt.cells, Pt.slots] at X227 l227 y227 z227 st227 hQ227
          subst l227 y227 z227
          obtain ⟨rfl, Nq227, H227⟩ := hQ227
          have N227 := Fr.app N221 Nq227
          have e227 : T227.heap = T227.heap := rfl
          refine Gl.st (g' := (mkF m 165 #[.val (.long p1), .second, .val (.int p2), .val (.int p3), .val (.long p4), .second, .val (.int p5), .val (.ref a207), .val (.ref a208), .val (.int (1 : Int32)), .val (.int v220)] [])) (fun t k => st227.trans k) ?_
          refine Gl.st (g' := (mkF m 167 #[.val (.long p1), .second, .val (.int p2), .val (.int p3), .val (.long p4), .second, .val (.int p5), .val (.ref a207), .val (.ref a208), .val (.int (1 : Int32)), .val (.int v220)] [(.int (1 : Int32))])) (fun t k => XS.iload X227.here hx rfl (hb hby at_165) rfl k) ?_
          refine Gl.st (g' := (mkF m 170 #[.val (.long p1), .second, .val (.int p2), .val (.int p3), .val (.long p4), .second, .val (.int p5), .val (.ref a207), .val (.ref a208), .val (.int (1 : Int32)), .val (.int v220)] [])) (fun t k => XS.ifNo X227.here hx rfl (hb hby at_167) rfl (XT.i0_eq_f (by decide)) k) ?_
          refine Gl.st (g' := (mkF m 172 #[.val (.long p1), .second, .val (.int p2), .val (.int p3), .val (.long p4), .second, .val (.int p5), .val (.ref a207), .val (.ref a208), .val (.int (1 : Int32)), .val (.int v220)] [(.ref a208)])) (fun t k => XS.aload X227.here hx rfl (hb hby at_170) rfl rfl k) ?_
          obtain ⟨cq228, kq228, qa228, qb228, qc228⟩ := isOf hZ e227 H227.exa
          obtain ⟨_, _, ⟨T228, L228, k228, n228⟩, -, X228, ⟨Lc228, hQ228, l228, y228, z228⟩, st228⟩ := X227.virtualBack hx (y := (⟨"com/example/bristlecone/bristlecone/HashBatch", "isEmpty", "()Z"⟩ : MethodName)) (z := (⟨"com/example/bristlecone/bristlecone/HashBatch", "isEmpty", "()Z"⟩ : MethodName)) hown (mvT hZ (hw _ (List.mem_of_getElem? (i := 20) rfl))) (mvT hZ (hw _ (List.mem_of_getElem? (i := 21) rfl))) (notFace_of_selects (args := #[]) (mvT hZ (hw _ (List.mem_of_getElem? (i := 23) rfl)))) (mvT hZ (hw _ (List.mem_of_getElem? (i := 23) rfl))) (mvT hZ (hw _ (List.mem_of_getElem? (i := 22) rfl))) (by decide) (backOf (W := 0) (rm4 l Z a0 hw a208 a207 cA207 (3 : Int32) (0 : Int32) (0 : Int32) T227.heap n0 H227.1 H227) hZ (hw _ (List.mem_of_getElem? (i := 24) rfl)) (hw _ (List.mem_of_getElem? (i := 3) rfl)) (by decide) (by decide)) qa228 qc228 (g := (mkF m 172 #[.val (.long p1), .second, .val (.int p2), .val (.int p3), .val (.long p4), .second, .val (.int p5), .val (.ref a207), .val (.ref a208), .val (.int (1 : Int32)), .val (.int v220)] [(.ref a208)])) rfl (by rw [hml]; rfl) (Steps.refl _) (argsL := []) (rest := []) (lenOf pd_3 rfl) rfl (by show 2 * 0 + _ ≤ _; exact Nat.le_of_eq rfl) (hb hby at_172) (fun _ _ => ⟨rfl, e227, (by decide : 6 + 0 + 0 + 0 ≤ _), (by decide : 81995 + 0 + 0 + 0 ≤ _)⟩)
          dsimp only [Pt.U, Pt.locs, Pt.cells, Pt.slots] at X228 l228 y228 z228 st228 hQ228
          subst l228 y228 z228
          obtain ⟨rfl, Nq228, e228⟩ := hQ228
          have N228 := Fr.app N227 Nq228
          have H228 := H227
          rw [← e228] at H228
          refine Gl.st (g' := (mkF m 175 #[.val (.long p1), .second, .val (.int p2), .val (.int p3), .val (.long p4), .second, .val (.int p5), .val (.ref a207), .val (.ref a208), .val (.int (1 : Int32)), .val (.int v220)] [(.int (own_em (0 : Int32)))])) (fun t k => st228.trans k) ?_
          refine Gl.st (g' := (mkF m 178 #[.val (.long p1), .second, .val (.int p2), .val (.int p3), .val (.long p4), .second, .val (.int p5), .val (.ref a207), .val (.ref a208), .val (.int (1 : Int32)), .val (.int v220)] [])) (fun t k => XS.ifNo X228.here hx rfl (hb hby at_175) rfl (XT.i0_eq_f (by decide)) k) ?_
          refine Gl.st (g' := (mkF m 179 #[.val (.long p1), .second, .val (.int p2), .val (.int p3), .val (.long p4), .second, .val (.int p5), .val (.ref a207), .val (.ref a208), .val (.int (1 : Int32)), .val (.int v220)] [(.int (1 : Int32))])) (fun t k => XT.iconstV X228.here hx rfl (1 : Int32) (hb hby at_178) rfl k) ?_
          refine Gl.st (g' := (mkF m 183 #[.val (.long p1), .second, .val (.int p2), .val (.int p3), .val (.long p4), .second, .val (.int p5), .val (.ref a207), .val (.ref a208), .val (.int (1 : Int32)), .val (.int v220)] [(.int (1 : Int32))])) (fun t k => XS.goto X228.here hx rfl (pc0 := 179) (pc' := 183) rfl (hb hby at_179) (by decide) (by decide) k) ?_
          refine Gl.st (g' := (mkF m 185 #[.val (.long p1), .second, .val (.int p2), .val (.int p3), .val (.long p4), .second, .val (.int p5), .val (.ref a207), .val (.ref a208), .val (.int (1 : Int32)), .val (.int v220)] [])) (fun t k => XS.istore X228.here hx rfl (hb hby at_183) rfl (l' := #[.val (.long p1), .second, .val (.int p2), .val (.int p3), .val (.long p4), .second, .val (.int p5), .val (.ref a207), .val (.ref a208), .val (.int (1 : Int32)), .val (.int v220)]) rfl k) ?_
          refine Gl.st (g' := (mkF m 187 #[.val (.long p1), .second, .val (.int p2), .val (.int p3), .val (.long p4), .second, .val (.int p5), .val (.ref a207), .val (.ref a208), .val (.int (1 : Int32)), .val (.int v220)] [(.int (1 : Int32))])) (fun t k => XS.iload X228.here hx rfl (hb hby at_185) rfl k) ?_
          refine Gl.retZ X228 hx hlk .boolean (by simp) Bd.returns (hb hby at_187) (rfl : T228.heap = _) (by decide) (by decide) ?_
          rw [Q0, own_z1]
          exact ⟨rfl, N228⟩
    refine Gl.st (g' := (mkF m 65 #[.val (.long p1), .second, .val (.int p2), .val (.int p3), .val (.long p4), .second, .val (.int p5), .val (.ref a207), .val (.ref a208), .val (.int (1 : Int32)), .val (.int v220)] [(.int v220)])) (fun t k => XS.iload Xj58.here hx rfl (hb hby at_63) rfl k) ?_
    by_cases c229 : (0 : Int32) < v220
    · skip
      refine Gl.st (g' := (mkF m 68 #[.val (.long p1), .second, .val (.int p2), .val (.int p3), .val (.long p4), .second, .val (.int p5), .val (.ref a207), .val (.ref a208), .val (.int (1 : Int32)), .val (.int v220)] [])) (fun t k => XS.ifNo Xj58.here hx rfl (hb hby at_65) rfl (XT.i0_le_f c229) k) ?_
      refine Gl.st (g' := (mkF m 70 #[.val (.long p1), .second, .val (.int p2), .val (.int p3), .val (.long p4), .second, .val (.int p5), .val (.ref a207), .val (.ref a208), .val (.int (1 : Int32)), .val (.int v220)] [(.ref a208)])) (fun t k => XS.aload Xj58.here hx rfl (hb hby at_68) rfl rfl k) ?_
      refine Gl.st (g' := (mkF m 72 #[.val (.long p1), .second, .val (.int p2), .val (.int p3), .val (.long p4), .second, .val (.int p5), .val (.ref a207), .val (.ref a208), .val (.int (1 : Int32)), .val (.int v220)] [(.ref a207), (.ref a208)])) (fun t k => XS.aload Xj58.here hx rfl (hb hby at_70) rfl rfl k) ?_
      refine Gl.st (g' := (mkF m 73 #[.val (.long p1), .second, .val (.int p2), .val (.int p3), .val (.long p4), .second, .val (.int p5), .val (.ref a207), .val (.ref a208), .val (.int (1 : Int32)), .val (.int v220)] [(.int (0 : Int32)), (.ref a207), (.ref a208)])) (fun t k => XT.iconstV Xj58.here hx rfl (0 : Int32) (hb hby at_72) rfl k) ?_
      refine Gl.st (g' := (mkF m 74 #[.val (.long p1), .second, .val (.int p2), .val (.int p3), .val (.long p4), .second, .val (.int p5), .val (.ref a207), .val (.ref a208), .val (.int (1 : Int32)), .val (.int v220)] [(.int p3), (.int (0 : Int32)), (.ref a207), (.ref a208)])) (fun t k => XS.iloadN Xj58.here hx rfl (hb hby at_73) rfl k) ?_
      refine Gl.st (g' := (mkF m 75 #[.val (.long p1), .second, .val (.int p2), .val (.int p3), .val (.long p4), .second, .val (.int p5), .val (.ref a207), .val (.ref a208), .val (.int (1 : Int32)), .val (.int v220)] [(.int (3 : Int32)), (.int p3), (.int (0 : Int32)), (.ref a207), (.ref a208)])) (fun t k => XT.iconstV Xj58.here hx rfl (3 : Int32) (hb hby at_74) rfl k) ?_
      refine Gl.st (g' := (mkF m 76 #[.val (.long p1), .second, .val (.int p2), .val (.int p3), .val (.long p4), .second, .val (.int p5), .val (.ref a207), .val (.ref a208), .val (.int (1 : Int32)), .val (.int v220)] [(.int (p3 &&& (3 : Int32))), (.int (0 : Int32)), (.ref a207), (.ref a208)])) (fun t k => XS.iand Xj58.here hx rfl (hb hby at_75) rfl k) ?_
      obtain ⟨cq230, kq230, qa230, qb230, qc230⟩ := isOf hZ (rfl : Tj58.heap = _) Hj58.exa
      obtain ⟨_, _, ⟨T230, L230, k230, n230⟩, -, X230, ⟨Lc230, hQ230, l230, y230, z230⟩, st230⟩ := Xj58.virtualBack hx (y := (⟨"com/example/bristlecone/bristlecone/HashBatch", "add", "([BII)V"⟩ : MethodName)) (z := (⟨"com/example/bristlecone/bristlecone/HashBatch", "add", "([BII)V"⟩ : MethodName)) hown (mvT hZ (hw _ (List.mem_of_getElem? (i := 27) rfl))) (mvT hZ (hw _ (List.mem_of_getElem? (i := 28) rfl))) (notFace_of_selects (args := #[]) (mvT hZ (hw _ (List.mem_of_getElem? (i := 30) rfl)))) (mvT hZ (hw _ (List.mem_of_getElem? (i := 30) rfl))) (mvT hZ (hw _ (List.mem_of_getElem? (i := 29) rfl))) (by decide) (backOf (W := 0) (rm3 l Z a0 hw a208 a207 (0 : Int32) (p3 &&& (3 : Int32)) cA207 (3 : Int32) (0 : Int32) (0 : Int32) Tj58.heap n0 Hj58.1 Hj58 rfl (Sm.mono (own_l3 _) (by decide)) ⟨by decide, by decide⟩ (Sm.mono (show Sm 0 (0 : Int32) from ⟨by decide, by decide⟩) (by decide)) (own_le3 (own_l3 _))) hZ (hw _ (List.mem_of_getElem? (i := 31) rfl)) (hw _ (List.mem_of_getElem? (i := 3) rfl)) (by decide) (by decide)) qa230 qc230 (g := (mkF m 76 #[.val (.long p1), .second, .val (.int p2), .val (.int p3), .val (.long p4), .second, .val (.int p5), .val (.ref a207), .val (.ref a208), .val (.int (1 : Int32)), .val (.int v220)] [(.int (p3 &&& (3 : Int32))), (.int (0 : Int32)), (.ref a207), (.ref a208)])) rfl (by rw [hml]; rfl) (Steps.refl _) (argsL := [(.ref a207), (.int (0 : Int32)), (.int (p3 &&& (3 : Int32)))]) (rest := []) (lenOf pd_2 rfl) rfl (by show 2 * 0 + _ ≤ _; exact Nat.le_of_eq rfl) (hb hby at_76) (fun _ _ => ⟨rfl, (rfl : Tj58.heap = _), (by decide : 6 + 0 ≤ _), (by decide : 81995 + 0 ≤ _)⟩)
      dsimp only [Pt.U, Pt.locs, Pt.cells, Pt.slots] at X230 l230 y230 z230 st230 hQ230
      subst l230 y230 z230
      obtain ⟨rfl, Nq230, H230⟩ := hQ230
      have N230 := Fr.app Nj58 Nq230
      have e230 : T230.heap = T230.heap := rfl
      have sm230 : Sm 3 ((0 : Int32) + (p3 &&& (3 : Int32))) := Sm.add (show Sm 0 (0 : Int32) from ⟨by decide, by decide⟩) (own_l3 _) (by decide)
      refine Gl.st (g' := (mkF m 79 #[.val (.long p1), .second, .val (.int p2), .val (.int p3), .val (.long p4), .second, .val (.int p5), .val (.ref a207), .val (.ref a208), .val (.int (1 : Int32)), .val (.int v220)] [])) (fun t k => st230.trans k) ?_
      refine Gl.st (g' := (mkF m 81 #[.val (.long p1), .second, .val (.int p2), .val (.int p3), .val (.long p4), .second, .val (.int p5), .val (.ref a207), .val (.ref a208), .val (.int (1 : Int32)), .val (.int v220)] [(.int v220)])) (fun t k => XS.iload X230.here hx rfl (hb hby at_79) rfl k) ?_
      refine Gl.st (g' := (mkF m 82 #[.val (.long p1), .second, .val (.int p2), .val (.int p3), .val (.long p4), .second, .val (.int p5), .val (.ref a207), .val (.ref a208), .val (.int (1 : Int32)), .val (.int v220)] [(.int (1 : Int32)), (.int v220)])) (fun t k => XT.iconstV X230.here hx rfl (1 : Int32) (hb hby at_81) rfl k) ?_
      by_cases c231 : (1 : Int32) < v220
      · skip
        refine Gl.st (g' := (mkF m 85 #[.val (.long p1), .second, .val (.int p2), .val (.int p3), .val (.long p4), .second, .val (.int p5), .val (.ref a207), .val (.ref a208), .val (.int (1 : Int32)), .val (.int v220)] [])) (fun t k => XS.icmpNo X230.here hx rfl (hb hby at_82) rfl (XT.ii_le_f c231) k) ?_
        refine Gl.st (g' := (mkF m 87 #[.val (.long p1), .second, .val (.int p2), .val (.int p3), .val (.long p4), .second, .val (.int p5), .val (.ref a207), .val (.ref a208), .val (.int (1 : Int32)), .val (.int v220)] [(.ref a208)])) (fun t k => XS.aload X230.here hx rfl (hb hby at_85) rfl rfl k) ?_
        refine Gl.st (g' := (mkF m 89 #[.val (.long p1), .second, .val (.int p2), .val (.int p3), .val (.long p4), .second, .val (.int p5), .val (.ref a207), .val (.ref a208), .val (.int (1 : Int32)), .val (.int v220)] [(.ref a207), (.ref a208)])) (fun t k => XS.aload X230.here hx rfl (hb hby at_87) rfl rfl k) ?_
        refine Gl.st (g' := (mkF m 90 #[.val (.long p1), .second, .val (.int p2), .val (.int p3), .val (.long p4), .second, .val (.int p5), .val (.ref a207), .val (.ref a208), .val (.int (1 : Int32)), .val (.int v220)] [(.int (0 : Int32)), (.ref a207), (.ref a208)])) (fun t k => XT.iconstV X230.here hx rfl (0 : Int32) (hb hby at_89) rfl k) ?_
        refine Gl.st (g' := (mkF m 91 #[.val (.long p1), .second, .val (.int p2), .val (.int p3), .val (.long p4), .second, .val (.int p5), .val (.ref a207), .val (.ref a208), .val (.int (1 : Int32)), .val (.int v220)] [(.int p3), (.int (0 : Int32)), (.ref a207), (.ref a208)])) (fun t k => XS.iloadN X230.here hx rfl (hb hby at_90) rfl k) ?_
        refine Gl.st (g' := (mkF m 92 #[.val (.long p1), .second, .val (.int p2), .val (.int p3), .val (.long p4), .second, .val (.int p5), .val (.ref a207), .val (.ref a208), .val (.int (1 : Int32)), .val (.int v220)] [(.int (2 : Int32)), (.int p3), (.int (0 : Int32)), (.ref a207), (.ref a208)])) (fun t k => XT.iconstV X230.here hx rfl (2 : Int32) (hb hby at_91) rfl k) ?_
        refine Gl.st (g' := (mkF m 93 #[.val (.long p1), .second, .val (.int p2), .val (.int p3), .val (.long p4), .second, .val (.int p5), .val (.ref a207), .val (.ref a208), .val (.int (1 : Int32)), .val (.int v220)] [(.int (XT.ushr p3 (2 : Int32))), (.int (0 : Int32)), (.ref a207), (.ref a208)])) (fun t k => XT.iushr X230.here hx rfl (hb hby at_92) rfl k) ?_
        refine Gl.st (g' := (mkF m 94 #[.val (.long p1), .second, .val (.int p2), .val (.int p3), .val (.long p4), .second, .val (.int p5), .val (.ref a207), .val (.ref a208), .val (.int (1 : Int32)), .val (.int v220)] [(.int (3 : Int32)), (.int (XT.ushr p3 (2 : Int32))), (.int (0 : Int32)), (.ref a207), (.ref a208)])) (fun t k => XT.iconstV X230.here hx rfl (3 : Int32) (hb hby at_93) rfl k) ?_
        refine Gl.st (g' := (mkF m 95 #[.val (.long p1), .second, .val (.int p2), .val (.int p3), .val (.long p4), .second, .val (.int p5), .val (.ref a207), .val (.ref a208), .val (.int (1 : Int32)), .val (.int v220)] [(.int ((XT.ushr p3 (2 : Int32)) &&& (3 : Int32))), (.int (0 : Int32)), (.ref a207), (.ref a208)])) (fun t k => XS.iand X230.here hx rfl (hb hby at_94) rfl k) ?_
        obtain ⟨cq232, kq232, qa232, qb232, qc232⟩ := isOf hZ e230 H230.exa
        obtain ⟨_, _, ⟨T232, L232, k232, n232⟩, -, X232, ⟨Lc232, hQ232, l232, y232, z232⟩, st232⟩ := X230.virtualBack hx (y := (⟨"com/example/bristlecone/bristlecone/HashBatch", "add", "([BII)V"⟩ : MethodName)) (z := (⟨"com/example/bristlecone/bristlecone/HashBatch", "add", "([BII)V"⟩ : MethodName)) hown (mvT hZ (hw _ (List.mem_of_getElem? (i := 27) rfl))) (mvT hZ (hw _ (List.mem_of_getElem? (i := 28) rfl))) (notFace_of_selects (args := #[]) (mvT hZ (hw _ (List.mem_of_getElem? (i := 30) rfl)))) (mvT hZ (hw _ (List.mem_of_getElem? (i := 30) rfl))) (mvT hZ (hw _ (List.mem_of_getElem? (i := 29) rfl))) (by decide) (backOf (W := 0) (rm3 l Z a0 hw a208 a207 (0 : Int32) ((XT.ushr p3 (2 : Int32)) &&& (3 : Int32)) cA207 (3 : Int32) ((0 : Int32) + (1 : Int32)) ((0 : Int32) + (p3 &&& (3 : Int32))) T230.heap n0 H230.1 H230 rfl (Sm.mono (own_l3 _) (by decide)) ⟨by decide, by decide⟩ (Sm.mono sm230 (by decide)) (own_le3 (own_l3 _))) hZ (hw _ (List.mem_of_getElem? (i := 31) rfl)) (hw _ (List.mem_of_getElem? (i := 3) rfl)) (by decide) (by decide)) qa232 qc232 (g := (mkF m 95 #[.val (.long p1), .second, .val (.int p2), .val (.int p3), .val (.long p4), .second, .val (.int p5), .val (.ref a207), .val (.ref a208), .val (.int (1 : Int32)), .val (.int v220)] [(.int ((XT.ushr p3 (2 : Int32)) &&& (3 : Int32))), (.int (0 : Int32)), (.ref a207), (.ref a208)])) rfl (by rw [hml]; rfl) (Steps.refl _) (argsL := [(.ref a207), (.int (0 : Int32)), (.int ((XT.ushr p3 (2 : Int32)) &&& (3 : Int32)))]) (rest := []) (lenOf pd_2 rfl) rfl (by show 2 * 0 + _ ≤ _; exact Nat.le_of_eq rfl) (hb hby at_95) (fun _ _ => ⟨rfl, e230, (by decide : 6 + 0 + 0 ≤ _), (by decide : 81995 + 0 + 0 ≤ _)⟩)
        dsimp only [Pt.U, Pt.locs, Pt.cells, Pt.slots] at X232 l232 y232 z232 st232 hQ232
        subst l232 y232 z232
        obtain ⟨rfl, Nq232, H232⟩ := hQ232
        have N232 := Fr.app N230 Nq232
        have e232 : T232.heap = T232.heap := rfl
        have sm232 : Sm 6 (((0 : Int32) + (p3 &&& (3 : Int32))) + ((XT.ushr p3 (2 : Int32)) &&& (3 : Int32))) := Sm.add sm230 (own_l3 _) (by decide)
        refine Gl.st (g' := (mkF m 98 #[.val (.long p1), .second, .val (.int p2), .val (.int p3), .val (.long p4), .second, .val (.int p5), .val (.ref a207), .val (.ref a208), .val (.int (1 : Int32)), .val (.int v220)] [])) (fun t k => st232.trans k) ?_
        refine Gl.st (g' := (mkF m 100 #[.val (.long p1), .second, .val (.int p2), .val (.int p3), .val (.long p4), .second, .val (.int p5), .val (.ref a207), .val (.ref a208), .val (.int (1 : Int32)), .val (.int v220)] [(.int v220)])) (fun t k => XS.iload X232.here hx rfl (hb hby at_98) rfl k) ?_
        refine Gl.st (g' := (mkF m 101 #[.val (.long p1), .second, .val (.int p2), .val (.int p3), .val (.long p4), .second, .val (.int p5), .val (.ref a207), .val (.ref a208), .val (.int (1 : Int32)), .val (.int v220)] [(.int (2 : Int32)), (.int v220)])) (fun t k => XT.iconstV X232.here hx rfl (2 : Int32) (hb hby at_100) rfl k) ?_
        by_cases c233 : (2 : Int32) < v220
        · skip
          refine Gl.st (g' := (mkF m 104 #[.val (.long p1), .second, .val (.int p2), .val (.int p3), .val (.long p4), .second, .val (.int p5), .val (.ref a207), .val (.ref a208), .val (.int (1 : Int32)), .val (.int v220)] [])) (fun t k => XS.icmpNo X232.here hx rfl (hb hby at_101) rfl (XT.ii_le_f c233) k) ?_
          refine Gl.st (g' := (mkF m 106 #[.val (.long p1), .second, .val (.int p2), .val (.int p3), .val (.long p4), .second, .val (.int p5), .val (.ref a207), .val (.ref a208), .val (.int (1 : Int32)), .val (.int v220)] [(.ref a208)])) (fun t k => XS.aload X232.here hx rfl (hb hby at_104) rfl rfl k) ?_
          refine Gl.st (g' := (mkF m 108 #[.val (.long p1), .second, .val (.int p2), .val (.int p3), .val (.long p4), .second, .val (.int p5), .val (.ref a207), .val (.ref a208), .val (.int (1 : Int32)), .val (.int v220)] [(.ref a207), (.ref a208)])) (fun t k => XS.aload X232.here hx rfl (hb hby at_106) rfl rfl k) ?_
          refine Gl.st (g' := (mkF m 109 #[.val (.long p1), .second, .val (.int p2), .val (.int p3), .val (.long p4), .second, .val (.int p5), .val (.ref a207), .val (.ref a208), .val (.int (1 : Int32)), .val (.int v220)] [(.int (0 : Int32)), (.ref a207), (.ref a208)])) (fun t k => XT.iconstV X232.here hx rfl (0 : Int32) (hb hby at_108) rfl k) ?_
          refine Gl.st (g' := (mkF m 110 #[.val (.long p1), .second, .val (.int p2), .val (.int p3), .val (.long p4), .second, .val (.int p5), .val (.ref a207), .val (.ref a208), .val (.int (1 : Int32)), .val (.int v220)] [(.int p3), (.int (0 : Int32)), (.ref a207), (.ref a208)])) (fun t k => XS.iloadN X232.here hx rfl (hb hby at_109) rfl k) ?_
          refine Gl.st (g' := (mkF m 111 #[.val (.long p1), .second, .val (.int p2), .val (.int p3), .val (.long p4), .second, .val (.int p5), .val (.ref a207), .val (.ref a208), .val (.int (1 : Int32)), .val (.int v220)] [(.int (4 : Int32)), (.int p3), (.int (0 : Int32)), (.ref a207), (.ref a208)])) (fun t k => XT.iconstV X232.here hx rfl (4 : Int32) (hb hby at_110) rfl k) ?_
          refine Gl.st (g' := (mkF m 112 #[.val (.long p1), .second, .val (.int p2), .val (.int p3), .val (.long p4), .second, .val (.int p5), .val (.ref a207), .val (.ref a208), .val (.int (1 : Int32)), .val (.int v220)] [(.int (XT.ushr p3 (4 : Int32))), (.int (0 : Int32)), (.ref a207), (.ref a208)])) (fun t k => XT.iushr X232.here hx rfl (hb hby at_111) rfl k) ?_
          refine Gl.st (g' := (mkF m 113 #[.val (.long p1), .second, .val (.int p2), .val (.int p3), .val (.long p4), .second, .val (.int p5), .val (.ref a207), .val (.ref a208), .val (.int (1 : Int32)), .val (.int v220)] [(.int (3 : Int32)), (.int (XT.ushr p3 (4 : Int32))), (.int (0 : Int32)), (.ref a207), (.ref a208)])) (fun t k => XT.iconstV X232.here hx rfl (3 : Int32) (hb hby at_112) rfl k) ?_
          refine Gl.st (g' := (mkF m 114 #[.val (.long p1), .second, .val (.int p2), .val (.int p3), .val (.long p4), .second, .val (.int p5), .val (.ref a207), .val (.ref a208), .val (.int (1 : Int32)), .val (.int v220)] [(.int ((XT.ushr p3 (4 : Int32)) &&& (3 : Int32))), (.int (0 : Int32)), (.ref a207), (.ref a208)])) (fun t k => XS.iand X232.here hx rfl (hb hby at_113) rfl k) ?_
          obtain ⟨cq234, kq234, qa234, qb234, qc234⟩ := isOf hZ e232 H232.exa
          obtain ⟨_, _, ⟨T234, L234, k234, n234⟩, -, X234, ⟨Lc234, hQ234, l234, y234, z234⟩, st234⟩ := X232.virtualBack hx (y := (⟨"com/example/bristlecone/bristlecone/HashBatch", "add", "([BII)V"⟩ : MethodName)) (z := (⟨"com/example/bristlecone/bristlecone/HashBatch", "add", "([BII)V"⟩ : MethodName)) hown (mvT hZ (hw _ (List.mem_of_getElem? (i := 27) rfl))) (mvT hZ (hw _ (List.mem_of_getElem? (i := 28) rfl))) (notFace_of_selects (args := #[]) (mvT hZ (hw _ (List.mem_of_getElem? (i := 30) rfl)))) (mvT hZ (hw _ (List.mem_of_getElem? (i := 30) rfl))) (mvT hZ (hw _ (List.mem_of_getElem? (i := 29) rfl))) (by decide) (backOf (W := 0) (rm3 l Z a0 hw a208 a207 (0 : Int32) ((XT.ushr p3 (4 : Int32)) &&& (3 : Int32)) cA207 (3 : Int32) (((0 : Int32) + (1 : Int32)) + (1 : Int32)) (((0 : Int32) + (p3 &&& (3 : Int32))) + ((XT.ushr p3 (2 : Int32)) &&& (3 : Int32))) T232.heap n0 H232.1 H232 rfl (Sm.mono (own_l3 _) (by decide)) ⟨by decide, by decide⟩ (Sm.mono sm232 (by decide)) (own_le3 (own_l3 _))) hZ (hw _ (List.mem_of_getElem? (i := 31) rfl)) (hw _ (List.mem_of_getElem? (i := 3) rfl)) (by decide) (by decide)) qa234 qc234 (g := (mkF m 114 #[.val (.long p1), .second, .val (.int p2), .val (.int p3), .val (.long p4), .second, .val (.int p5), .val (.ref a207), .val (.ref a208), .val (.int (1 : Int32)), .val (.int v220)] [(.int ((XT.ushr p3 (4 : Int32)) &&& (3 : Int32))), (.int (0 : Int32)), (.ref a207), (.ref a208)])) rfl (by rw [hml]; rfl) (Steps.refl _) (argsL := [(.ref a207), (.int (0 : Int32)), (.int ((XT.ushr p3 (4 : Int32)) &&& (3 : Int32)))]) (rest := []) (lenOf pd_2 rfl) rfl (by show 2 * 0 + _ ≤ _; exact Nat.le_of_eq rfl) (hb hby at_114) (fun _ _ => ⟨rfl, e232, (by decide : 6 + 0 + 0 + 0 ≤ _), (by decide : 81995 + 0 + 0 + 0 ≤ _)⟩)
          dsimp only [Pt.U, Pt.locs, Pt.cells, Pt.slots] at X234 l234 y234 z234 st234 hQ234
          subst l234 y234 z234
          obtain ⟨rfl, Nq234, H234⟩ := hQ234
          have N234 := Fr.app N232 Nq234
          have e234 : T234.heap = T234.heap := rfl
          have sm234 : Sm 9 ((((0 : Int32) + (p3 &&& (3 : Int32))) + ((XT.ushr p3 (2 : Int32)) &&& (3 : Int32))) + ((XT.ushr p3 (4 : Int32)) &&& (3 : Int32))) := Sm.add sm232 (own_l3 _) (by decide)
          refine Gl.st (g' := (mkF m 117 #[.val (.long p1), .second, .val (.int p2), .val (.int p3), .val (.long p4), .second, .val (.int p5), .val (.ref a207), .val (.ref a208), .val (.int (1 : Int32)), .val (.int v220)] [])) (fun t k => st234.trans k) ?_
          have hk : v220 = (3 : Int32) := (own_pin3 c233 hK)
          exact j117 T234 _ X234 N234 _ _ (by rw [hk] <;> rfl) H234
        · skip
          refine Gl.st (g' := (mkF m 117 #[.val (.long p1), .second, .val (.int p2), .val (.int p3), .val (.long p4), .second, .val (.int p5), .val (.ref a207), .val (.ref a208), .val (.int (1 : Int32)), .val (.int v220)] [])) (fun t k => XS.icmpYes X232.here hx rfl (pc0 := 101) (pc' := 117) rfl (hb hby at_101) rfl (XT.ii_le_t c233) (by decide) (by decide) k) ?_
          have hk : v220 = (2 : Int32) := (own_pin (2 : Int32) (1 : Int32) c231 c233 (by decide))
          exact j117 T232 _ X232 N232 _ _ (by rw [hk] <;> rfl) H232
      · skip
        refine Gl.st (g' := (mkF m 98 #[.val (.long p1), .second, .val (.int p2), .val (.int p3), .val (.long p4), .second, .val (.int p5), .val (.ref a207), .val (.ref a208), .val (.int (1 : Int32)), .val (.int v220)] [])) (fun t k => XS.icmpYes X230.here hx rfl (pc0 := 82) (pc' := 98) rfl (hb hby at_82) rfl (XT.ii_le_t c231) (by decide) (by decide) k) ?_
        refine Gl.st (g' := (mkF m 100 #[.val (.long p1), .second, .val (.int p2), .val (.int p3), .val (.long p4), .second, .val (.int p5), .val (.ref a207), .val (.ref a208), .val (.int (1 : Int32)), .val (.int v220)] [(.int v220)])) (fun t k => XS.iload X230.here hx rfl (hb hby at_98) rfl k) ?_
        refine Gl.st (g' := (mkF m 101 #[.val (.long p1), .second, .val (.int p2), .val (.int p3), .val (.long p4), .second, .val (.int p5), .val (.ref a207), .val (.ref a208), .val (.int (1 : Int32)), .val (.int v220)] [(.int (2 : Int32)), (.int v220)])) (fun t k => XT.iconstV X230.here hx rfl (2 : Int32) (hb hby at_100) rfl k) ?_
        refine Gl.st (g' := (mkF m 117 #[.val (.long p1), .second, .val (.int p2), .val (.int p3), .val (.long p4), .second, .val (.int p5), .val (.ref a207), .val (.ref a208), .val (.int (1 : Int32)), .val (.int v220)] [])) (fun t k => XS.icmpYes X230.here hx rfl (pc0 := 101) (pc' := 117) rfl (hb hby at_101) rfl (XT.ii_le_t (own_ndn c231 (by decide))) (by decide) (by decide) k) ?_
        have hk : v220 = (1 : Int32) := (own_pin (1 : Int32) (0 : Int32) c229 c231 (by decide))
        exact j117 T230 _ X230 N230 _ _ (by rw [hk] <;> rfl) H230
    · skip
      refine Gl.st (g' := (mkF m 79 #[.val (.long p1), .second, .val (.int p2), .val (.int p3), .val (.long p4), .second, .val (.int p5), .val (.ref a207), .val (.ref a208), .val (.int (1 : Int32)), .val (.int v220)] [])) (fun t k => XS.ifYes Xj58.here hx rfl (pc0 := 65) (pc' := 79) rfl (hb hby at_65) rfl (XT.i0_le_t c229) (by decide) (by decide) k) ?_
      refine Gl.st (g' := (mkF m 81 #[.val (.long p1), .second, .val (.int p2), .val (.int p3), .val (.long p4), .second, .val (.int p5), .val (.ref a207), .val (.ref a208), .val (.int (1 : Int32)), .val (.int v220)] [(.int v220)])) (fun t k => XS.iload Xj58.here hx rfl (hb hby at_79) rfl k) ?_
      refine Gl.st (g' := (mkF m 82 #[.val (.long p1), .second, .val (.int p2), .val (.int p3), .val (.long p4), .second, .val (.int p5), .val (.ref a207), .val (.ref a208), .val (.int (1 : Int32)), .val (.int v220)] [(.int (1 : Int32)), (.int v220)])) (fun t k => XT.iconstV Xj58.here hx rfl (1 : Int32) (hb hby at_81) rfl k) ?_
      refine Gl.st (g' := (mkF m 98 #[.val (.long p1), .second, .val (.int p2), .val (.int p3), .val (.long p4), .second, .val (.int p5), .val (.ref a207), .val (.ref a208), .val (.int (1 : Int32)), .val (.int v220)] [])) (fun t k => XS.icmpYes Xj58.here hx rfl (pc0 := 82) (pc' := 98) rfl (hb hby at_82) rfl (XT.ii_le_t (own_ndn c229 (by decide))) (by decide) (by decide) k) ?_
      refine Gl.st (g' := (mkF m 100 #[.val (.long p1), .second, .val (.int p2), .val (.int p3), .val (.long p4), .second, .val (.int p5), .val (.ref a207), .val (.ref a208), .val (.int (1 : Int32)), .val (.int v220)] [(.int v220)])) (fun t k => XS.iload Xj58.here hx rfl (hb hby at_98) rfl k) ?_
      refine Gl.st (g' := (mkF m 101 #[.val (.long p1), .second, .val (.int p2), .val (.int p3), .val (.long p4), .second, .val (.int p5), .val (.ref a207), .val (.ref a208), .val (.int (1 : Int32)), .val (.int v220)] [(.int (2 : Int32)), (.int v220)])) (fun t k => XT.iconstV Xj58.here hx rfl (2 : Int32) (hb hby at_100) rfl k) ?_
      refine Gl.st (g' := (mkF m 117 #[.val (.long p1), .second, .val (.int p2), .val (.int p3), .val (.long p4), .second, .val (.int p5), .val (.ref a207), .val (.ref a208), .val (.int (1 : Int32)), .val (.int v220)] [])) (fun t k => XS.icmpYes Xj58.here hx rfl (pc0 := 101) (pc' := 117) rfl (hb hby at_101) rfl (XT.ii_le_t (own_ndn c229 (by decide))) (by decide) (by decide) k) ?_
      have hk : v220 = (0 : Int32) := (own_pin0 hK.nn c229)
      exact j117 Tj58 _ Xj58 Nj58 _ _ (by rw [hk] <;> rfl) Hj58
  by_cases c235 : (p5 &&& (1 : Int32)) = (0 : Int32)
  · skip
    refine Gl.st (g' := (mkF m 58 #[.val (.long p1), .second, .val (.int p2), .val (.int p3), .val (.long p4), .second, .val (.int p5), .val (.ref a207), .val (.ref a208), .val (.int (1 : Int32)), .unset] [])) (fun t k => XS.ifYes X219.here hx rfl (pc0 := 25) (pc' := 58) rfl (hb hby at_25) rfl (XT.i0_eq_t c235) (by decide) (by decide) k) ?_
    exact j58 T219 _ X219 N219 H219
  · skip
    refine Gl.st (g' := (mkF m 28 #[.val (.long p1), .second, .val (.int p2), .val (.int p3), .val (.long p4), .second, .val (.int p5), .val (.ref a207), .val (.ref a208), .val (.int (1 : Int32)), .unset] [])) (fun t k => XS.ifNo X219.here hx rfl (hb hby at_25) rfl (XT.i0_eq_f c235) k) ?_
    refine Gl.st (g' := (mkF m 30 #[.val (.long p1), .second, .val (.int p2), .val (.int p3), .val (.long p4), .second, .val (.int p5), .val (.ref a207), .val (.ref a208), .val (.int (1 : Int32)), .unset] [(.ref a208)])) (fun t k => XS.aload X219.here hx rfl (hb hby at_28) rfl rfl k) ?_
    refine Gl.st (g' := (mkF m 31 #[.val (.long p1), .second, .val (.int p2), .val (.int p3), .val (.long p4), .second, .val (.int p5), .val (.ref a207), .val (.ref a208), .val (.int (1 : Int32)), .unset] [(.long p1), (.ref a208)])) (fun t k => XS.lloadN X219.here hx rfl (hb hby at_30) rfl k) ?_
    refine Gl.st (g' := (mkF m 34 #[.val (.long p1), .second, .val (.int p2), .val (.int p3), .val (.long p4), .second, .val (.int p5), .val (.ref a207), .val (.ref a208), .val (.int (1 : Int32)), .unset] [(.long (9223372036854775807 : Int64)), (.long p1), (.ref a208)])) (fun t k => X219.ldc2J hx hown (mvT hZ (hw _ (List.mem_of_getElem? (i := 44) rfl))) rfl (hb hby at_31) k) ?_
    refine Gl.st (g' := (mkF m 35 #[.val (.long p1), .second, .val (.int p2), .val (.int p3), .val (.long p4), .second, .val (.int p5), .val (.ref a207), .val (.ref a208), .val (.int (1 : Int32)), .unset] [(.long (p1 &&& (9223372036854775807 : Int64))), (.ref a208)])) (fun t k => XS.land X219.here hx rfl (hb hby at_34) rfl k) ?_
    obtain ⟨cq236, kq236, qa236, qb236, qc236⟩ := isOf hZ (rfl : T219.heap = _) H219.exa
    obtain ⟨_, _, ⟨T236, L236, k236, n236⟩, -, X236, ⟨Lc236, hQ236, l236, y236, z236⟩, st236⟩ := X219.virtualBack hx (y := (⟨"com/example/bristlecone/bristlecone/HashBatch", "restart", "(J)V"⟩ : MethodName)) (z := (⟨"com/example/bristlecone/bristlecone/HashBatch", "restart", "(J)V"⟩ : MethodName)) hown (mvT hZ (hw _ (List.mem_of_getElem? (i := 45) rfl))) (mvT hZ (hw _ (List.mem_of_getElem? (i := 46) rfl))) (notFace_of_selects (args := #[]) (mvT hZ (hw _ (List.mem_of_getElem? (i := 48) rfl)))) (mvT hZ (hw _ (List.mem_of_getElem? (i := 48) rfl))) (mvT hZ (hw _ (List.mem_of_getElem? (i := 47) rfl))) (by decide) (backOf (W := 0) (rm5 l Z a0 hw a208 (p1 &&& (9223372036854775807 : Int64)) a207 cA207 (3 : Int32) (0 : Int32) (0 : Int32) T219.heap n0 H219.1 H219 (own_mx _)) hZ (hw _ (List.mem_of_getElem? (i := 49) rfl)) (hw _ (List.mem_of_getElem? (i := 3) rfl)) (by decide) (by decide)) qa236 qc236 (g := (mkF m 35 #[.val (.long p1), .second, .val (.int p2), .val (.int p3), .val (.long p4), .second, .val (.int p5), .val (.ref a207), .val (.ref a208), .val (.int (1 : Int32)), .unset] [(.long (p1 &&& (9223372036854775807 : Int64))), (.ref a208)])) rfl (by rw [hml]; rfl) (Steps.refl _) (argsL := [(.long (p1 &&& (9223372036854775807 : Int64)))]) (rest := []) (lenOf pd_4 rfl) rfl (by show 2 * 0 + _ ≤ _; exact Nat.le_of_eq rfl) (hb hby at_35) (fun _ _ => ⟨rfl, (rfl : T219.heap = _), (by decide : 0 + 1 + 1 + 4 + 0 + 0 ≤ _), (by decide : 0 + 3 + 8 + 81984 + 0 + 0 ≤ _)⟩)
    dsimp only [Pt.U, Pt.locs, Pt.cells, Pt.slots] at X236 l236 y236 z236 st236 hQ236
    subst l236 y236 z236
    obtain ⟨rfl, Nq236, H236⟩ := hQ236
    have N236 := Fr.app N219 Nq236
    have e236 : T236.heap = T236.heap := rfl
    refine Gl.st (g' := (mkF m 38 #[.val (.long p1), .second, .val (.int p2), .val (.int p3), .val (.long p4), .second, .val (.int p5), .val (.ref a207), .val (.ref a208), .val (.int (1 : Int32)), .unset] [])) (fun t k => st236.trans k) ?_
    refine Gl.st (g' := (mkF m 40 #[.val (.long p1), .second, .val (.int p2), .val (.int p3), .val (.long p4), .second, .val (.int p5), .val (.ref a207), .val (.ref a208), .val (.int (1 : Int32)), .unset] [(.int (1 : Int32))])) (fun t k => XS.iload X236.here hx rfl (hb hby at_38) rfl k) ?_
    refine Gl.st (g' := (mkF m 43 #[.val (.long p1), .second, .val (.int p2), .val (.int p3), .val (.long p4), .second, .val (.int p5), .val (.ref a207), .val (.ref a208), .val (.int (1 : Int32)), .unset] [])) (fun t k => XS.ifNo X236.here hx rfl (hb hby at_40) rfl (XT.i0_eq_f (by decide)) k) ?_
    refine Gl.st (g' := (mkF m 45 #[.val (.long p1), .second, .val (.int p2), .val (.int p3), .val (.long p4), .second, .val (.int p5), .val (.ref a207), .val (.ref a208), .val (.int (1 : Int32)), .unset] [(.ref a208)])) (fun t k => XS.aload X236.here hx rfl (hb hby at_43) rfl rfl k) ?_
    obtain ⟨cq237, kq237, qa237, qb237, qc237⟩ := isOf hZ e236 H236.exa
    obtain ⟨_, _, ⟨T237, L237, k237, n237⟩, -, X237, ⟨Lc237, hQ237, l237, y237, z237⟩, st237⟩ := X236.virtualBack hx (y := (⟨"com/example/bristlecone/bristlecone/HashBatch", "isEmpty", "()Z"⟩ : MethodName)) (z := (⟨"com/example/bristlecone/bristlecone/HashBatch", "isEmpty", "()Z"⟩ : MethodName)) hown (mvT hZ (hw _ (List.mem_of_getElem? (i := 20) rfl))) (mvT hZ (hw _ (List.mem_of_getElem? (i := 21) rfl))) (notFace_of_selects (args := #[]) (mvT hZ (hw _ (List.mem_of_getElem? (i := 23) rfl)))) (mvT hZ (hw _ (List.mem_of_getElem? (i := 23) rfl))) (mvT hZ (hw _ (List.mem_of_getElem? (i := 22) rfl))) (by decide) (backOf (W := 0) (rm4 l Z a0 hw a208 a207 cA207 (3 : Int32) (0 : Int32) (0 : Int32) T236.heap n0 H236.1 H236) hZ (hw _ (List.mem_of_getElem? (i := 24) rfl)) (hw _ (List.mem_of_getElem? (i := 3) rfl)) (by decide) (by decide)) qa237 qc237 (g := (mkF m 45 #[.val (.long p1), .second, .val (.int p2), .val (.int p3), .val (.long p4), .second, .val (.int p5), .val (.ref a207), .val (.ref a208), .val (.int (1 : Int32)), .unset] [(.ref a208)])) rfl (by rw [hml]; rfl) (Steps.refl _) (argsL := []) (rest := []) (lenOf pd_3 rfl) rfl (by show 2 * 0 + _ ≤ _; exact Nat.le_of_eq rfl) (hb hby at_45) (fun _ _ => ⟨rfl, e236, (by decide : 0 + 1 + 1 + 4 + 0 + 0 + 0 ≤ _), (by decide : 0 + 3 + 8 + 81984 + 0 + 0 + 0 ≤ _)⟩)
    dsimp only [Pt.U, Pt.locs, Pt.cells, Pt.slots] at X237 l237 y237 z237 st237 hQ237
    subst l237 y237 z237
    obtain ⟨rfl, Nq237, e237⟩ := hQ237
    have N237 := Fr.app N236 Nq237
    have H237 := H236
    rw [← e237] at H237
    refine Gl.st (g' := (mkF m 48 #[.val (.long p1), .second, .val (.int p2), .val (.int p3), .val (.long p4), .second, .val (.int p5), .val (.ref a207), .val (.ref a208), .val (.int (1 : Int32)), .unset] [(.int (own_em (0 : Int32)))])) (fun t k => st237.trans k) ?_
    refine Gl.st (g' := (mkF m 51 #[.val (.long p1), .second, .val (.int p2), .val (.int p3), .val (.long p4), .second, .val (.int p5), .val (.ref a207), .val (.ref a208), .val (.int (1 : Int32)), .unset] [])) (fun t k => XS.ifNo X237.here hx rfl (hb hby at_48) rfl (XT.i0_eq_f (by decide)) k) ?_
    refine Gl.st (g' := (mkF m 52 #[.val (.long p1), .second, .val (.int p2), .val (.int p3), .val (.long p4), .second, .val (.int p5), .val (.ref a207), .val (.ref a208), .val (.int (1 : Int32)), .unset] [(.int (1 : Int32))])) (fun t k => XT.iconstV X237.here hx rfl (1 : Int32) (hb hby at_51) rfl k) ?_
    refine Gl.st (g' := (mkF m 56 #[.val (.long p1), .second, .val (.int p2), .val (.int p3), .val (.long p4), .second, .val (.int p5), .val (.ref a207), .val (.ref a208), .val (.int (1 : Int32)), .unset] [(.int (1 : Int32))])) (fun t k => XS.goto X237.here hx rfl (pc0 := 52) (pc' := 56) rfl (hb hby at_52) (by decide) (by decide) k) ?_
    refine Gl.st (g' := (mkF m 58 #[.val (.long p1), .second, .val (.int p2), .val (.int p3), .val (.long p4), .second, .val (.int p5), .val (.ref a207), .val (.ref a208), .val (.int (1 : Int32)), .unset] [])) (fun t k => XS.istore X237.here hx rfl (hb hby at_56) rfl (l' := #[.val (.long p1), .second, .val (.int p2), .val (.int p3), .val (.long p4), .second, .val (.int p5), .val (.ref a207), .val (.ref a208), .val (.int (1 : Int32)), .unset]) rfl k) ?_
    exact j58 T237 _ X237 N237 H237
set_option maxRecDepth 65536 in
set_option maxHeartbeats 40000000 in
theorem comes_1 {Post : Tables → Env → Array Value → State → Outcome → State → Prop} (hpost : ∀ tb e args s v u, (limb_1_1.after args s (.returned v) u = true ∧ limb_1_2.after args s (.returned v) u = true ∧ True) → FrameEnd s (.returned v) u (Jvm.fieldLocs frame_1_writes args s ++ Jvm.arrayLocs frame_1_arrays args s ++ Jvm.staticLocs frame_1_statics s) 24 164096 → Post tb e args s (.returned v) u) :
    ArmFor flags0 classFile x code maxLocals ret World_1 tables_1 room_1 Calls_1 rest_1 Pre_1 Post := by
  intro l hfl _ _ p e ha hc hk s m args below hf hA hF happ hP
  obtain ⟨hcalls, hrest, hpre⟩ := hP
  obtain ⟨-, -, -, hnamed, -, -, -, hat⟩ := (Spec.applies_iff hf).mp happ
  obtain ⟨hg, hn⟩ := and_e (Cond.before_iff.mp (show (Jvm.Cond.and given_1 narrow_1).before args s = true from hpre))
  obtain ⟨hcount, hk1⟩ := and_e hg
  obtain ⟨hi1, hk2⟩ := and_e hk1
  obtain ⟨hi2, hk3⟩ := and_e hk2
  obtain ⟨hi3, hk4⟩ := and_e hk3
  obtain ⟨hi4, hk5⟩ := and_e hk4
  obtain ⟨w0, w1, w2, w3, w4, rfl⟩ : ∃ w0 w1 w2 w3 w4 : Value, args = #[w0, w1, w2, w3, w4] := by
    have hs : args.size = 5 := by simpa [Cond.value, given_1] using hcount
    obtain ⟨L⟩ := args
    match L, hs with
    | [w0, w1, w2, w3, w4], _ => exact ⟨w0, w1, w2, w3, w4, rfl⟩
  have hw := fun d (hd : d ∈ tables_1) => atoms_spec (ws := Jvm.Cond.code x code maxLocals ret :: tables_1) hat d (List.mem_cons_of_mem _ hd)
  obtain ⟨i0, q0⟩ := isL_v hi1
  obtain rfl : w0 = (.long i0) := Option.some.inj q0
  obtain ⟨i1, q1⟩ := is_v hi2
  obtain rfl : w1 = (.int i1) := Option.some.inj q1
  obtain ⟨i2, q2⟩ := is_v hi3
  obtain rfl : w2 = (.int i2) := Option.some.inj q2
  obtain ⟨i3, q3⟩ := isL_v hi4
  obtain rfl : w3 = (.long i3) := Option.some.inj q3
  obtain ⟨i4, q4⟩ := is_v hk5
  obtain rfl : w4 = (.int i4) := Option.some.inj q4
  obtain ⟨n, o, h1, h2, h3, _, L, rfl, ⟨rfl, N⟩, hq⟩ := rm0 l s _ hw tables_1 i0 i1 i2 i3 i4 s.heap s.heap.size (Nat.le_refl _)  p e ha hc hk s m _ below hf ((Spec.applies_iff_loose hf).mp happ).1 ⟨rfl, State.Warmed39.refl s, rfl⟩ trivial
  refine ⟨n, _, h1, h2, h3, hpost _ _ _ _ _ _ ⟨Cond.after_iff.mpr rfl, Cond.after_iff.mpr (eq_i res_at (Term.int_eval (1)) rfl), trivial⟩ ⟨hq.1, hq.2.1, (hq.2.2.sift fun y hy => Or.inr (N y hy)).mono (by decide) (by decide)⟩⟩
theorem main_1_1 : Claimed_1_1 := comes_1 fun _ _ _ _ _ _ h hF => ⟨h.1, hF⟩
theorem main_1_2 : Claimed_1_2 := comes_1 fun _ _ _ _ _ _ h hF => ⟨h.2.1, hF⟩
end Jvm.Pilot.@@N@@
namespace Jvm.Pilot.@@N@@
open Jvm Jvm.ClassFile Sem Op Lib Jvm.Free Jvm.Stand Jvm.Pilot.@@N@@.Jvm.D
/-! MADE BY PROGRAM (witnessworld.py) out of the Statement's table words and the real class files: 10 classes; the members and pool entries that the words name. The judged class is class 1, her method 1. -/
namespace start1
open Jvm.ClassFile
def u (s : String) : CpInfo := .utf8 (stringToUtf16 s)
/-- a pool by its gaps: so many unusable entries, then the entry; so many at the end -/
def gap : Nat → List CpInfo → List CpInfo
  | 0, r => r
  | n + 1, r => .unusable :: gap n r
def poolList (es : List (Nat × CpInfo)) (last : Nat) : List CpInfo := es.foldr (fun e r => gap e.1 (e.2 :: r)) (gap last [])
def pool (es : List (Nat × CpInfo)) (last : Nat) : Array CpInfo := ⟨poolList es last⟩
def fileOf (pool : Array CpInfo) (this : Nat) (attrs : Array Attribute := #[]) (ms : Array MethodInfo := #[]) (fl : Nat := 33) (sup : Nat := 0) (ifs : Array Nat := #[]) (fds : Array FieldInfo := #[]) : ClassFile where
  minorVersion := 0
  majorVersion := 65
  constantPool := pool
  accessFlags := fl
  thisClass := this
  superClass := sup
  interfaces := ifs
  fields := fds
  methods := ms
  attributes := attrs
def plain (name : String) (sup : Option ClassId) : Class where
  name := name
  kind := .ordinary
  loader := none
  accessFlags := 33
  super := sup
  interfaces := #[]
  cf := none
  fields := #[]
  methods := #[]
  instanceTypes := #[]
  staticTypes := #[]
  resolved := #[]
  callSites := []
  init := .initialized
  statics := none
  mirror := none

def pool0 : Array CpInfo := pool [(5, u "<init>"), (0, u "()V"), (1, .class_ 10), (1, u "java/lang/Object")] 113

def k0c0 : Code := { maxStack := 0, maxLocals := 1, code := object_method_1_code, exceptionTable := #[], attributes := #[] }
def k0m0 : Method := { name := "<init>", desc := "()V", sig := { parameters := [], returnType := none }, accessFlags := 1, code := some k0c0 }
/-- java/lang/Object -/
def k0 : Class := { plain "java/lang/Object" none with
  accessFlags := 33
  interfaces := #[]
  cf := some (fileOf pool0 8 #[] #[{ accessFlags := 1, nameIndex := 5, descriptorIndex := 6, attributes := #[] }] 33 0 #[] #[])
  fields := #[]
  methods := #[k0m0]
  instanceTypes := #[]
  staticTypes := #[]
  resolved := Array.replicate 124 none
  statics := none }

def pool1 : Array CpInfo := pool [(2, .class_ 4), (0, .nameAndType 5 6), (0, u "java/lang/Object"), (0, u "<init>"), (0, u "()V"), (0, .class_ 8), (0, u "com/example/bristlecone/bristlecone/HashBatch"), (0, .methodref 7 3), (0, .methodref 7 11), (0, .nameAndType 12 13), (0, u "isEmpty"), (0, u "()Z"), (2, .long 9223372036854775807), (1, .methodref 7 19), (0, .nameAndType 20 21), (0, u "restart"), (0, u "(J)V"), (0, .methodref 7 23), (0, .nameAndType 24 25), (0, u "add"), (0, u "([BII)V"), (0, .class_ 27), (0, u "com/example/bristlecone/bristlecone/HashBatchIsEmptyPinLaw"), (2, u "law"), (0, u "(JIIJI)Z")] 5

def k1m0 : Method := { name := "<init>", desc := "()V", sig := { parameters := [], returnType := none }, accessFlags := 1, code := none }
def k1c1 : Code := { maxStack := 5, maxLocals := 11, code := code, exceptionTable := #[], attributes := #[] }
def k1m1 : Method := { name := "law", desc := "(JIIJI)Z", sig := { parameters := [.long, .int, .int, .long, .int], returnType := some .boolean }, accessFlags := 9, code := some k1c1 }
/-- com/example/bristlecone/bristlecone/HashBatchIsEmptyPinLaw -/
def k1 : Class := { plain "com/example/bristlecone/bristlecone/HashBatchIsEmptyPinLaw" (some 0) with
  accessFlags := 49
  interfaces := #[]
  cf := some (fileOf pool1 26 #[] #[{ accessFlags := 1, nameIndex := 5, descriptorIndex := 6, attributes := #[] }, { accessFlags := 9, nameIndex := 30, descriptorIndex := 31, attributes := #[] }] 49 2 #[] #[])
  fields := #[]
  methods := #[k1m0, k1m1]
  instanceTypes := #[]
  staticTypes := #[]
  resolved := Array.replicate 37 none
  statics := none }

def pool2 : Array CpInfo := pool [(3, .methodref 4 5), (0, .class_ 6), (0, .nameAndType 7 8), (0, u "java/lang/Object"), (0, u "<init>"), (0, u "()V"), (0, .integer 65536), (0, .fieldref 11 12), (0, .class_ 13), (0, .nameAndType 14 15), (0, u "com/example/bristlecone/bristlecone/HashBatch"), (0, u "input"), (0, u "[B"), (0, .fieldref 11 17), (0, .nameAndType 18 19), (0, u "ends"), (0, u "[I"), (0, .fieldref 11 21), (0, .nameAndType 22 15), (0, u "nodes"), (2, .fieldref 11 26), (0, .nameAndType 27 19), (0, u "heightOffsets"), (9, .fieldref 11 38), (0, .nameAndType 39 40), (0, u "start"), (0, u "J"), (0, .fieldref 11 42), (0, .nameAndType 43 44), (0, u "count"), (0, u "I"), (0, .fieldref 11 46), (0, .nameAndType 47 44), (0, u "length"), (0, .fieldref 11 49), (0, .nameAndType 50 44), (0, u "heights"), (0, .integer 1048576), (0, .methodref 11 53), (0, .nameAndType 54 55), (0, u "fits"), (0, u "(I)Z"), (21, .methodref 78 79), (0, .class_ 80), (0, .nameAndType 81 82), (0, u "java/lang/System"), (0, u "arraycopy"), (0, u "(Ljava/lang/Object;ILjava/lang/Object;II)V"), (46, u "MAX_BYTES"), (1, u "MAX_LEAVES"), (1, u "HASH_SIZE"), (3, u "restart"), (0, u "(J)V"), (1, u "isEmpty"), (0, u "()Z"), (0, u "add"), (0, u "([BII)V")] 25

def k2c0 : Code := { maxStack := 2, maxLocals := 1, code := prog_11_method_1_code, exceptionTable := #[], attributes := #[] }
def k2m0 : Method := { name := "<init>", desc := "()V", sig := { parameters := [], returnType := none }, accessFlags := 0, code := some k2c0 }
def k2c1 : Code := { maxStack := 4, maxLocals := 3, code := prog_11_method_2_code, exceptionTable := #[], attributes := #[] }
def k2m1 : Method := { name := "restart", desc := "(J)V", sig := { parameters := [.long], returnType := none }, accessFlags := 0, code := some k2c1 }
def k2c2 : Code := { maxStack := 1, maxLocals := 1, code := prog_11_method_5_code, exceptionTable := #[], attributes := #[] }
def k2m2 : Method := { name := "isEmpty", desc := "()Z", sig := { parameters := [], returnType := some .boolean }, accessFlags := 0, code := some k2c2 }
def k2c3 : Code := { maxStack := 2, maxLocals := 2, code := prog_11_method_6_code, exceptionTable := #[], attributes := #[] }
def k2m3 : Method := { name := "fits", desc := "(I)Z", sig := { parameters := [.int], returnType := some .boolean }, accessFlags := 0, code := some k2c3 }
def k2c4 : Code := { maxStack := 5, maxLocals := 5, code := prog_11_method_7_code, exceptionTable := #[], attributes := #[] }
def k2m4 : Method := { name := "add", desc := "([BII)V", sig := { parameters := [(.array .byte), .int, .int], returnType := none }, accessFlags := 0, code := some k2c4 }
/-- com/example/bristlecone/bristlecone/HashBatch -/
def k2 : Class := { plain "com/example/bristlecone/bristlecone/HashBatch" (some 0) with
  accessFlags := 48
  interfaces := #[]
  cf := some (fileOf pool2 11 #[] #[{ accessFlags := 0, nameIndex := 7, descriptorIndex := 8, attributes := #[] }, { accessFlags := 0, nameIndex := 137, descriptorIndex := 138, attributes := #[] }, { accessFlags := 0, nameIndex := 140, descriptorIndex := 141, attributes := #[] }, { accessFlags := 0, nameIndex := 54, descriptorIndex := 55, attributes := #[] }, { accessFlags := 0, nameIndex := 142, descriptorIndex := 143, attributes := #[] }] 48 4 #[] #[{ accessFlags := 24, nameIndex := 129, descriptorIndex := 44, attributes := #[] }, { accessFlags := 24, nameIndex := 131, descriptorIndex := 44, attributes := #[] }, { accessFlags := 26, nameIndex := 133, descriptorIndex := 44, attributes := #[] }, { accessFlags := 2, nameIndex := 39, descriptorIndex := 40, attributes := #[] }, { accessFlags := 2, nameIndex := 43, descriptorIndex := 44, attributes := #[] }, { accessFlags := 2, nameIndex := 14, descriptorIndex := 15, attributes := #[] }, { accessFlags := 18, nameIndex := 18, descriptorIndex := 19, attributes := #[] }, { accessFlags := 2, nameIndex := 47, descriptorIndex := 44, attributes := #[] }, { accessFlags := 2, nameIndex := 22, descriptorIndex := 15, attributes := #[] }, { accessFlags := 18, nameIndex := 27, descriptorIndex := 19, attributes := #[] }, { accessFlags := 2, nameIndex := 50, descriptorIndex := 44, attributes := #[] }])
  fields := #[{ name := "MAX_BYTES", type := .int, accessFlags := 24, slot := 0, constantValue := 0 }, { name := "MAX_LEAVES", type := .int, accessFlags := 24, slot := 1, constantValue := 0 }, { name := "HASH_SIZE", type := .int, accessFlags := 26, slot := 2, constantValue := 0 }, { name := "start", type := .long, accessFlags := 2, slot := 0, constantValue := 0 }, { name := "count", type := .int, accessFlags := 2, slot := 1, constantValue := 0 }, { name := "input", type := (.array .byte), accessFlags := 2, slot := 2, constantValue := 0 }, { name := "ends", type := (.array .int), accessFlags := 18, slot := 3, constantValue := 0 }, { name := "length", type := .int, accessFlags := 2, slot := 4, constantValue := 0 }, { name := "nodes", type := (.array .byte), accessFlags := 2, slot := 5, constantValue := 0 }, { name := "heightOffsets", type := (.array .int), accessFlags := 18, slot := 6, constantValue := 0 }, { name := "heights", type := .int, accessFlags := 2, slot := 7, constantValue := 0 }]
  methods := #[k2m0, k2m1, k2m2, k2m3, k2m4]
  instanceTypes := #[.long, .int, (.array .byte), (.array .int), .int, (.array .byte), (.array .int), .int]
  staticTypes := #[.int, .int, .int]
  resolved := Array.replicate 169 none
  statics := none }

def pool3 : Array CpInfo := pool [(2, .class_ 4), (1, u "java/lang/Object"), (0, u "<init>"), (0, u "()V"), (1, .class_ 10), (1, u "java/lang/System"), (0, u "allowSecurityManager"), (0, u "I"), (16, u "cons"), (0, u "Ljava/io/Console;"), (77, .class_ 110), (1, u "java/lang/System$CallersHolder"), (43, u "initialErrStream"), (0, u "Ljava/io/PrintStream;"), (19, u "security"), (0, u "Ljava/lang/SecurityManager;"), (31, .class_ 209), (0, u "java/lang/System$1"), (7, u "props"), (0, u "Ljava/util/Properties;"), (2, u "lineSeparator"), (0, u "Ljava/lang/String;"), (96, .class_ 321), (1, u "java/lang/System$LoggerFinder"), (5, .class_ 328), (0, u "java/lang/System$Logger"), (67, u "err"), (2, u "out"), (91, u "notSupportedJnuEncoding"), (15, u "in"), (17, u "initialIn"), (0, u "Ljava/io/InputStream;"), (35, u "bootLayer"), (0, u "Ljava/lang/ModuleLayer;"), (99, .class_ 664), (0, u "java/lang/System$2"), (9, u "NEVER"), (2, u "MAYBE"), (49, u "arraycopy"), (0, u "(Ljava/lang/Object;ILjava/lang/Object;II)V"), (72, .class_ 802), (0, u "java/lang/System$Logger$Level")] 31

def k3m0 : Method := { name := "<init>", desc := "()V", sig := { parameters := [], returnType := none }, accessFlags := 2, code := none }
def k3m1 : Method := { name := "arraycopy", desc := "(Ljava/lang/Object;ILjava/lang/Object;II)V", sig := { parameters := [(.object "java/lang/Object"), .int, (.object "java/lang/Object"), .int, .int], returnType := none }, accessFlags := 265, code := none }
/-- java/lang/System -/
def k3 : Class := { plain "java/lang/System" (some 0) with
  accessFlags := 49
  interfaces := #[]
  cf := some (fileOf pool3 8 #[.nestMembers #[319, 327, 801, 108, 663, 208]] #[{ accessFlags := 2, nameIndex := 5, descriptorIndex := 6, attributes := #[] }, { accessFlags := 265, nameIndex := 727, descriptorIndex := 728, attributes := #[] }] 49 2 #[] #[{ accessFlags := 25, nameIndex := 507, descriptorIndex := 526, attributes := #[] }, { accessFlags := 25, nameIndex := 399, descriptorIndex := 155, attributes := #[] }, { accessFlags := 25, nameIndex := 396, descriptorIndex := 155, attributes := #[] }, { accessFlags := 10, nameIndex := 525, descriptorIndex := 526, attributes := #[] }, { accessFlags := 26, nameIndex := 674, descriptorIndex := 12, attributes := #[] }, { accessFlags := 26, nameIndex := 677, descriptorIndex := 12, attributes := #[] }, { accessFlags := 10, nameIndex := 11, descriptorIndex := 12, attributes := #[] }, { accessFlags := 74, nameIndex := 175, descriptorIndex := 176, attributes := #[] }, { accessFlags := 10, nameIndex := 491, descriptorIndex := 222, attributes := #[] }, { accessFlags := 74, nameIndex := 29, descriptorIndex := 30, attributes := #[] }, { accessFlags := 74, nameIndex := 154, descriptorIndex := 155, attributes := #[] }, { accessFlags := 10, nameIndex := 217, descriptorIndex := 218, attributes := #[] }, { accessFlags := 10, nameIndex := 221, descriptorIndex := 222, attributes := #[] }, { accessFlags := 8, nameIndex := 562, descriptorIndex := 563, attributes := #[] }])
  fields := #[{ name := "in", type := (.object "java/io/InputStream"), accessFlags := 25, slot := 0, constantValue := 0 }, { name := "out", type := (.object "java/io/PrintStream"), accessFlags := 25, slot := 1, constantValue := 0 }, { name := "err", type := (.object "java/io/PrintStream"), accessFlags := 25, slot := 2, constantValue := 0 }, { name := "initialIn", type := (.object "java/io/InputStream"), accessFlags := 10, slot := 3, constantValue := 0 }, { name := "NEVER", type := .int, accessFlags := 26, slot := 4, constantValue := 0 }, { name := "MAYBE", type := .int, accessFlags := 26, slot := 5, constantValue := 0 }, { name := "allowSecurityManager", type := .int, accessFlags := 10, slot := 6, constantValue := 0 }, { name := "security", type := (.object "java/lang/SecurityManager"), accessFlags := 74, slot := 7, constantValue := 0 }, { name := "notSupportedJnuEncoding", type := (.object "java/lang/String"), accessFlags := 10, slot := 8, constantValue := 0 }, { name := "cons", type := (.object "java/io/Console"), accessFlags := 74, slot := 9, constantValue := 0 }, { name := "initialErrStream", type := (.object "java/io/PrintStream"), accessFlags := 74, slot := 10, constantValue := 0 }, { name := "props", type := (.object "java/util/Properties"), accessFlags := 10, slot := 11, constantValue := 0 }, { name := "lineSeparator", type := (.object "java/lang/String"), accessFlags := 10, slot := 12, constantValue := 0 }, { name := "bootLayer", type := (.object "java/lang/ModuleLayer"), accessFlags := 8, slot := 13, constantValue := 0 }]
  methods := #[k3m0, k3m1]
  instanceTypes := #[]
  staticTypes := #[(.object "java/io/InputStream"), (.object "java/io/PrintStream"), (.object "java/io/PrintStream"), (.object "java/io/InputStream"), .int, .int, .int, (.object "java/lang/SecurityManager"), (.object "java/lang/String"), (.object "java/io/Console"), (.object "java/io/PrintStream"), (.object "java/util/Properties"), (.object "java/lang/String"), (.object "java/lang/ModuleLayer")]
  resolved := Array.replicate 834 none
  statics := none }

def pool4 : Array CpInfo := pool [(1, u "java/lang/Cloneable"), (0, .class_ 1), (0, u "java/lang/Object"), (0, .class_ 3)] 3

/-- java/lang/Cloneable -/
def k4 : Class := { plain "java/lang/Cloneable" (some 0) with
  accessFlags := 1537
  interfaces := #[]
  cf := some (fileOf pool4 2 #[] #[] 1537 4 #[] #[])
  fields := #[]
  methods := #[]
  instanceTypes := #[]
  staticTypes := #[]
  resolved := Array.replicate 8 none
  statics := none }

def pool5 : Array CpInfo := pool [(1, u "java/io/Serializable"), (0, .class_ 1), (0, u "java/lang/Object"), (0, .class_ 3)] 3

/-- java/io/Serializable -/
def k5 : Class := { plain "java/io/Serializable" (some 0) with
  accessFlags := 1537
  interfaces := #[]
  cf := some (fileOf pool5 2 #[] #[] 1537 4 #[] #[])
  fields := #[]
  methods := #[]
  instanceTypes := #[]
  staticTypes := #[]
  resolved := Array.replicate 8 none
  statics := none }

/-- the primitive byte -/
def k6 : Class := { plain "byte" none with kind := .primitive 'B', accessFlags := 0x411 }
/-- [B -/
def k7 : Class := { plain "[B" (some 0) with kind := .array 6 .byte, interfaces := #[4, 5], accessFlags := 1041 }

/-- the primitive int -/
def k8 : Class := { plain "int" none with kind := .primitive 'I', accessFlags := 0x411 }
/-- [I -/
def k9 : Class := { plain "[I" (some 0) with kind := .array 8 .int, interfaces := #[4, 5], accessFlags := 1041 }

def heap : Heap := #[]
def classes : Array Class := #[k0, k1, k2, k3, k4, k5, k6, k7, k8, k9]
def interned : List (Array UInt16 × Addr) := []
def slotsUsed : Nat := 0
def theMethod : MethodId := ⟨1, 1⟩
def args0 : Array Value := #[.long 5, .int 5, .int 5, .long 5, .int 5]
def aboutOver (below : List Frame) : State where
  vm := { classes := classes, interned := interned.toArray }
  heap := heap
  slotsUsed := slotsUsed
  threads := #[{ frames := .invoking theMethod args0 :: below }]
def below0 : List Frame := [.native { method := ⟨0, 0⟩, args := #[] }]
def about1 : State := aboutOver below0
def p0 : Program := .bare "" "" ""
def e0 : Env := launch0.env 0 0 0
theorem w_frames : about1.frames = Frame.invoking theMethod args0 :: below0 := rfl
set_option maxRecDepth 65536 in
theorem w_args : argsFit about1.vm theMethod args0 = true := by decide +kernel
set_option maxRecDepth 65536 in
theorem w_heap : heapFits about1 = true := by decide +kernel
set_option maxRecDepth 65536 in
theorem w_runnable : about1.curStatus? = some .runnable := by decide +kernel
set_option maxRecDepth 65536 in
theorem w_alone : about1.alone = true := by decide +kernel
set_option maxRecDepth 65536 in
theorem w_named : about1.methodNamed? x = some theMethod := by decide +kernel
set_option maxRecDepth 65536 in
theorem w_hears : about1.hears theMethod below0 = true := by decide +kernel
set_option maxRecDepth 65536 in
theorem w_ripe : about1.ripe theMethod args0 below0 = true := by decide +kernel
theorem w_running : about1.status = .running := rfl
set_option maxRecDepth 65536 in
theorem w_room : about1.hasRoom e0.platform room_1 = true :=
  launch0.hasRoom_least _ room_1 (by decide +kernel) (by decide +kernel) (by decide +kernel) (by decide +kernel) (by decide +kernel) (by decide +kernel)
theorem allAtoms_all (ts : List Jvm.Cond) (a : Array Jvm.Value) (st : Jvm.State) : (allAtoms ts).before a st = ts.all (fun c => c.before a st) := by
  induction ts with
  | nil => rfl
  | cons c t ih =>
    show (Jvm.Cond.and c (allAtoms t)).before a st = _
    rw [Jvm.Cond.before_and, ih, List.all_cons]
def words1 : List Jvm.Cond := Jvm.Cond.code x code maxLocals ret :: tables_1
/-- a 'code' word, met by the world's own term for the bytes: nothing is compared byte by byte -/
theorem code_word {y : MethodName} {bytes : ByteArray} {mx : Nat} {rt : Option FieldType} {a : Array Value} {s : State} {m : MethodId} {meth : Method} {c : Code} (h1 : s.methodNamed? y = some m) (h2 : s.vm.method? m = some meth) (h3 : meth.code = some c) (h4 : c.code = bytes)
    (h5 : (c.maxLocals == mx && c.exceptionTable.isEmpty && decide (c.maxStack ≤ mostOperands) && decide (meth.sig.returnType = rt) && !meth.locks && decide (parseMethodDescriptor y.desc = some meth.sig)) = true) : (Jvm.Cond.code y bytes mx rt).before a s = true := by
  simp only [Bool.and_eq_true, beq_iff_eq, Bool.not_eq_true', decide_eq_true_eq] at h5
  obtain ⟨⟨⟨⟨⟨g1, g2⟩, g3⟩, g4⟩, g5⟩, g6⟩ := h5
  simp [Cond.before, Cond.holds, Cond.value, h1, h2, h3, h4, g1, g2, g3, g4, g5, g6]
def isCode : Jvm.Cond → Bool
  | .code _ _ _ _ => true
  | _ => false
theorem all_split {L : List Jvm.Cond} {P : Jvm.Cond → Bool} (h1 : L.all (fun c => isCode c || P c) = true) (h2 : ∀ c ∈ L.filter isCode, P c = true) : L.all P = true := by
  refine List.all_eq_true.mpr fun c hc => ?_
  have h := List.all_eq_true.mp h1 c hc
  rcases Bool.eq_false_or_eq_true (isCode c) with hi | hi
  · exact h2 c (List.mem_filter.mpr ⟨hc, hi⟩)
  · simpa [hi] using h
set_option maxRecDepth 65536 in
theorem w_c0 : (Jvm.Cond.code x code maxLocals ret).before args0 about1 = true := code_word (m := ⟨1, 1⟩) (meth := k1m1) (c := k1c1) (by decide +kernel) rfl rfl rfl (by decide +kernel)
set_option maxRecDepth 65536 in
theorem w_c1 : (Jvm.Cond.code ({ cls := "com/example/bristlecone/bristlecone/HashBatch", name := "<init>", desc := "()V" } : Jvm.MethodName) prog_11_method_1_code (1 : Nat) (Option.none : Option Jvm.ClassFile.FieldType)).before args0 about1 = true := code_word (m := ⟨2, 0⟩) (meth := k2m0) (c := k2c0) (by decide +kernel) rfl rfl rfl (by decide +kernel)
set_option maxRecDepth 65536 in
theorem w_c2 : (Jvm.Cond.code ({ cls := "java/lang/Object", name := "<init>", desc := "()V" } : Jvm.MethodName) object_method_1_code (1 : Nat) (Option.none : Option Jvm.ClassFile.FieldType)).before args0 about1 = true := code_word (m := ⟨0, 0⟩) (meth := k0m0) (c := k0c0) (by decide +kernel) rfl rfl rfl (by decide +kernel)
set_option maxRecDepth 65536 in
theorem w_c3 : (Jvm.Cond.code ({ cls := "com/example/bristlecone/bristlecone/HashBatch", name := "isEmpty", desc := "()Z" } : Jvm.MethodName) prog_11_method_5_code (1 : Nat) (Option.some Jvm.ClassFile.FieldType.boolean)).before args0 about1 = true := code_word (m := ⟨2, 2⟩) (meth := k2m2) (c := k2c2) (by decide +kernel) rfl rfl rfl (by decide +kernel)
set_option maxRecDepth 65536 in
theorem w_c4 : (Jvm.Cond.code ({ cls := "com/example/bristlecone/bristlecone/HashBatch", name := "add", desc := "([BII)V" } : Jvm.MethodName) prog_11_method_7_code (5 : Nat) (Option.none : Option Jvm.ClassFile.FieldType)).before args0 about1 = true := code_word (m := ⟨2, 4⟩) (meth := k2m4) (c := k2c4) (by decide +kernel) rfl rfl rfl (by decide +kernel)
set_option maxRecDepth 65536 in
theorem w_c5 : (Jvm.Cond.code ({ cls := "com/example/bristlecone/bristlecone/HashBatch", name := "fits", desc := "(I)Z" } : Jvm.MethodName) prog_11_method_6_code (2 : Nat) (Option.some Jvm.ClassFile.FieldType.boolean)).before args0 about1 = true := code_word (m := ⟨2, 3⟩) (meth := k2m3) (c := k2c3) (by decide +kernel) rfl rfl rfl (by decide +kernel)
set_option maxRecDepth 65536 in
theorem w_c6 : (Jvm.Cond.code ({ cls := "com/example/bristlecone/bristlecone/HashBatch", name := "restart", desc := "(J)V" } : Jvm.MethodName) prog_11_method_2_code (3 : Nat) (Option.none : Option Jvm.ClassFile.FieldType)).before args0 about1 = true := code_word (m := ⟨2, 1⟩) (meth := k2m1) (c := k2c1) (by decide +kernel) rfl rfl rfl (by decide +kernel)
def codes1 : List Jvm.Cond := [Jvm.Cond.code x code maxLocals ret, Jvm.Cond.code ({ cls := "com/example/bristlecone/bristlecone/HashBatch", name := "<init>", desc := "()V" } : Jvm.MethodName) prog_11_method_1_code (1 : Nat) (Option.none : Option Jvm.ClassFile.FieldType), Jvm.Cond.code ({ cls := "java/lang/Object", name := "<init>", desc := "()V" } : Jvm.MethodName) object_method_1_code (1 : Nat) (Option.none : Option Jvm.ClassFile.FieldType), Jvm.Cond.code ({ cls := "com/example/bristlecone/bristlecone/HashBatch", name := "isEmpty", desc := "()Z" } : Jvm.MethodName) prog_11_method_5_code (1 : Nat) (Option.some Jvm.ClassFile.FieldType.boolean), Jvm.Cond.code ({ cls := "com/example/bristlecone/bristlecone/HashBatch", name := "add", desc := "([BII)V" } : Jvm.MethodName) prog_11_method_7_code (5 : Nat) (Option.none : Option Jvm.ClassFile.FieldType), Jvm.Cond.code ({ cls := "com/example/bristlecone/bristlecone/HashBatch", name := "fits", desc := "(I)Z" } : Jvm.MethodName) prog_11_method_6_code (2 : Nat) (Option.some Jvm.ClassFile.FieldType.boolean), Jvm.Cond.code ({ cls := "com/example/bristlecone/bristlecone/HashBatch", name := "restart", desc := "(J)V" } : Jvm.MethodName) prog_11_method_2_code (3 : Nat) (Option.none : Option Jvm.ClassFile.FieldType)]
set_option maxRecDepth 65536 in
theorem codes_eq : words1.filter isCode = codes1 := rfl
theorem w_codes : ∀ c ∈ words1.filter isCode, c.before args0 about1 = true := by
  rw [codes_eq]
  intro c hc
  simp only [codes1, List.mem_cons, List.not_mem_nil, or_false] at hc
  rcases hc with rfl | rfl | rfl | rfl | rfl | rfl | rfl
  · exact w_c0
  · exact w_c1
  · exact w_c2
  · exact w_c3
  · exact w_c4
  · exact w_c5
  · exact w_c6
set_option maxRecDepth 65536 in
theorem w_t1 : (words1.take 24).all (fun c => isCode c || c.before args0 about1) = true := by decide +kernel
set_option maxRecDepth 65536 in
theorem w_t2 : ((words1.drop 24).take 24).all (fun c => isCode c || c.before args0 about1) = true := by decide +kernel
set_option maxRecDepth 65536 in
theorem w_t3 : ((words1.drop 24).drop 24).all (fun c => isCode c || c.before args0 about1) = true := by decide +kernel
theorem w_tables : (allAtoms (Jvm.Cond.code x code maxLocals ret :: tables_1)).before args0 about1 = true := by
  rw [allAtoms_all]
  show words1.all (fun c => c.before args0 about1) = true
  refine all_split ?_ w_codes
  rw [← List.take_append_drop 24 words1, List.all_append, w_t1, ← List.take_append_drop 24 (words1.drop 24), List.all_append, w_t2, w_t3]
  rfl
set_option maxRecDepth 65536 in
theorem w_case : (Jvm.Cond.and given_1 narrow_1).before args0 about1 = true := by decide +kernel
theorem w_applies : (headSpec (Jvm.Cond.code x code maxLocals ret :: tables_1) room_1).applies x e0.platform about1 = true :=
  (Spec.applies_iff w_frames).mpr ⟨w_running, w_runnable, w_alone, w_named, w_hears, w_ripe, w_room, w_tables⟩
theorem atStart : AtStart classFile x code maxLocals ret World_1 tables_1 room_1 Calls_1 rest_1 Pre_1 launch0 p0 e0 about1 theMethod args0 below0 :=
  ⟨lists_1, trivial, launch0.admits_env _ _ _, launch0.least_env, fairChoices_fair.cas, fairChoices_fair.clock, w_frames, w_args, w_heap, w_applies, trivial, trivial, w_case⟩
end start1
theorem witness_1 : WitnessClaimed_1 := ⟨start1.p0, start1.e0, start1.about1, start1.theMethod, start1.args0, start1.below0, start1.atStart⟩
end Jvm.Pilot.@@N@@
