import JvmDerived
import JvmDerived.Pilot.@@N@@Statement
import JvmDerived.Pilot.@@N@@Code
set_option linter.unusedVariables false
set_option linter.unusedSimpArgs false
namespace Jvm.Pilot.@@N@@
open Jvm Jvm.ClassFile Sem Op Lib Jvm.Free Jvm.Stand Jvm.LawKit Jvm.RoadKit Bundle Jvm.Pilot.@@N@@.Jvm.D
section OwnKit
variable {p : Program} {l : Launch} {e : Env} {R : Room} {s : State} {m : MethodId} {args : Array Value} {below : List Frame} {meth : Method} {c : Code} {T T' : State} {locs : List Loc} {cells slots : Nat} {h : Heap} {Q : Option Value → Heap → List Loc → Prop} {kc ks : Nat} {g g' : JFrame}
/-- from this state and frame the method comes to its end, and what it leaves is Q -/
def Gl (p : Program) (e : Env) (below : List Frame) (s : State) (Q : Option Value → Heap → List Loc → Prop) (kc ks : Nat) (T : State) (g : JFrame) : Prop :=
  ∃ s₂ o, Steps p.tables e below (T.setTop g) s₂ ∧ s₂.status = .running ∧ Ended s₂ below o ∧ ∃ v L, o = .returned v ∧ Q v s₂.heap L ∧ FrameEnd s o s₂ L kc ks
theorem Gl.st (h : ∀ t, Steps p.tables e below (T'.setTop g') t → Steps p.tables e below (T.setTop g) t) (k : Gl p e below s Q kc ks T' g') : Gl p e below s Q kc ks T g := by
  obtain ⟨s₂, o, h1, r⟩ := k
  exact ⟨s₂, o, h _ h1, r⟩
theorem Gl.ret (X : Stand p l e R s m args below meth c T locs cells slots) (hlk : meth.locks = false) (v : Option Value) (hv : meth.sig.returnType = none → v = none) (eT : T.heap = h) (hc : cells ≤ kc) (hs : slots ≤ ks)
    (hst : ∀ fs, (∀ (f : JFrame) (acts : List Action), f.method = m → f.locked = none → f.entered = [] → (doReturn e (T.setTop f) acts v).1 = T.setFrames fs) → Steps p.tables e below (T.setTop g) (T.setFrames fs))
    (hq : Q v h locs) : Gl p e below s Q kc ks T g := by
  obtain ⟨fs, hr, hrun, hended, hW, hsame⟩ := X.leave (v := v) hv hlk
  refine ⟨_, _, hst fs hr, hrun, hended, v, locs, rfl, ?_, ⟨_, rfl⟩, hW, hsame.mono hc hs⟩
  show Q v T.heap locs
  rw [eT]; exact hq
theorem Gl.retI (X : Stand p l e R s m args below meth c T locs cells slots) (hx : p.tables.exec = Jvm.exec) (hlk : meth.locks = false) {pc : Nat} {Ls : Array Slot} {z : Int32} {rest : List Value} (hret : meth.sig.returnType = some .int) (hd : decode c.code pc = .ok (.ireturn, 1)) (eT : T.heap = h) (hc : cells ≤ kc) (hs : slots ≤ ks)
    (hq : Q (some (.int z)) h locs) : Gl p e below s Q kc ks T (mkF m pc Ls (.int z :: rest)) := by
  refine Gl.ret X hlk (some (.int z)) (fun q => by rw [hret] at q; cases q) eT hc hs (fun fs hl => ?_) hq
  exact retOut X hx hret (t := .int) rfl (Or.inl ⟨rfl, Or.inl rfl, _, rfl⟩) hd hl
theorem Gl.retZ (X : Stand p l e R s m args below meth c T locs cells slots) (hx : p.tables.exec = Jvm.exec) (hlk : meth.locks = false) {pc : Nat} {Ls : Array Slot} {z : Int32} {rest : List Value} (t : FieldType) (ht : t = .boolean ∨ t = .byte ∨ t = .char ∨ t = .short) (hret : meth.sig.returnType = some t) (hd : decode c.code pc = .ok (.ireturn, 1)) (eT : T.heap = h) (hc : cells ≤ kc) (hs : slots ≤ ks)
    (hq : Q (some (.int (nar t z))) h locs) : Gl p e below s Q kc ks T (mkF m pc Ls (.int z :: rest)) := by
  refine Gl.ret X hlk (some (.int (nar t z))) (fun q => by rw [hret] at q; cases q) eT hc hs (fun fs hl => ?_) hq
  exact retN X hx (t := t) hret ht hd hl
theorem Gl.retL (X : Stand p l e R s m args below meth c T locs cells slots) (hx : p.tables.exec = Jvm.exec) (hlk : meth.locks = false) {pc : Nat} {Ls : Array Slot} {z : Int64} (hret : meth.sig.returnType = some .long) (hd : decode c.code pc = .ok (.lreturn, 1)) (eT : T.heap = h) (hc : cells ≤ kc) (hs : slots ≤ ks)
    (hq : Q (some (.long z)) h locs) : Gl p e below s Q kc ks T (mkF m pc Ls [.long z]) := by
  refine Gl.ret X hlk (some (.long z)) (fun q => by rw [hret] at q; cases q) eT hc hs (fun fs hl => ?_) hq
  exact X.lreturnOut hx hret hd hl
theorem Gl.retV (X : Stand p l e R s m args below meth c T locs cells slots) (hx : p.tables.exec = Jvm.exec) (hlk : meth.locks = false) {pc : Nat} {Ls : Array Slot} (hret : meth.sig.returnType = none) (hd : decode c.code pc = .ok (.return_, 1)) (eT : T.heap = h) (hc : cells ≤ kc) (hs : slots ≤ ks)
    (hq : Q none h locs) : Gl p e below s Q kc ks T (mkF m pc Ls []) := by
  refine Gl.ret X hlk none (fun _ => rfl) eT hc hs (fun fs hl => ?_) hq
  exact X.returnOut hx hret hd hl
end OwnKit

section OwnArr
variable {p : Program} {l : Launch} {e : Env} {R : Room} {s : State} {m : MethodId} {args : Array Value} {below : List Frame} {meth : Method} {c : Code} {T : State} {locs : List Loc} {cells slots : Nat} {Z : State} {h : Heap} {a : Addr} {k : ClassId} {z j x : Int32} {vs : List Value} {dv v : Value} {g : JFrame} {rest : List Value}
theorem own_ldB (X : Stand p l e R s m args below meth c T locs cells slots) (hx : p.tables.exec = Jvm.exec) (hZ : Z.Warmed39 s.vm) (eT : T.heap = h) (F : Arv Z h a k .byte z vs dv) (hj : ¬ j < 0 ∧ j < z) (u : vs.getD j.toNatClampNeg dv = v) (hg : g.method = m) (hs : g.stack = .int j :: .ref a :: rest) (hd : decode c.code g.pc = .ok (.baload, 1)) :
    ∀ t, Steps p.tables e below (T.setTop { g with pc := g.pc + 1, stack := v :: rest }) t → Steps p.tables e below (T.setTop g) t := by
  obtain ⟨cl, A, q1, S, q3, H, G⟩ := F
  have hin := inb_of S hj
  intro t kk
  exact X.baloadBytes hx (by rw [eT]; exact A.1) (State.isArrayOf_alike hZ.alike A.2.1) A.2.2 hin (Has.at H hin u) hg hs hd t kk
theorem own_ldC (X : Stand p l e R s m args below meth c T locs cells slots) (hx : p.tables.exec = Jvm.exec) (hZ : Z.Warmed39 s.vm) (eT : T.heap = h) (F : Arv Z h a k .char z vs dv) (hj : ¬ j < 0 ∧ j < z) (u : vs.getD j.toNatClampNeg dv = v) (hg : g.method = m) (hs : g.stack = .int j :: .ref a :: rest) (hd : decode c.code g.pc = .ok (.caload, 1)) :
    ∀ t, Steps p.tables e below (T.setTop { g with pc := g.pc + 1, stack := v :: rest }) t → Steps p.tables e below (T.setTop g) t := by
  obtain ⟨cl, A, q1, S, q3, H, G⟩ := F
  have hin := inb_of S hj
  intro t kk
  exact X.caload hx (by rw [eT]; exact A.1) (State.isArrayOf_alike hZ.alike A.2.1) A.2.2 hin (Has.at H hin u) hg hs hd t kk
theorem own_len {ty : FieldType} (X : Stand p l e R s m args below meth c T locs cells slots) (hx : p.tables.exec = Jvm.exec) (hZ : Z.Warmed39 s.vm) (eT : T.heap = h) (F : Arv Z h a k ty z vs dv) (hg : g.method = m) (hs : g.stack = .ref a :: rest) (hd : decode c.code g.pc = .ok (.arraylength, 1)) :
    ∀ t, Steps p.tables e below (T.setTop { g with pc := g.pc + 1, stack := .int z :: rest }) t → Steps p.tables e below (T.setTop g) t := by
  obtain ⟨cl, A, q1, S, q3, H, G⟩ := F
  intro t kk
  exact X.arraylength hx (by rw [eT]; exact A.1) (State.isArrayOf_alike hZ.alike A.2.1) hg hs hd t (by rw [len_of S q3]; exact kk)
theorem own_stB (X : Stand p l e R s m args below meth c T locs cells slots) (hx : p.tables.exec = Jvm.exec) (hZ : Z.Warmed39 s.vm) (eT : T.heap = h) (F : Arv Z h a k .byte z vs dv) (hj : ¬ j < 0 ∧ j < z) (i : Nat) (hi : j.toNatClampNeg = i) (hl : i < vs.length) (hg : g.method = m) (hs : g.stack = .int x :: .int j :: .ref a :: rest) (hd : decode c.code g.pc = .ok (.bastore, 1)) :
    ∃ T' h' y, Stand p l e R s m args below meth c T' (locs ++ [⟨a, j.toNatClampNeg⟩]) cells slots ∧ T'.heap = h' ∧ Wr h h' a j.toNatClampNeg (.int y) ∧ y = nar .byte x ∧ Arv Z h' a k .byte z (vs.set i (.int y)) dv ∧
      ∀ t, Steps p.tables e below (T'.setTop { g with pc := g.pc + 1, stack := rest }) t → Steps p.tables e below (T.setTop g) t := by
  obtain ⟨cl, A, q1, S, q3, H, G⟩ := F
  obtain ⟨T', h', X', e', W', st'⟩ := stB X hx hZ eT A (inb_of S hj) hg hs hd
  exact ⟨T', h', _, X', e', W', rfl, Arv.set A q1 S q3 H G (fits_nar_byte _) W' i hi hl, st'⟩
theorem own_stC (X : Stand p l e R s m args below meth c T locs cells slots) (hx : p.tables.exec = Jvm.exec) (hZ : Z.Warmed39 s.vm) (eT : T.heap = h) (F : Arv Z h a k .char z vs dv) (hj : ¬ j < 0 ∧ j < z) (i : Nat) (hi : j.toNatClampNeg = i) (hl : i < vs.length) (hg : g.method = m) (hs : g.stack = .int x :: .int j :: .ref a :: rest) (hd : decode c.code g.pc = .ok (.castore, 1)) :
    ∃ T' h' y, Stand p l e R s m args below meth c T' (locs ++ [⟨a, j.toNatClampNeg⟩]) cells slots ∧ T'.heap = h' ∧ Wr h h' a j.toNatClampNeg (.int y) ∧ y = nar .char x ∧ Arv Z h' a k .char z (vs.set i (.int y)) dv ∧
      ∀ t, Steps p.tables e below (T'.setTop { g with pc := g.pc + 1, stack := rest }) t → Steps p.tables e below (T.setTop g) t := by
  obtain ⟨cl, A, q1, S, q3, H, G⟩ := F
  obtain ⟨T', h', X', e', W', st'⟩ := stC X hx hZ eT A (inb_of S hj) hg hs hd
  exact ⟨T', h', _, X', e', W', rfl, Arv.set A q1 S q3 H G (fits_nar_char _) W' i hi hl, st'⟩
theorem own_stI (X : Stand p l e R s m args below meth c T locs cells slots) (hx : p.tables.exec = Jvm.exec) (hZ : Z.Warmed39 s.vm) (eT : T.heap = h) (F : Arv Z h a k .int z vs dv) (hj : ¬ j < 0 ∧ j < z) (i : Nat) (hi : j.toNatClampNeg = i) (hl : i < vs.length) (hg : g.method = m) (hs : g.stack = .int x :: .int j :: .ref a :: rest) (hd : decode c.code g.pc = .ok (.iastore, 1)) :
    ∃ T' h', Stand p l e R s m args below meth c T' (locs ++ [⟨a, j.toNatClampNeg⟩]) cells slots ∧ T'.heap = h' ∧ Wr h h' a j.toNatClampNeg (.int x) ∧ Arv Z h' a k .int z (vs.set i (.int x)) dv ∧
      ∀ t, Steps p.tables e below (T'.setTop { g with pc := g.pc + 1, stack := rest }) t → Steps p.tables e below (T.setTop g) t := by
  obtain ⟨cl, A, q1, S, q3, H, G⟩ := F
  obtain ⟨T', h', X', e', W', st'⟩ := stI X hx hZ eT A (inb_of S hj) hg hs hd
  exact ⟨T', h', X', e', W', Arv.set A q1 S q3 H G rfl W' i hi hl, st'⟩
end OwnArr

theorem own_z0 : nar .boolean (0 : Int32) = 0 := by decide
theorem own_z1 : nar .boolean (1 : Int32) = 1 := by decide
theorem own_nn (x : Int32) : 0 ≤ (x &&& (2147483647 : Int32)).toInt := by
  rw [c_mask x 2147483647 31 (by decide) (by decide)]
  exact Int.emod_nonneg _ (by decide)
theorem own_lt {x y : Int32} (h : x.toInt < y.toInt) : x < y := Int32.lt_iff_toInt_lt.mpr h
theorem own_nlt {x y : Int32} (h : y.toInt ≤ x.toInt) : ¬ x < y := fun q => by
  have := Int32.lt_iff_toInt_lt.mp q; omega
theorem own_eq {x y : Int32} (h : x.toInt = y.toInt) : x = y := Int32.toInt_inj.mp h
theorem own_ltI {x y : Int32} (h : x < y) : x.toInt < y.toInt := Int32.lt_iff_toInt_lt.mp h
theorem own_nltI {x y : Int32} (h : ¬ x < y) : y.toInt ≤ x.toInt := by
  rcases Int.lt_or_le x.toInt y.toInt with q | q
  · exact absurd (own_lt q) h
  · exact q
theorem own_rem {x y : Int32} (hx : 0 ≤ x.toInt) (hy : 0 < y.toInt) : 0 ≤ (x % y).toInt ∧ (x % y).toInt < y.toInt := by
  have h := (c_irem x y y.toInt rfl).1 hx
  rw [h]; exact ⟨Int.emod_nonneg _ (by omega), Int.emod_lt_of_pos _ hy⟩
theorem own_add {x y : Int32} (h1 : -2147483648 ≤ x.toInt + y.toInt) (h2 : x.toInt + y.toInt < 2147483648) : (x + y).toInt = x.toInt + y.toInt := by
  have a := c_iadd x y; have b := (x + y).toInt_lt; have c := (x + y).le_toInt; omega
theorem own_sub {x y : Int32} (h1 : -2147483648 ≤ x.toInt - y.toInt) (h2 : x.toInt - y.toInt < 2147483648) : (x - y).toInt = x.toInt - y.toInt := by
  have a := c_isub x y; have b := (x - y).toInt_lt; have c := (x - y).le_toInt; omega
theorem own_and (x : Int32) (m : Int32) (k : Nat) (hk : k ≤ 31) (hm : m.toBitVec.toNat = 2 ^ k - 1) : 0 ≤ (x &&& m).toInt ∧ (x &&& m).toInt ≤ m.toInt ∧ (x &&& m).toInt = x.toInt % (2 ^ k : Nat) := by
  have h := c_mask x m k hk hm
  have hm0 : 0 ≤ m.toInt := by
    have e : m.toInt = m.toBitVec.toInt := rfl
    have q : 2 ^ k ≤ 2 ^ 31 := Nat.pow_le_pow_right (by decide) hk
    have l := m.toBitVec.isLt
    rw [e, BitVec.toInt_eq_toNat_cond, hm]; split <;> omega
  exact ⟨(c_and x m hm0).1, (c_and x m hm0).2, h⟩
section OwnArr2
variable {p : Program} {l : Launch} {e : Env} {R : Room} {s : State} {m : MethodId} {args : Array Value} {below : List Frame} {meth : Method} {c : Code} {T : State} {locs : List Loc} {cells slots : Nat} {Z : State} {h : Heap} {a : Addr} {k : ClassId} {z j x : Int32} {vs : List Value} {dv v : Value} {g : JFrame} {rest : List Value}
theorem own_stIx (X : Stand p l e R s m args below meth c T locs cells slots) (hx : p.tables.exec = Jvm.exec) (hZ : Z.Warmed39 s.vm) (eT : T.heap = h) (F : Arv Z h a k .int z vs dv) (hj : ¬ j < 0 ∧ j < z) (hg : g.method = m) (hs : g.stack = .int x :: .int j :: .ref a :: rest) (hd : decode c.code g.pc = .ok (.iastore, 1)) :
    ∃ T' h' vs', Stand p l e R s m args below meth c T' (locs ++ [⟨a, j.toNatClampNeg⟩]) cells slots ∧ T'.heap = h' ∧ Wr h h' a j.toNatClampNeg (.int x) ∧ Arv Z h' a k .int z vs' dv ∧
      ∀ t, Steps p.tables e below (T'.setTop { g with pc := g.pc + 1, stack := rest }) t → Steps p.tables e below (T.setTop g) t := by
  have F' := F.pad (pad_rep vs dv (j.toNatClampNeg + 1))
  obtain ⟨T', h', X', e', W', V', st'⟩ := own_stI X hx hZ eT F' hj j.toNatClampNeg rfl (by rw [List.length_append, List.length_replicate]; omega) hg hs hd
  exact ⟨T', h', _, X', e', W', V', st'⟩
end OwnArr2
def own_fits (cnt len x : Int32) : Int32 := if cnt = (0 : Int32) then 1 else if cnt < (16384 : Int32) then (if (1048576 : Int32) < (len + x) then 0 else 1) else 0
def own_em (cnt : Int32) : Int32 := if cnt = (0 : Int32) then 1 else 0
/-- small numbers, not negative -/
def Sm (b : Int) (x : Int32) : Prop := 0 ≤ x.toInt ∧ x.toInt ≤ b
theorem Sm.add {a b : Int} {x y : Int32} (h : Sm a x) (g : Sm b y) (q : a + b < 2147483648) : Sm (a + b) (x + y) := by
  obtain ⟨h1, h2⟩ := h; obtain ⟨g1, g2⟩ := g
  have := own_add (x := x) (y := y) (by omega) (by omega)
  exact ⟨by omega, by omega⟩
theorem Sm.mono {a b : Int} {x : Int32} (h : Sm a x) (q : a ≤ b) : Sm b x := ⟨h.1, Int.le_trans h.2 q⟩
theorem Sm.nn {a : Int} {x : Int32} (h : Sm a x) : ¬ x < 0 := own_nlt h.1
theorem Sm.clamp {a : Int} {x : Int32} (h : Sm a x) : (x.toNatClampNeg : Int) = x.toInt := (nat_of h.nn).symm
theorem own_fits1 {cnt len x : Int32} (hc : Sm 1000 cnt) (hl : Sm 1000 len) (hx : Sm 1000 x) : ¬ own_fits cnt len x = (0 : Int32) := by
  have q := hl.add hx (by decide)
  have t : (1048576 : Int32).toInt = 1048576 := by decide
  have u : (16384 : Int32).toInt = 16384 := by decide
  have h1 := q.2; have h2 := hc.2
  unfold own_fits
  by_cases c1 : cnt = (0 : Int32)
  · rw [if_pos c1]; decide
  · rw [if_neg c1, if_pos (own_lt (by omega)), if_neg (own_nlt (by omega))]; decide
theorem own_nb {len x : Int32} (hl : Sm 1000 len) (hx : Sm 1000 x) : ¬ (65536 : Int32) < (len + x) := by
  have q := hl.add hx (by decide)
  have t : (65536 : Int32).toInt = 65536 := by decide
  have h1 := q.2
  exact own_nlt (by omega)
theorem own_ix {cnt : Int32} (hc : Sm 1000 cnt) : ¬ cnt < 0 ∧ cnt < (16384 : Int32) := by
  have u : (16384 : Int32).toInt = 16384 := by decide
  have h2 := hc.2
  exact ⟨hc.nn, own_lt (by omega)⟩

def HB (Z : State) (n0 : Nat) (a b : Addr) (kb : ClassId) (zb : Int32) (h : Heap) (cnt len : Int32) : Prop :=
  n0 ≤ h.size ∧ Exa Z h a "com/example/bristlecone/bristlecone/HashBatch" ∧ n0 ≤ a ∧ (∃ vs, Arv Z h b kb .byte zb vs (.int (0 : Int32))) ∧ b ≠ a ∧ ∃ (aI aE : Addr) (kI kE : ClassId), Fld Z h a "com/example/bristlecone/bristlecone/HashBatch" "input" "[B" (.ref aI) ∧ Fld Z h a "com/example/bristlecone/bristlecone/HashBatch" "ends" "[I" (.ref aE) ∧ Fld Z h a "com/example/bristlecone/bristlecone/HashBatch" "count" "I" (.int cnt) ∧ Fld Z h a "com/example/bristlecone/bristlecone/HashBatch" "length" "I" (.int len) ∧ (∃ vs, Arv Z h aI kI .byte (65536 : Int32) vs (.int (0 : Int32))) ∧ (∃ vs, Arv Z h aE kE .int (16384 : Int32) vs (.int (0 : Int32))) ∧ n0 ≤ aI ∧ n0 ≤ aE ∧ a ≠ aI ∧ a ≠ aE ∧ aI ≠ aE ∧ b ≠ aI ∧ b ≠ aE
theorem HB.exa {Z : State} {n0 : Nat} {a b : Addr} {kb : ClassId} {zb : Int32} {h : Heap} {cnt len : Int32} (H : HB Z n0 a b kb zb h cnt len) : Exa Z h a "com/example/bristlecone/bristlecone/HashBatch" := H.2.1
theorem d1_0 : decode prog_11_method_1_code 0 = .ok (.aload_n 0, 1) := by decide +kernel
theorem d1_1 : decode prog_11_method_1_code 1 = .ok (.invokespecial 3, 3) := by decide +kernel
theorem d1_4 : decode prog_11_method_1_code 4 = .ok (.aload_n 0, 1) := by decide +kernel
theorem d1_5 : decode prog_11_method_1_code 5 = .ok (.ldc 9, 2) := by decide +kernel
theorem d1_7 : decode prog_11_method_1_code 7 = .ok (.newarray .byte, 2) := by decide +kernel
theorem d1_9 : decode prog_11_method_1_code 9 = .ok (.putfield 10, 3) := by decide +kernel
theorem d1_12 : decode prog_11_method_1_code 12 = .ok (.aload_n 0, 1) := by decide +kernel
theorem d1_13 : decode prog_11_method_1_code 13 = .ok (.sipush 16384, 3) := by decide +kernel
theorem d1_16 : decode prog_11_method_1_code 16 = .ok (.newarray .int, 2) := by decide +kernel
theorem d1_18 : decode prog_11_method_1_code 18 = .ok (.putfield 16, 3) := by decide +kernel
theorem d1_21 : decode prog_11_method_1_code 21 = .ok (.aload_n 0, 1) := by decide +kernel
theorem d1_22 : decode prog_11_method_1_code 22 = .ok (.iconst 0, 1) := by decide +kernel
theorem d1_23 : decode prog_11_method_1_code 23 = .ok (.newarray .byte, 2) := by decide +kernel
theorem d1_25 : decode prog_11_method_1_code 25 = .ok (.putfield 20, 3) := by decide +kernel
theorem d1_28 : decode prog_11_method_1_code 28 = .ok (.aload_n 0, 1) := by decide +kernel
theorem d1_29 : decode prog_11_method_1_code 29 = .ok (.bipush 64, 2) := by decide +kernel
theorem d1_31 : decode prog_11_method_1_code 31 = .ok (.newarray .int, 2) := by decide +kernel
theorem d1_33 : decode prog_11_method_1_code 33 = .ok (.putfield 25, 3) := by decide +kernel
theorem d1_36 : decode prog_11_method_1_code 36 = .ok (.return_, 1) := by decide +kernel
theorem pn_0 : plainName "com/example/bristlecone/bristlecone/HashBatch" = true := by first | (simp [plainName, overriddenIn]; done) | decide +kernel
theorem ef_1 (m : MethodId) (a1 : Addr) : entryFrame m #[(.ref a1)] 1 = mkF m 0 #[.val (.ref a1)] [] := by first | (simp [entryFrame, mkF, argsToLocals, Value.category]; done) | rfl
def Q1 (Z : State) (a1 : Addr) (b : Addr) (kb : ClassId) (zb : Int32) (vsB : List Value) (h0 : Heap) (n0 : Nat) (v : Option Value) (h : Heap) (L : List Loc) : Prop := v = none ∧ Fr n0 L ∧ HB Z n0 a1 b kb zb h (0 : Int32) (0 : Int32)
set_option maxRecDepth 65536 in
set_option maxHeartbeats 40000000 in
theorem rm1 (l : Launch) (Z : State) (a0 : Array Value) (hw : ∀ d ∈ tables_1, d.before a0 Z = true) (a1 : Addr) (b : Addr) (kb : ClassId) (zb : Int32) (vsB : List Value) (h0 : Heap) (n0 : Nat) (Z0 : n0 ≤ h0.size) (EX : Exa Z h0 a1 "com/example/bristlecone/bristlecone/HashBatch") (gA : n0 ≤ a1) (VB : Arv Z h0 b kb .byte zb vsB (.int (0 : Int32))) (nBA : b ≠ a1) (Finput : Fld Z h0 a1 "com/example/bristlecone/bristlecone/HashBatch" "input" "[B" .null) (Fends : Fld Z h0 a1 "com/example/bristlecone/bristlecone/HashBatch" "ends" "[I" .null) (Fnodes : Fld Z h0 a1 "com/example/bristlecone/bristlecone/HashBatch" "nodes" "[B" .null) (FheightOffsets : Fld Z h0 a1 "com/example/bristlecone/bristlecone/HashBatch" "heightOffsets" "[I" .null) (Fcount : Fld Z h0 a1 "com/example/bristlecone/bristlecone/HashBatch" "count" "I" (.int (0 : Int32))) (Flength : Fld Z h0 a1 "com/example/bristlecone/bristlecone/HashBatch" "length" "I" (.int (0 : Int32))) :
    MetFree l (⟨"com/example/bristlecone/bristlecone/HashBatch", "<init>", "()V"⟩ : MethodName) (head1 [Jvm.Cond.code (⟨"com/example/bristlecone/bristlecone/HashBatch", "<init>", "()V"⟩ : MethodName) prog_11_method_1_code 1 none] ({ frames := 1, cells := 4, slots := 81984, locals := 12 } : Room)) (fun a U => a = #[(.ref a1)] ∧ Z.Warmed39 U.vm ∧ U.heap = h0) (fun _ _ _ _ _ => True) (fun _ U o U' => ∃ v L, o = .returned v ∧ Q1 Z a1 b kb zb vsB h0 n0 v U'.heap L ∧ FrameEnd U o U' L ({ frames := 1, cells := 4, slots := 81984, locals := 12 } : Room).cells ({ frames := 1, cells := 4, slots := 81984, locals := 12 } : Room).slots) := by
  refine MetFree.of_bodySF (plainFor_of_name pn_0) hisR ?_
  intro p e s m args below meth c s₁ Bd hml0 hP hK
  obtain ⟨rfl, hZ, hh⟩ := hP
  have hx := Bd.exec
  have hby := Bd.bytes
  have hlk : meth.locks = false := Bd.notSynchronized
  have hml : c.maxLocals = 1 := hml0
  have hown : s.vm.findClass "com/example/bristlecone/bristlecone/HashBatch" = some m.cls := findClass_of_methodNamed Bd.named
  have hnm := (name_of_methodNamed Bd.named Bd.method).1
  have X0 : Stand p l e ({ frames := 1, cells := 4, slots := 81984, locals := 12 } : Room) s m #[(.ref a1)] below meth c s₁ [] 0 0 := Stand.of_body Bd
  have e0 : s₁.heap = h0 := by rw [← hh, Bd.state]; rfl
  have N0 := Fr.nil n0
  show Gl p e below s (Q1 Z a1 b kb zb vsB h0 n0) 4 81984 s₁ (entryFrame m #[(.ref a1)] 1)
  rw [ef_1 m a1]
  refine Gl.st (g' := (mkF m 1 #[.val (.ref a1)] [(.ref a1)])) (fun t k => XS.aloadN X0.here hx rfl (hb hby d1_0) rfl rfl k) ?_
  obtain ⟨T1, X1, e1, st1⟩ := initO X0 hx hZ hown (hw _ (List.mem_of_getElem? (i := 7) rfl)) (hw _ (List.mem_of_getElem? (i := 8) rfl)) (hw _ (List.mem_of_getElem? (i := 9) rfl)) e0 (g := (mkF m 1 #[.val (.ref a1)] [(.ref a1)])) rfl (by rw [hml]; rfl) rfl (hb hby d1_1) (by decide) (W := 0) (by show 2 * 0 + _ ≤ _; exact Nat.le_of_eq rfl) (by decide)
  refine Gl.st (g' := (mkF m 4 #[.val (.ref a1)] [])) st1 ?_
  refine Gl.st (g' := (mkF m 5 #[.val (.ref a1)] [(.ref a1)])) (fun t k => XS.aloadN X1.here hx rfl (hb hby d1_4) rfl rfl k) ?_
  refine Gl.st (g' := (mkF m 7 #[.val (.ref a1)] [(.int (65536 : Int32)), (.ref a1)])) (fun t k => X1.ldcI hx hown (mvT hZ (hw _ (List.mem_of_getElem? (i := 10) rfl))) rfl (hb hby d1_5) k) ?_
  obtain ⟨T2, h2, cA2, X2, e2, E2, A2, st2⟩ := newP X1 hx hZ (hw _ (List.mem_of_getElem? (i := 0) rfl)) e1 (g := (mkF m 7 #[.val (.ref a1)] [(.int (65536 : Int32)), (.ref a1)])) rfl (hb hby d1_7) rfl (by decide) (cap := 65536) (by decide) (by decide) (by decide) (by decide)
  obtain ⟨a2, g2⟩ : ∃ z, z = h0.size := ⟨_, rfl⟩
  have ge2 : n0 ≤ a2 := Nat.le_trans Z0 (Nat.le_of_eq g2.symm)
  have ne_a1_2 : a1 ≠ a2 := fun q => absurd (g2 ▸ q ▸ (Finput.lt : a1 < h0.size)) (Nat.lt_irrefl _)
  have ne_b_2 : b ≠ a2 := fun q => absurd (g2 ▸ q ▸ (VB.lt : b < h0.size)) (Nat.lt_irrefl _)
  rw [← g2] at A2 st2
  have Z2 : n0 ≤ h2.size := Nat.le_trans Z0 E2.1
  have V2 : Arv Z h2 a2 cA2 .byte (65536 : Int32) [] (.int (0 : Int32)) := Arv.new A2 (by decide)
  have F3 : Fld Z h2 a1 "com/example/bristlecone/bristlecone/HashBatch" "input" "[B" .null := (Finput.ext E2)
  have F4 : Fld Z h2 a1 "com/example/bristlecone/bristlecone/HashBatch" "ends" "[I" .null := (Fends.ext E2)
  have F5 : Fld Z h2 a1 "com/example/bristlecone/bristlecone/HashBatch" "nodes" "[B" .null := (Fnodes.ext E2)
  have F6 : Fld Z h2 a1 "com/example/bristlecone/bristlecone/HashBatch" "heightOffsets" "[I" .null := (FheightOffsets.ext E2)
  have F7 : Fld Z h2 a1 "com/example/bristlecone/bristlecone/HashBatch" "count" "I" (.int (0 : Int32)) := (Fcount.ext E2)
  have F8 : Fld Z h2 a1 "com/example/bristlecone/bristlecone/HashBatch" "length" "I" (.int (0 : Int32)) := (Flength.ext E2)
  have E9 : Exa Z h2 a1 "com/example/bristlecone/bristlecone/HashBatch" := (EX.ext E2)
  have V10 : Arv Z h2 b kb .byte zb vsB (.int (0 : Int32)) := (VB.ext E2)
  refine Gl.st (g' := (mkF m 9 #[.val (.ref a1)] [(.ref a2), (.ref a1)])) st2 ?_
  obtain ⟨T11, h11, X11, e11, W11, st11⟩ := putF X2 hx hZ hown (host := "") (Or.inl (hw _ (List.mem_of_getElem? (i := 11) rfl))) Via.refl e2 F3 E9 (Or.inl (hw _ (List.mem_of_getElem? (i := 12) rfl))) (hw _ (List.mem_of_getElem? (i := 2) rfl)) (ty := (.array .byte)) (by decide) rfl rfl (g := (mkF m 9 #[.val (.ref a1)] [(.ref a2), (.ref a1)])) rfl rfl (hb hby d1_9)
  have N11 := Fr.snoc X11 N0 gA
  have Z11 : n0 ≤ h11.size := Nat.le_trans Z2 (Keep.of_wr W11).1
  have F12 : Fld Z h11 a1 "com/example/bristlecone/bristlecone/HashBatch" "input" "[B" (.ref a2) := (F3.same W11)
  have F13 : Fld Z h11 a1 "com/example/bristlecone/bristlecone/HashBatch" "ends" "[I" .null := (F4.other W11 (Or.inr (slot_ne (Or.inr (hw _ (List.mem_of_getElem? (i := 15) rfl))) (Or.inl (hw _ (List.mem_of_getElem? (i := 12) rfl))) (by decide) (t := (.array .int)) (t' := (.array .byte)) (by decide) (by decide))))
  have F14 : Fld Z h11 a1 "com/example/bristlecone/bristlecone/HashBatch" "nodes" "[B" .null := (F5.other W11 (Or.inr (slot_ne (Or.inl (hw _ (List.mem_of_getElem? (i := 17) rfl))) (Or.inl (hw _ (List.mem_of_getElem? (i := 12) rfl))) (by decide) (t := (.array .byte)) (t' := (.array .byte)) (by decide) (by decide))))
  have F15 : Fld Z h11 a1 "com/example/bristlecone/bristlecone/HashBatch" "heightOffsets" "[I" .null := (F6.other W11 (Or.inr (slot_ne (Or.inr (hw _ (List.mem_of_getElem? (i := 19) rfl))) (Or.inl (hw _ (List.mem_of_getElem? (i := 12) rfl))) (by decide) (t := (.array .int)) (t' := (.array .byte)) (by decide) (by decide))))
  have F16 : Fld Z h11 a1 "com/example/bristlecone/bristlecone/HashBatch" "count" "I" (.int (0 : Int32)) := (F7.other W11 (Or.inr (slot_ne (Or.inl (hw _ (List.mem_of_getElem? (i := 31) rfl))) (Or.inl (hw _ (List.mem_of_getElem? (i := 12) rfl))) (by decide) (t := .int) (t' := (.array .byte)) (by decide) (by decide))))
  have F17 : Fld Z h11 a1 "com/example/bristlecone/bristlecone/HashBatch" "length" "I" (.int (0 : Int32)) := (F8.other W11 (Or.inr (slot_ne (Or.inl (hw _ (List.mem_of_getElem? (i := 33) rfl))) (Or.inl (hw _ (List.mem_of_getElem? (i := 12) rfl))) (by decide) (t := .int) (t' := (.array .byte)) (by decide) (by decide))))
  have E18 : Exa Z h11 a1 "com/example/bristlecone/bristlecone/HashBatch" := (E9.wr W11)
  have V19 : Arv Z h11 b kb .byte zb vsB (.int (0 : Int32)) := (V10.other W11 nBA)
  have V20 : Arv Z h11 a2 cA2 .byte (65536 : Int32) [] (.int (0 : Int32)) := (V2.other W11 ne_a1_2.symm)
  refine Gl.st (g' := (mkF m 12 #[.val (.ref a1)] [])) st11 ?_
  refine Gl.st (g' := (mkF m 13 #[.val (.ref a1)] [(.ref a1)])) (fun t k => XS.aloadN X11.here hx rfl (hb hby d1_12) rfl rfl k) ?_
  refine Gl.st (g' := (mkF m 16 #[.val (.ref a1)] [(.int (16384 : Int32)), (.ref a1)])) (fun t k => XT.sipushV X11.here hx rfl (16384 : Int32) (hb hby d1_13) rfl k) ?_
  obtain ⟨T21, h21, cA21, X21, e21, E21, A21, st21⟩ := newP X11 hx hZ (hw _ (List.mem_of_getElem? (i := 13) rfl)) e11 (g := (mkF m 16 #[.val (.ref a1)] [(.int (16384 : Int32)), (.ref a1)])) rfl (hb hby d1_16) rfl (by decide) (cap := 16384) (by decide) (by decide) (by decide) (by decide)
  obtain ⟨a21, g21⟩ : ∃ z, z = h11.size := ⟨_, rfl⟩
  have ge21 : n0 ≤ a21 := Nat.le_trans Z11 (Nat.le_of_eq g21.symm)
  have ne_a1_21 : a1 ≠ a21 := fun q => absurd (g21 ▸ q ▸ (F12.lt : a1 < h11.size)) (Nat.lt_irrefl _)
  have ne_b_21 : b ≠ a21 := fun q => absurd (g21 ▸ q ▸ (V19.lt : b < h11.size)) (Nat.lt_irrefl _)
  have ne_a2_21 : a2 ≠ a21 := fun q => absurd (g21 ▸ q ▸ (V20.lt : a2 < h11.size)) (Nat.lt_irrefl _)
  rw [← g21] at A21 st21
  have Z21 : n0 ≤ h21.size := Nat.le_trans Z11 E21.1
  have V21 : Arv Z h21 a21 cA21 .int (16384 : Int32) [] (.int (0 : Int32)) := Arv.new A21 (by decide)
  have F22 : Fld Z h21 a1 "com/example/bristlecone/bristlecone/HashBatch" "input" "[B" (.ref a2) := (F12.ext E21)
  have F23 : Fld Z h21 a1 "com/example/bristlecone/bristlecone/HashBatch" "ends" "[I" .null := (F13.ext E21)
  have F24 : Fld Z h21 a1 "com/example/bristlecone/bristlecone/HashBatch" "nodes" "[B" .null := (F14.ext E21)
  have F25 : Fld Z h21 a1 "com/example/bristlecone/bristlecone/HashBatch" "heightOffsets" "[I" .null := (F15.ext E21)
  have F26 : Fld Z h21 a1 "com/example/bristlecone/bristlecone/HashBatch" "count" "I" (.int (0 : Int32)) := (F16.ext E21)
  have F27 : Fld Z h21 a1 "com/example/bristlecone/bristlecone/HashBatch" "length" "I" (.int (0 : Int32)) := (F17.ext E21)
  have E28 : Exa Z h21 a1 "com/example/bristlecone/bristlecone/HashBatch" := (E18.ext E21)
  have V29 : Arv Z h21 b kb .byte zb vsB (.int (0 : Int32)) := (V19.ext E21)
  have V30 : Arv Z h21 a2 cA2 .byte (65536 : Int32) [] (.int (0 : Int32)) := (V20.ext E21)
  refine Gl.st (g' := (mkF m 18 #[.val (.ref a1)] [(.ref a21), (.ref a1)])) st21 ?_
  obtain ⟨T31, h31, X31, e31, W31, st31⟩ := putF X21 hx hZ hown (host := "") (Or.inl (hw _ (List.mem_of_getElem? (i := 14) rfl))) Via.refl e21 F23 E28 (Or.inr ⟨(hw _ (List.mem_of_getElem? (i := 15) rfl)), rfl, hnm⟩) (hw _ (List.mem_of_getElem? (i := 2) rfl)) (ty := (.array .int)) (by decide) rfl rfl (g := (mkF m 18 #[.val (.ref a1)] [(.ref a21), (.ref a1)])) rfl rfl (hb hby d1_18)
  have N31 := Fr.snoc X31 N11 gA
  have Z31 : n0 ≤ h31.size := Nat.le_trans Z21 (Keep.of_wr W31).1
  have F32 : Fld Z h31 a1 "com/example/bristlecone/bristlecone/HashBatch" "input" "[B" (.ref a2) := (F22.other W31 (Or.inr (slot_ne (Or.inl (hw _ (List.mem_of_getElem? (i := 12) rfl))) (Or.inr (hw _ (List.mem_of_getElem? (i := 15) rfl))) (by decide) (t := (.array .byte)) (t' := (.array .int)) (by decide) (by decide))))
  have F33 : Fld Z h31 a1 "com/example/bristlecone/bristlecone/HashBatch" "ends" "[I" (.ref a21) := (F23.same W31)
  have F34 : Fld Z h31 a1 "com/example/bristlecone/bristlecone/HashBatch" "nodes" "[B" .null := (F24.other W31 (Or.inr (slot_ne (Or.inl (hw _ (List.mem_of_getElem? (i := 17) rfl))) (Or.inr (hw _ (List.mem_of_getElem? (i := 15) rfl))) (by decide) (t := (.array .byte)) (t' := (.array .int)) (by decide) (by decide))))
  have F35 : Fld Z h31 a1 "com/example/bristlecone/bristlecone/HashBatch" "heightOffsets" "[I" .null := (F25.other W31 (Or.inr (slot_ne (Or.inr (hw _ (List.mem_of_getElem? (i := 19) rfl))) (Or.inr (hw _ (List.mem_of_getElem? (i := 15) rfl))) (by decide) (t := (.array .int)) (t' := (.array .int)) (by decide) (by decide))))
  have F36 : Fld Z h31 a1 "com/example/bristlecone/bristlecone/HashBatch" "count" "I" (.int (0 : Int32)) := (F26.other W31 (Or.inr (slot_ne (Or.inl (hw _ (List.mem_of_getElem? (i := 31) rfl))) (Or.inr (hw _ (List.mem_of_getElem? (i := 15) rfl))) (by decide) (t := .int) (t' := (.array .int)) (by decide) (by decide))))
  have F37 : Fld Z h31 a1 "com/example/bristlecone/bristlecone/HashBatch" "length" "I" (.int (0 : Int32)) := (F27.other W31 (Or.inr (slot_ne (Or.inl (hw _ (List.mem_of_getElem? (i := 33) rfl))) (Or.inr (hw _ (List.mem_of_getElem? (i := 15) rfl))) (by decide) (t := .int) (t' := (.array .int)) (by decide) (by decide))))
  have E38 : Exa Z h31 a1 "com/example/bristlecone/bristlecone/HashBatch" := (E28.wr W31)
  have V39 : Arv Z h31 b kb .byte zb vsB (.int (0 : Int32)) := (V29.other W31 nBA)
  have V40 : Arv Z h31 a2 cA2 .byte (65536 : Int32) [] (.int (0 : Int32)) := (V30.other W31 ne_a1_2.symm)
  have V41 : Arv Z h31 a21 cA21 .int (16384 : Int32) [] (.int (0 : Int32)) := (V21.other W31 ne_a1_21.symm)
  refine Gl.st (g' := (mkF m 21 #[.val (.ref a1)] [])) st31 ?_
  refine Gl.st (g' := (mkF m 22 #[.val (.ref a1)] [(.ref a1)])) (fun t k => XS.aloadN X31.here hx rfl (hb hby d1_21) rfl rfl k) ?_
  refine Gl.st (g' := (mkF m 23 #[.val (.ref a1)] [(.int (0 : Int32)), (.ref a1)])) (fun t k => XT.iconstV X31.here hx rfl (0 : Int32) (hb hby d1_22) rfl k) ?_
  obtain ⟨T42, h42, cA42, X42, e42, E42, A42, st42⟩ := newP X31 hx hZ (hw _ (List.mem_of_getElem? (i := 0) rfl)) e31 (g := (mkF m 23 #[.val (.ref a1)] [(.int (0 : Int32)), (.ref a1)])) rfl (hb hby d1_23) rfl (by decide) (cap := 0) (by decide) (by decide) (by decide) (by decide)
  obtain ⟨a42, g42⟩ : ∃ z, z = h31.size := ⟨_, rfl⟩
  have ge42 : n0 ≤ a42 := Nat.le_trans Z31 (Nat.le_of_eq g42.symm)
  have ne_a1_42 : a1 ≠ a42 := fun q => absurd (g42 ▸ q ▸ (F32.lt : a1 < h31.size)) (Nat.lt_irrefl _)
  have ne_b_42 : b ≠ a42 := fun q => absurd (g42 ▸ q ▸ (V39.lt : b < h31.size)) (Nat.lt_irrefl _)
  have ne_a2_42 : a2 ≠ a42 := fun q => absurd (g42 ▸ q ▸ (V40.lt : a2 < h31.size)) (Nat.lt_irrefl _)
  have ne_a21_42 : a21 ≠ a42 := fun q => absurd (g42 ▸ q ▸ (V41.lt : a21 < h31.size)) (Nat.lt_irrefl _)
  rw [← g42] at A42 st42
  have Z42 : n0 ≤ h42.size := Nat.le_trans Z31 E42.1
  have V42 : Arv Z h42 a42 cA42 .byte (0 : Int32) [] (.int (0 : Int32)) := (Arv.new A42 (by decide)).pad (pad_rep [] _ 0)
  have F43 : Fld Z h42 a1 "com/example/bristlecone/bristlecone/HashBatch" "input" "[B" (.ref a2) := (F32.ext E42)
  have F44 : Fld Z h42 a1 "com/example/bristlecone/bristlecone/HashBatch" "ends" "[I" (.ref a21) := (F33.ext E42)
  have F45 : Fld Z h42 a1 "com/example/bristlecone/bristlecone/HashBatch" "nodes" "[B" .null := (F34.ext E42)
  have F46 : Fld Z h42 a1 "com/example/bristlecone/bristlecone/HashBatch" "heightOffsets" "[I" .null := (F35.ext E42)
  have F47 : Fld Z h42 a1 "com/example/bristlecone/bristlecone/HashBatch" "count" "I" (.int (0 : Int32)) := (F36.ext E42)
  have F48 : Fld Z h42 a1 "com/example/bristlecone/bristlecone/HashBatch" "length" "I" (.int (0 : Int32)) := (F37.ext E42)
  have E49 : Exa Z h42 a1 "com/example/bristlecone/bristlecone/HashBatch" := (E38.ext E42)
  have V50 : Arv Z h42 b kb .byte zb vsB (.int (0 : Int32)) := (V39.ext E42)
  have V51 : Arv Z h42 a2 cA2 .byte (65536 : Int32) [] (.int (0 : Int32)) := (V40.ext E42)
  have V52 : Arv Z h42 a21 cA21 .int (16384 : Int32) [] (.int (0 : Int32)) := (V41.ext E42)
  refine Gl.st (g' := (mkF m 25 #[.val (.ref a1)] [(.ref a42), (.ref a1)])) st42 ?_
  obtain ⟨T53, h53, X53, e53, W53, st53⟩ := putF X42 hx hZ hown (host := "") (Or.inl (hw _ (List.mem_of_getElem? (i := 16) rfl))) Via.refl e42 F45 E49 (Or.inl (hw _ (List.mem_of_getElem? (i := 17) rfl))) (hw _ (List.mem_of_getElem? (i := 2) rfl)) (ty := (.array .byte)) (by decide) rfl rfl (g := (mkF m 25 #[.val (.ref a1)] [(.ref a42), (.ref a1)])) rfl rfl (hb hby d1_25)
  have N53 := Fr.snoc X53 N31 gA
  have Z53 : n0 ≤ h53.size := Nat.le_trans Z42 (Keep.of_wr W53).1
  have F54 : Fld Z h53 a1 "com/example/bristlecone/bristlecone/HashBatch" "input" "[B" (.ref a2) := (F43.other W53 (Or.inr (slot_ne (Or.inl (hw _ (List.mem_of_getElem? (i := 12) rfl))) (Or.inl (hw _ (List.mem_of_getElem? (i := 17) rfl))) (by decide) (t := (.array .byte)) (t' := (.array .byte)) (by decide) (by decide))))
  have F55 : Fld Z h53 a1 "com/example/bristlecone/bristlecone/HashBatch" "ends" "[I" (.ref a21) := (F44.other W53 (Or.inr (slot_ne (Or.inr (hw _ (List.mem_of_getElem? (i := 15) rfl))) (Or.inl (hw _ (List.mem_of_getElem? (i := 17) rfl))) (by decide) (t := (.array .int)) (t' := (.array .byte)) (by decide) (by decide))))
  have F56 : Fld Z h53 a1 "com/example/bristlecone/bristlecone/HashBatch" "nodes" "[B" (.ref a42) := (F45.same W53)
  have F57 : Fld Z h53 a1 "com/example/bristlecone/bristlecone/HashBatch" "heightOffsets" "[I" .null := (F46.other W53 (Or.inr (slot_ne (Or.inr (hw _ (List.mem_of_getElem? (i := 19) rfl))) (Or.inl (hw _ (List.mem_of_getElem? (i := 17) rfl))) (by decide) (t := (.array .int)) (t' := (.array .byte)) (by decide) (by decide))))
  have F58 : Fld Z h53 a1 "com/example/bristlecone/bristlecone/HashBatch" "count" "I" (.int (0 : Int32)) := (F47.other W53 (Or.inr (slot_ne (Or.inl (hw _ (List.mem_of_getElem? (i := 31) rfl))) (Or.inl (hw _ (List.mem_of_getElem? (i := 17) rfl))) (by decide) (t := .int) (t' := (.array .byte)) (by decide) (by decide))))
  have F59 : Fld Z h53 a1 "com/example/bristlecone/bristlecone/HashBatch" "length" "I" (.int (0 : Int32)) := (F48.other W53 (Or.inr (slot_ne (Or.inl (hw _ (List.mem_of_getElem? (i := 33) rfl))) (Or.inl (hw _ (List.mem_of_getElem? (i := 17) rfl))) (by decide) (t := .int) (t' := (.array .byte)) (by decide) (by decide))))
  have E60 : Exa Z h53 a1 "com/example/bristlecone/bristlecone/HashBatch" := (E49.wr W53)
  have V61 : Arv Z h53 b kb .byte zb vsB (.int (0 : Int32)) := (V50.other W53 nBA)
  have V62 : Arv Z h53 a2 cA2 .byte (65536 : Int32) [] (.int (0 : Int32)) := (V51.other W53 ne_a1_2.symm)
  have V63 : Arv Z h53 a21 cA21 .int (16384 : Int32) [] (.int (0 : Int32)) := (V52.other W53 ne_a1_21.symm)
  have V64 : Arv Z h53 a42 cA42 .byte (0 : Int32) [] (.int (0 : Int32)) := (V42.other W53 ne_a1_42.symm)
  refine Gl.st (g' := (mkF m 28 #[.val (.ref a1)] [])) st53 ?_
  refine Gl.st (g' := (mkF m 29 #[.val (.ref a1)] [(.ref a1)])) (fun t k => XS.aloadN X53.here hx rfl (hb hby d1_28) rfl rfl k) ?_
  refine Gl.st (g' := (mkF m 31 #[.val (.ref a1)] [(.int (64 : Int32)), (.ref a1)])) (fun t k => XT.bipushV X53.here hx rfl (64 : Int32) (hb hby d1_29) rfl k) ?_
  obtain ⟨T65, h65, cA65, X65, e65, E65, A65, st65⟩ := newP X53 hx hZ (hw _ (List.mem_of_getElem? (i := 13) rfl)) e53 (g := (mkF m 31 #[.val (.ref a1)] [(.int (64 : Int32)), (.ref a1)])) rfl (hb hby d1_31) rfl (by decide) (cap := 64) (by decide) (by decide) (by decide) (by decide)
  obtain ⟨a65, g65⟩ : ∃ z, z = h53.size := ⟨_, rfl⟩
  have ge65 : n0 ≤ a65 := Nat.le_trans Z53 (Nat.le_of_eq g65.symm)
  have ne_a1_65 : a1 ≠ a65 := fun q => absurd (g65 ▸ q ▸ (F54.lt : a1 < h53.size)) (Nat.lt_irrefl _)
  have ne_b_65 : b ≠ a65 := fun q => absurd (g65 ▸ q ▸ (V61.lt : b < h53.size)) (Nat.lt_irrefl _)
  have ne_a2_65 : a2 ≠ a65 := fun q => absurd (g65 ▸ q ▸ (V62.lt : a2 < h53.size)) (Nat.lt_irrefl _)
  have ne_a21_65 : a21 ≠ a65 := fun q => absurd (g65 ▸ q ▸ (V63.lt : a21 < h53.size)) (Nat.lt_irrefl _)
  have ne_a42_65 : a42 ≠ a65 := fun q => absurd (g65 ▸ q ▸ (V64.lt : a42 < h53.size)) (Nat.lt_irrefl _)
  rw [← g65] at A65 st65
  have Z65 : n0 ≤ h65.size := Nat.le_trans Z53 E65.1
  have V65 : Arv Z h65 a65 cA65 .int (64 : Int32) [] (.int (0 : Int32)) := Arv.new A65 (by decide)
  have F66 : Fld Z h65 a1 "com/example/bristlecone/bristlecone/HashBatch" "input" "[B" (.ref a2) := (F54.ext E65)
  have F67 : Fld Z h65 a1 "com/example/bristlecone/bristlecone/HashBatch" "ends" "[I" (.ref a21) := (F55.ext E65)
  have F68 : Fld Z h65 a1 "com/example/bristlecone/bristlecone/HashBatch" "nodes" "[B" (.ref a42) := (F56.ext E65)
  have F69 : Fld Z h65 a1 "com/example/bristlecone/bristlecone/HashBatch" "heightOffsets" "[I" .null := (F57.ext E65)
  have F70 : Fld Z h65 a1 "com/example/bristlecone/bristlecone/HashBatch" "count" "I" (.int (0 : Int32)) := (F58.ext E65)
  have F71 : Fld Z h65 a1 "com/example/bristlecone/bristlecone/HashBatch" "length" "I" (.int (0 : Int32)) := (F59.ext E65)
  have E72 : Exa Z h65 a1 "com/example/bristlecone/bristlecone/HashBatch" := (E60.ext E65)
  have V73 : Arv Z h65 b kb .byte zb vsB (.int (0 : Int32)) := (V61.ext E65)
  have V74 : Arv Z h65 a2 cA2 .byte (65536 : Int32) [] (.int (0 : Int32)) := (V62.ext E65)
  have V75 : Arv Z h65 a21 cA21 .int (16384 : Int32) [] (.int (0 : Int32)) := (V63.ext E65)
  have V76 : Arv Z h65 a42 cA42 .byte (0 : Int32) [] (.int (0 : Int32)) := (V64.ext E65)
  refine Gl.st (g' := (mkF m 33 #[.val (.ref a1)] [(.ref a65), (.ref a1)])) st65 ?_
  obtain ⟨T77, h77, X77, e77, W77, st77⟩ := putF X65 hx hZ hown (host := "") (Or.inl (hw _ (List.mem_of_getElem? (i := 18) rfl))) Via.refl e65 F69 E72 (Or.inr ⟨(hw _ (List.mem_of_getElem? (i := 19) rfl)), rfl, hnm⟩) (hw _ (List.mem_of_getElem? (i := 2) rfl)) (ty := (.array .int)) (by decide) rfl rfl (g := (mkF m 33 #[.val (.ref a1)] [(.ref a65), (.ref a1)])) rfl rfl (hb hby d1_33)
  have N77 := Fr.snoc X77 N53 gA
  have Z77 : n0 ≤ h77.size := Nat.le_trans Z65 (Keep.of_wr W77).1
  have F78 : Fld Z h77 a1 "com/example/bristlecone/bristlecone/HashBatch" "input" "[B" (.ref a2) := (F66.other W77 (Or.inr (slot_ne (Or.inl (hw _ (List.mem_of_getElem? (i := 12) rfl))) (Or.inr (hw _ (List.mem_of_getElem? (i := 19) rfl))) (by decide) (t := (.array .byte)) (t' := (.array .int)) (by decide) (by decide))))
  have F79 : Fld Z h77 a1 "com/example/bristlecone/bristlecone/HashBatch" "ends" "[I" (.ref a21) := (F67.other W77 (Or.inr (slot_ne (Or.inr (hw _ (List.mem_of_getElem? (i := 15) rfl))) (Or.inr (hw _ (List.mem_of_getElem? (i := 19) rfl))) (by decide) (t := (.array .int)) (t' := (.array .int)) (by decide) (by decide))))
  have F80 : Fld Z h77 a1 "com/example/bristlecone/bristlecone/HashBatch" "nodes" "[B" (.ref a42) := (F68.other W77 (Or.inr (slot_ne (Or.inl (hw _ (List.mem_of_getElem? (i := 17) rfl))) (Or.inr (hw _ (List.mem_of_getElem? (i := 19) rfl))) (by decide) (t := (.array .byte)) (t' := (.array .int)) (by decide) (by decide))))
  have F81 : Fld Z h77 a1 "com/example/bristlecone/bristlecone/HashBatch" "heightOffsets" "[I" (.ref a65) := (F69.same W77)
  have F82 : Fld Z h77 a1 "com/example/bristlecone/bristlecone/HashBatch" "count" "I" (.int (0 : Int32)) := (F70.other W77 (Or.inr (slot_ne (Or.inl (hw _ (List.mem_of_getElem? (i := 31) rfl))) (Or.inr (hw _ (List.mem_of_getElem? (i := 19) rfl))) (by decide) (t := .int) (t' := (.array .int)) (by decide) (by decide))))
  have F83 : Fld Z h77 a1 "com/example/bristlecone/bristlecone/HashBatch" "length" "I" (.int (0 : Int32)) := (F71.other W77 (Or.inr (slot_ne (Or.inl (hw _ (List.mem_of_getElem? (i := 33) rfl))) (Or.inr (hw _ (List.mem_of_getElem? (i := 19) rfl))) (by decide) (t := .int) (t' := (.array .int)) (by decide) (by decide))))
  have E84 : Exa Z h77 a1 "com/example/bristlecone/bristlecone/HashBatch" := (E72.wr W77)
  have V85 : Arv Z h77 b kb .byte zb vsB (.int (0 : Int32)) := (V73.other W77 nBA)
  have V86 : Arv Z h77 a2 cA2 .byte (65536 : Int32) [] (.int (0 : Int32)) := (V74.other W77 ne_a1_2.symm)
  have V87 : Arv Z h77 a21 cA21 .int (16384 : Int32) [] (.int (0 : Int32)) := (V75.other W77 ne_a1_21.symm)
  have V88 : Arv Z h77 a42 cA42 .byte (0 : Int32) [] (.int (0 : Int32)) := (V76.other W77 ne_a1_42.symm)
  have V89 : Arv Z h77 a65 cA65 .int (64 : Int32) [] (.int (0 : Int32)) := (V65.other W77 ne_a1_65.symm)
  refine Gl.st (g' := (mkF m 36 #[.val (.ref a1)] [])) st77 ?_
  refine Gl.retV X77 hx hlk Bd.returns (hb hby d1_36) e77 (by decide) (by decide) ?_
  exact ⟨rfl, N77, ⟨Z77, E84, gA, ⟨_, V85⟩, nBA, a2, a21, _, _, F78, F79, F82, F83, ⟨_, V86⟩, ⟨_, V87⟩, ge2, ge21, ne_a1_2, ne_a1_21, ne_a2_21, ne_b_2, ne_b_21⟩⟩
theorem d2_0 : decode prog_11_method_6_code 0 = .ok (.aload_n 0, 1) := by decide +kernel
theorem d2_1 : decode prog_11_method_6_code 1 = .ok (.getfield 41, 3) := by decide +kernel
theorem d2_4 : decode prog_11_method_6_code 4 = .ok (.ifCond .eq 24, 3) := by decide +kernel
theorem d2_7 : decode prog_11_method_6_code 7 = .ok (.aload_n 0, 1) := by decide +kernel
theorem d2_8 : decode prog_11_method_6_code 8 = .ok (.getfield 41, 3) := by decide +kernel
theorem d2_11 : decode prog_11_method_6_code 11 = .ok (.sipush 16384, 3) := by decide +kernel
theorem d2_14 : decode prog_11_method_6_code 14 = .ok (.if_icmp .ge 18, 3) := by decide +kernel
theorem d2_17 : decode prog_11_method_6_code 17 = .ok (.aload_n 0, 1) := by decide +kernel
theorem d2_18 : decode prog_11_method_6_code 18 = .ok (.getfield 45, 3) := by decide +kernel
theorem d2_21 : decode prog_11_method_6_code 21 = .ok (.iload_n 1, 1) := by decide +kernel
theorem d2_22 : decode prog_11_method_6_code 22 = .ok (.iadd, 1) := by decide +kernel
theorem d2_23 : decode prog_11_method_6_code 23 = .ok (.ldc 51, 2) := by decide +kernel
theorem d2_25 : decode prog_11_method_6_code 25 = .ok (.if_icmp .gt 7, 3) := by decide +kernel
theorem d2_28 : decode prog_11_method_6_code 28 = .ok (.iconst 1, 1) := by decide +kernel
theorem d2_29 : decode prog_11_method_6_code 29 = .ok (.goto 4, 3) := by decide +kernel
theorem d2_32 : decode prog_11_method_6_code 32 = .ok (.iconst 0, 1) := by decide +kernel
theorem d2_33 : decode prog_11_method_6_code 33 = .ok (.ireturn, 1) := by decide +kernel
theorem ef_2 (m : MethodId) (a1 : Addr) (p1 : Int32) : entryFrame m #[(.ref a1), (.int p1)] 2 = mkF m 0 #[.val (.ref a1), .val (.int p1)] [] := by first | (simp [entryFrame, mkF, argsToLocals, Value.category]; done) | rfl
def Q2 (Z : State) (a1 : Addr) (p1 : Int32) (b : Addr) (kb : ClassId) (zb cnt len : Int32) (h0 : Heap) (n0 : Nat) (v : Option Value) (h : Heap) (L : List Loc) : Prop := v = some (.int (own_fits cnt len p1)) ∧ Fr n0 L ∧ h = h0
set_option maxRecDepth 65536 in
set_option maxHeartbeats 40000000 in
theorem rm2 (l : Launch) (Z : State) (a0 : Array Value) (hw : ∀ d ∈ tables_1, d.before a0 Z = true) (a1 : Addr) (p1 : Int32) (b : Addr) (kb : ClassId) (zb cnt len : Int32) (h0 : Heap) (n0 : Nat) (Z0 : n0 ≤ h0.size) (H : HB Z n0 a1 b kb zb h0 cnt len) :
    MetFree l (⟨"com/example/bristlecone/bristlecone/HashBatch", "fits", "(I)Z"⟩ : MethodName) (head1 [Jvm.Cond.code (⟨"com/example/bristlecone/bristlecone/HashBatch", "fits", "(I)Z"⟩ : MethodName) prog_11_method_6_code 2 (some .boolean)] ({ frames := 0, cells := 0, slots := 0, locals := 0 } : Room)) (fun a U => a = #[(.ref a1), (.int p1)] ∧ Z.Warmed39 U.vm ∧ U.heap = h0) (fun _ _ _ _ _ => True) (fun _ U o U' => ∃ v L, o = .returned v ∧ Q2 Z a1 p1 b kb zb cnt len h0 n0 v U'.heap L ∧ FrameEnd U o U' L ({ frames := 0, cells := 0, slots := 0, locals := 0 } : Room).cells ({ frames := 0, cells := 0, slots := 0, locals := 0 } : Room).slots) := by
  refine MetFree.of_bodySF (plainFor_of_name pn_0) hisR ?_
  intro p e s m args below meth c s₁ Bd hml0 hP hK
  obtain ⟨rfl, hZ, hh⟩ := hP
  have hx := Bd.exec
  have hby := Bd.bytes
  have hlk : meth.locks = false := Bd.notSynchronized
  have hml : c.maxLocals = 2 := hml0
  have hown : s.vm.findClass "com/example/bristlecone/bristlecone/HashBatch" = some m.cls := findClass_of_methodNamed Bd.named
  have hnm := (name_of_methodNamed Bd.named Bd.method).1
  have X0 : Stand p l e ({ frames := 0, cells := 0, slots := 0, locals := 0 } : Room) s m #[(.ref a1), (.int p1)] below meth c s₁ [] 0 0 := Stand.of_body Bd
  have e0 : s₁.heap = h0 := by rw [← hh, Bd.state]; rfl
  have N0 := Fr.nil n0
  show Gl p e below s (Q2 Z a1 p1 b kb zb cnt len h0 n0) 0 0 s₁ (entryFrame m #[(.ref a1), (.int p1)] 2)
  rw [ef_2 m a1 p1]
  obtain ⟨hZ1, EX, gA, ⟨vsB, VB⟩, nBA, aI, aE, kI, kE, Finput, Fends, Fcount, Flength, ⟨vsI, VI⟩, ⟨vsE, VE⟩, gI, gE, nAI, nAE, nIE, nBI, nBE⟩ := H
  have Z0 := hZ1
  refine Gl.st (g' := (mkF m 1 #[.val (.ref a1), .val (.int p1)] [(.ref a1)])) (fun t k => XS.aloadN X0.here hx rfl (hb hby d2_0) rfl rfl k) ?_
  obtain ⟨T90, X90, e90, st90⟩ := getF X0 hx hZ hown (host := "") (Or.inl (hw _ (List.mem_of_getElem? (i := 30) rfl))) Via.refl e0 Fcount (g := (mkF m 1 #[.val (.ref a1), .val (.int p1)] [(.ref a1)])) rfl rfl (hb hby d2_1)
  refine Gl.st (g' := (mkF m 4 #[.val (.ref a1), .val (.int p1)] [(.int cnt)])) st90 ?_
  by_cases c91 : cnt = (0 : Int32)
  · skip
    refine Gl.st (g' := (mkF m 28 #[.val (.ref a1), .val (.int p1)] [])) (fun t k => XS.ifYes X90.here hx rfl (pc0 := 4) (pc' := 28) rfl (hb hby d2_4) rfl (XT.i0_eq_t c91) (by decide) (by decide) k) ?_
    refine Gl.st (g' := (mkF m 29 #[.val (.ref a1), .val (.int p1)] [(.int (1 : Int32))])) (fun t k => XT.iconstV X90.here hx rfl (1 : Int32) (hb hby d2_28) rfl k) ?_
    refine Gl.st (g' := (mkF m 33 #[.val (.ref a1), .val (.int p1)] [(.int (1 : Int32))])) (fun t k => XS.goto X90.here hx rfl (pc0 := 29) (pc' := 33) rfl (hb hby d2_29) (by decide) (by decide) k) ?_
    refine Gl.retZ X90 hx hlk .boolean (by simp) Bd.returns (hb hby d2_33) e90 (by decide) (by decide) ?_
    refine ⟨?_, N0, rfl⟩
    rw [own_z1]
    unfold own_fits
    rw [if_pos c91]
  · skip
    refine Gl.st (g' := (mkF m 7 #[.val (.ref a1), .val (.int p1)] [])) (fun t k => XS.ifNo X90.here hx rfl (hb hby d2_4) rfl (XT.i0_eq_f c91) k) ?_
    refine Gl.st (g' := (mkF m 8 #[.val (.ref a1), .val (.int p1)] [(.ref a1)])) (fun t k => XS.aloadN X90.here hx rfl (hb hby d2_7) rfl rfl k) ?_
    obtain ⟨T92, X92, e92, st92⟩ := getF X90 hx hZ hown (host := "") (Or.inl (hw _ (List.mem_of_getElem? (i := 30) rfl))) Via.refl e90 Fcount (g := (mkF m 8 #[.val (.ref a1), .val (.int p1)] [(.ref a1)])) rfl rfl (hb hby d2_8)
    refine Gl.st (g' := (mkF m 11 #[.val (.ref a1), .val (.int p1)] [(.int cnt)])) st92 ?_
    refine Gl.st (g' := (mkF m 14 #[.val (.ref a1), .val (.int p1)] [(.int (16384 : Int32)), (.int cnt)])) (fun t k => XT.sipushV X92.here hx rfl (16384 : Int32) (hb hby d2_11) rfl k) ?_
    by_cases c93 : cnt < (16384 : Int32)
    · skip
      refine Gl.st (g' := (mkF m 17 #[.val (.ref a1), .val (.int p1)] [])) (fun t k => XS.icmpNo X92.here hx rfl (hb hby d2_14) rfl (XT.ii_ge_f c93) k) ?_
      refine Gl.st (g' := (mkF m 18 #[.val (.ref a1), .val (.int p1)] [(.ref a1)])) (fun t k => XS.aloadN X92.here hx rfl (hb hby d2_17) rfl rfl k) ?_
      obtain ⟨T94, X94, e94, st94⟩ := getF X92 hx hZ hown (host := "") (Or.inl (hw _ (List.mem_of_getElem? (i := 32) rfl))) Via.refl e92 Flength (g := (mkF m 18 #[.val (.ref a1), .val (.int p1)] [(.ref a1)])) rfl rfl (hb hby d2_18)
      refine Gl.st (g' := (mkF m 21 #[.val (.ref a1), .val (.int p1)] [(.int len)])) st94 ?_
      refine Gl.st (g' := (mkF m 22 #[.val (.ref a1), .val (.int p1)] [(.int p1), (.int len)])) (fun t k => XS.iloadN X94.here hx rfl (hb hby d2_21) rfl k) ?_
      refine Gl.st (g' := (mkF m 23 #[.val (.ref a1), .val (.int p1)] [(.int (len + p1))])) (fun t k => XS.iadd X94.here hx rfl (hb hby d2_22) rfl k) ?_
      refine Gl.st (g' := (mkF m 25 #[.val (.ref a1), .val (.int p1)] [(.int (1048576 : Int32)), (.int (len + p1))])) (fun t k => X94.ldcI hx hown (mvT hZ (hw _ (List.mem_of_getElem? (i := 38) rfl))) rfl (hb hby d2_23) k) ?_
      by_cases c95 : (1048576 : Int32) < (len + p1)
      · skip
        refine Gl.st (g' := (mkF m 32 #[.val (.ref a1), .val (.int p1)] [])) (fun t k => XS.icmpYes X94.here hx rfl (pc0 := 25) (pc' := 32) rfl (hb hby d2_25) rfl (XT.ii_gt_t c95) (by decide) (by decide) k) ?_
        refine Gl.st (g' := (mkF m 33 #[.val (.ref a1), .val (.int p1)] [(.int (0 : Int32))])) (fun t k => XT.iconstV X94.here hx rfl (0 : Int32) (hb hby d2_32) rfl k) ?_
        refine Gl.retZ X94 hx hlk .boolean (by simp) Bd.returns (hb hby d2_33) e94 (by decide) (by decide) ?_
        refine ⟨?_, N0, rfl⟩
        rw [own_z0]
        unfold own_fits
        rw [if_neg c91, if_pos c93, if_pos c95]
      · skip
        refine Gl.st (g' := (mkF m 28 #[.val (.ref a1), .val (.int p1)] [])) (fun t k => XS.icmpNo X94.here hx rfl (hb hby d2_25) rfl (XT.ii_gt_f c95) k) ?_
        refine Gl.st (g' := (mkF m 29 #[.val (.ref a1), .val (.int p1)] [(.int (1 : Int32))])) (fun t k => XT.iconstV X94.here hx rfl (1 : Int32) (hb hby d2_28) rfl k) ?_
        refine Gl.st (g' := (mkF m 33 #[.val (.ref a1), .val (.int p1)] [(.int (1 : Int32))])) (fun t k => XS.goto X94.here hx rfl (pc0 := 29) (pc' := 33) rfl (hb hby d2_29) (by decide) (by decide) k) ?_
        refine Gl.retZ X94 hx hlk .boolean (by simp) Bd.returns (hb hby d2_33) e94 (by decide) (by decide) ?_
        refine ⟨?_, N0, rfl⟩
        rw [own_z1]
        unfold own_fits
        rw [if_neg c91, if_pos c93, if_neg c95]
    · skip
      refine Gl.st (g' := (mkF m 32 #[.val (.ref a1), .val (.int p1)] [])) (fun t k => XS.icmpYes X92.here hx rfl (pc0 := 14) (pc' := 32) rfl (hb hby d2_14) rfl (XT.ii_ge_t c93) (by decide) (by decide) k) ?_
      refine Gl.st (g' := (mkF m 33 #[.val (.ref a1), .val (.int p1)] [(.int (0 : Int32))])) (fun t k => XT.iconstV X92.here hx rfl (0 : Int32) (hb hby d2_32) rfl k) ?_
      refine Gl.retZ X92 hx hlk .boolean (by simp) Bd.returns (hb hby d2_33) e92 (by decide) (by decide) ?_
      refine ⟨?_, N0, rfl⟩
      rw [own_z0]
      unfold own_fits
      rw [if_neg c91, if_neg c93]
theorem pd_0 : parseMethodDescriptor "(I)Z" = some ⟨[.int], some .boolean⟩ := by decide +kernel
theorem d3_0 : decode prog_11_method_7_code 0 = .ok (.aload_n 0, 1) := by decide +kernel
theorem d3_1 : decode prog_11_method_7_code 1 = .ok (.iload_n 3, 1) := by decide +kernel
theorem d3_2 : decode prog_11_method_7_code 2 = .ok (.invokevirtual 52, 3) := by decide +kernel
theorem d3_5 : decode prog_11_method_7_code 5 = .ok (.ifCond .ne 17, 3) := by decide +kernel
theorem d3_8 : decode prog_11_method_7_code 8 = .ok (.new 56, 3) := by decide +kernel
theorem d3_11 : decode prog_11_method_7_code 11 = .ok (.dup, 1) := by decide +kernel
theorem d3_12 : decode prog_11_method_7_code 12 = .ok (.iload_n 3, 1) := by decide +kernel
theorem d3_13 : decode prog_11_method_7_code 13 = .ok (.invokedynamic 58, 5) := by decide +kernel
theorem d3_18 : decode prog_11_method_7_code 18 = .ok (.invokespecial 61, 3) := by decide +kernel
theorem d3_21 : decode prog_11_method_7_code 21 = .ok (.athrow, 1) := by decide +kernel
theorem d3_22 : decode prog_11_method_7_code 22 = .ok (.aload_n 0, 1) := by decide +kernel
theorem d3_23 : decode prog_11_method_7_code 23 = .ok (.getfield 45, 3) := by decide +kernel
theorem d3_26 : decode prog_11_method_7_code 26 = .ok (.iload_n 3, 1) := by decide +kernel
theorem d3_27 : decode prog_11_method_7_code 27 = .ok (.iadd, 1) := by decide +kernel
theorem d3_28 : decode prog_11_method_7_code 28 = .ok (.istore 4, 2) := by decide +kernel
theorem d3_30 : decode prog_11_method_7_code 30 = .ok (.iload 4, 2) := by decide +kernel
theorem d3_32 : decode prog_11_method_7_code 32 = .ok (.aload_n 0, 1) := by decide +kernel
theorem d3_33 : decode prog_11_method_7_code 33 = .ok (.getfield 10, 3) := by decide +kernel
theorem d3_36 : decode prog_11_method_7_code 36 = .ok (.arraylength, 1) := by decide +kernel
theorem d3_37 : decode prog_11_method_7_code 37 = .ok (.if_icmp .le 31, 3) := by decide +kernel
theorem d3_40 : decode prog_11_method_7_code 40 = .ok (.aload_n 0, 1) := by decide +kernel
theorem d3_41 : decode prog_11_method_7_code 41 = .ok (.aload_n 0, 1) := by decide +kernel
theorem d3_42 : decode prog_11_method_7_code 42 = .ok (.getfield 10, 3) := by decide +kernel
theorem d3_45 : decode prog_11_method_7_code 45 = .ok (.iload 4, 2) := by decide +kernel
theorem d3_47 : decode prog_11_method_7_code 47 = .ok (.iconst 2, 1) := by decide +kernel
theorem d3_48 : decode prog_11_method_7_code 48 = .ok (.aload_n 0, 1) := by decide +kernel
theorem d3_49 : decode prog_11_method_7_code 49 = .ok (.getfield 10, 3) := by decide +kernel
theorem d3_52 : decode prog_11_method_7_code 52 = .ok (.arraylength, 1) := by decide +kernel
theorem d3_53 : decode prog_11_method_7_code 53 = .ok (.imul, 1) := by decide +kernel
theorem d3_54 : decode prog_11_method_7_code 54 = .ok (.ldc 51, 2) := by decide +kernel
theorem d3_56 : decode prog_11_method_7_code 56 = .ok (.invokestatic 62, 3) := by decide +kernel
theorem d3_59 : decode prog_11_method_7_code 59 = .ok (.invokestatic 68, 3) := by decide +kernel
theorem d3_62 : decode prog_11_method_7_code 62 = .ok (.invokestatic 71, 3) := by decide +kernel
theorem d3_65 : decode prog_11_method_7_code 65 = .ok (.putfield 10, 3) := by decide +kernel
theorem d3_68 : decode prog_11_method_7_code 68 = .ok (.aload_n 1, 1) := by decide +kernel
theorem d3_69 : decode prog_11_method_7_code 69 = .ok (.iload_n 2, 1) := by decide +kernel
theorem d3_70 : decode prog_11_method_7_code 70 = .ok (.aload_n 0, 1) := by decide +kernel
theorem d3_71 : decode prog_11_method_7_code 71 = .ok (.getfield 10, 3) := by decide +kernel
theorem d3_74 : decode prog_11_method_7_code 74 = .ok (.aload_n 0, 1) := by decide +kernel
theorem d3_75 : decode prog_11_method_7_code 75 = .ok (.getfield 45, 3) := by decide +kernel
theorem d3_78 : decode prog_11_method_7_code 78 = .ok (.iload_n 3, 1) := by decide +kernel
theorem d3_79 : decode prog_11_method_7_code 79 = .ok (.invokestatic 77, 3) := by decide +kernel
theorem d3_82 : decode prog_11_method_7_code 82 = .ok (.aload_n 0, 1) := by decide +kernel
theorem d3_83 : decode prog_11_method_7_code 83 = .ok (.iload 4, 2) := by decide +kernel
theorem d3_85 : decode prog_11_method_7_code 85 = .ok (.putfield 45, 3) := by decide +kernel
theorem d3_88 : decode prog_11_method_7_code 88 = .ok (.aload_n 0, 1) := by decide +kernel
theorem d3_89 : decode prog_11_method_7_code 89 = .ok (.getfield 16, 3) := by decide +kernel
theorem d3_92 : decode prog_11_method_7_code 92 = .ok (.aload_n 0, 1) := by decide +kernel
theorem d3_93 : decode prog_11_method_7_code 93 = .ok (.dup, 1) := by decide +kernel
theorem d3_94 : decode prog_11_method_7_code 94 = .ok (.getfield 41, 3) := by decide +kernel
theorem d3_97 : decode prog_11_method_7_code 97 = .ok (.dup_x1, 1) := by decide +kernel
theorem d3_98 : decode prog_11_method_7_code 98 = .ok (.iconst 1, 1) := by decide +kernel
theorem d3_99 : decode prog_11_method_7_code 99 = .ok (.iadd, 1) := by decide +kernel
theorem d3_100 : decode prog_11_method_7_code 100 = .ok (.putfield 41, 3) := by decide +kernel
theorem d3_103 : decode prog_11_method_7_code 103 = .ok (.iload 4, 2) := by decide +kernel
theorem d3_105 : decode prog_11_method_7_code 105 = .ok (.iastore, 1) := by decide +kernel
theorem d3_106 : decode prog_11_method_7_code 106 = .ok (.return_, 1) := by decide +kernel
theorem ef_3 (m : MethodId) (a1 : Addr) (b : Addr) (p3 : Int32) (p4 : Int32) : entryFrame m #[(.ref a1), (.ref b), (.int p3), (.int p4)] 5 = mkF m 0 #[.val (.ref a1), .val (.ref b), .val (.int p3), .val (.int p4), .unset] [] := by first | (simp [entryFrame, mkF, argsToLocals, Value.category]; done) | rfl
def Q3 (Z : State) (a1 : Addr) (b : Addr) (p3 : Int32) (p4 : Int32) (kb : ClassId) (zb cnt len : Int32) (h0 : Heap) (n0 : Nat) (v : Option Value) (h : Heap) (L : List Loc) : Prop := v = none ∧ Fr n0 L ∧ HB Z n0 a1 b kb zb h (cnt + (1 : Int32)) (len + p4)
set_option maxRecDepth 65536 in
set_option maxHeartbeats 40000000 in
theorem rm3 (l : Launch) (Z : State) (a0 : Array Value) (hw : ∀ d ∈ tables_1, d.before a0 Z = true) (a1 : Addr) (b : Addr) (p3 : Int32) (p4 : Int32) (kb : ClassId) (zb cnt len : Int32) (h0 : Heap) (n0 : Nat) (Z0 : n0 ≤ h0.size) (H : HB Z n0 a1 b kb zb h0 cnt len) (hp3 : p3 = 0) (hp : Sm 1000 p4) (hc0 : Sm 1000 cnt) (hl0 : Sm 1000 len) (hzb : p4.toNatClampNeg ≤ zb.toNatClampNeg) :
    MetFree l (⟨"com/example/bristlecone/bristlecone/HashBatch", "add", "([BII)V"⟩ : MethodName) (head1 [Jvm.Cond.code (⟨"com/example/bristlecone/bristlecone/HashBatch", "add", "([BII)V"⟩ : MethodName) prog_11_method_7_code 5 none] ({ frames := 1, cells := 0, slots := 0, locals := 24 } : Room)) (fun a U => a = #[(.ref a1), (.ref b), (.int p3), (.int p4)] ∧ Z.Warmed39 U.vm ∧ U.heap = h0) (fun _ _ _ _ _ => True) (fun _ U o U' => ∃ v L, o = .returned v ∧ Q3 Z a1 b p3 p4 kb zb cnt len h0 n0 v U'.heap L ∧ FrameEnd U o U' L ({ frames := 1, cells := 0, slots := 0, locals := 24 } : Room).cells ({ frames := 1, cells := 0, slots := 0, locals := 24 } : Room).slots) := by
  refine MetFree.of_bodySF (plainFor_of_name pn_0) hisR ?_
  intro p e s m args below meth c s₁ Bd hml0 hP hK
  obtain ⟨rfl, hZ, hh⟩ := hP
  have hx := Bd.exec
  have hby := Bd.bytes
  have hlk : meth.locks = false := Bd.notSynchronized
  have hml : c.maxLocals = 5 := hml0
  have hown : s.vm.findClass "com/example/bristlecone/bristlecone/HashBatch" = some m.cls := findClass_of_methodNamed Bd.named
  have hnm := (name_of_methodNamed Bd.named Bd.method).1
  have X0 : Stand p l e ({ frames := 1, cells := 0, slots := 0, locals := 24 } : Room) s m #[(.ref a1), (.ref b), (.int p3), (.int p4)] below meth c s₁ [] 0 0 := Stand.of_body Bd
  have e0 : s₁.heap = h0 := by rw [← hh, Bd.state]; rfl
  have N0 := Fr.nil n0
  show Gl p e below s (Q3 Z a1 b p3 p4 kb zb cnt len h0 n0) 0 0 s₁ (entryFrame m #[(.ref a1), (.ref b), (.int p3), (.int p4)] 5)
  rw [ef_3 m a1 b p3 p4]
  have H0 := H
  obtain ⟨hZ1, EX, gA, ⟨vsB, VB⟩, nBA, aI, aE, kI, kE, Finput, Fends, Fcount, Flength, ⟨vsI, VI⟩, ⟨vsE, VE⟩, gI, gE, nAI, nAE, nIE, nBI, nBE⟩ := H
  have Z0 := hZ1
  have hs1 : p3.toNatClampNeg + p4.toNatClampNeg ≤ zb.toNatClampNeg := by rw [hp3]; have := hp.clamp; have := hp.2; have := hzb; show 0 + _ ≤ _; omega
  have hs2 : len.toNatClampNeg + p4.toNatClampNeg ≤ (65536 : Int32).toNatClampNeg := by have := hl0.clamp; have := hl0.2; have := hp.clamp; have := hp.2; show _ ≤ 65536; omega
  have hsp : ¬ p3 < 0 := by rw [hp3]; decide
  have hs3 : ∀ vs : List Value, len.toNatClampNeg + p4.toNatClampNeg ≤ (vs ++ List.replicate 4000 (Value.int (0 : Int32))).length := fun vs => by have := hl0.clamp; have := hl0.2; have := hp.clamp; have := hp.2; rw [List.length_append, List.length_replicate]; omega
  refine Gl.st (g' := (mkF m 1 #[.val (.ref a1), .val (.ref b), .val (.int p3), .val (.int p4), .unset] [(.ref a1)])) (fun t k => XS.aloadN X0.here hx rfl (hb hby d3_0) rfl rfl k) ?_
  refine Gl.st (g' := (mkF m 2 #[.val (.ref a1), .val (.ref b), .val (.int p3), .val (.int p4), .unset] [(.int p4), (.ref a1)])) (fun t k => XS.iloadN X0.here hx rfl (hb hby d3_1) rfl k) ?_
  obtain ⟨cq96, kq96, qa96, qb96, qc96⟩ := isOf hZ e0 EX
  obtain ⟨_, _, ⟨T96, L96, k96, n96⟩, -, X96, ⟨Lc96, hQ96, l96, y96, z96⟩, st96⟩ := X0.virtualBack hx (y := (⟨"com/example/bristlecone/bristlecone/HashBatch", "fits", "(I)Z"⟩ : MethodName)) (z := (⟨"com/example/bristlecone/bristlecone/HashBatch", "fits", "(I)Z"⟩ : MethodName)) hown (mvT hZ (hw _ (List.mem_of_getElem? (i := 25) rfl))) (mvT hZ (hw _ (List.mem_of_getElem? (i := 26) rfl))) (notFace_of_selects (args := #[]) (mvT hZ (hw _ (List.mem_of_getElem? (i := 28) rfl)))) (mvT hZ (hw _ (List.mem_of_getElem? (i := 28) rfl))) (mvT hZ (hw _ (List.mem_of_getElem? (i := 27) rfl))) (by decide) (backOf (W := 0) (rm2 l Z a0 hw a1 p4 b kb zb cnt len h0 n0 Z0 H0) hZ (hw _ (List.mem_of_getElem? (i := 29) rfl)) (hw _ (List.mem_of_getElem? (i := 3) rfl)) (by decide) (by decide)) qa96 qc96 (g := (mkF m 2 #[.val (.ref a1), .val (.ref b), .val (.int p3), .val (.int p4), .unset] [(.int p4), (.ref a1)])) rfl (by rw [hml]; rfl) (Steps.refl _) (argsL := [(.int p4)]) (rest := []) (lenOf pd_0 rfl) rfl (by show 2 * 0 + _ ≤ _; exact Nat.le_of_eq rfl) (hb hby d3_2) (fun _ _ => ⟨rfl, e0, (by decide : 0 + 0 ≤ _), (by decide : 0 + 0 ≤ _)⟩)
  dsimp only [Pt.U, Pt.locs, Pt.cells, Pt.slots] at X96 l96 y96 z96 st96 hQ96
  subst l96 y96 z96
  obtain ⟨rfl, Nq96, e96⟩ := hQ96
  have N96 := Fr.app N0 Nq96
  refine Gl.st (g' := (mkF m 5 #[.val (.ref a1), .val (.ref b), .val (.int p3), .val (.int p4), .unset] [(.int (own_fits cnt len p4))])) (fun t k => st96.trans k) ?_
  refine Gl.st (g' := (mkF m 22 #[.val (.ref a1), .val (.ref b), .val (.int p3), .val (.int p4), .unset] [])) (fun t k => XS.ifYes X96.here hx rfl (pc0 := 5) (pc' := 22) rfl (hb hby d3_5) rfl (XT.i0_ne_t (own_fits1 hc0 hl0 hp)) (by decide) (by decide) k) ?_
  refine Gl.st (g' := (mkF m 23 #[.val (.ref a1), .val (.ref b), .val (.int p3), .val (.int p4), .unset] [(.ref a1)])) (fun t k => XS.aloadN X96.here hx rfl (hb hby d3_22) rfl rfl k) ?_
  obtain ⟨T97, X97, e97, st97⟩ := getF X96 hx hZ hown (host := "") (Or.inl (hw _ (List.mem_of_getElem? (i := 32) rfl))) Via.refl e96 Flength (g := (mkF m 23 #[.val (.ref a1), .val (.ref b), .val (.int p3), .val (.int p4), .unset] [(.ref a1)])) rfl rfl (hb hby d3_23)
  refine Gl.st (g' := (mkF m 26 #[.val (.ref a1), .val (.ref b), .val (.int p3), .val (.int p4), .unset] [(.int len)])) st97 ?_
  refine Gl.st (g' := (mkF m 27 #[.val (.ref a1), .val (.ref b), .val (.int p3), .val (.int p4), .unset] [(.int p4), (.int len)])) (fun t k => XS.iloadN X97.here hx rfl (hb hby d3_26) rfl k) ?_
  refine Gl.st (g' := (mkF m 28 #[.val (.ref a1), .val (.ref b), .val (.int p3), .val (.int p4), .unset] [(.int (len + p4))])) (fun t k => XS.iadd X97.here hx rfl (hb hby d3_27) rfl k) ?_
  refine Gl.st (g' := (mkF m 30 #[.val (.ref a1), .val (.ref b), .val (.int p3), .val (.int p4), .val (.int (len + p4))] [])) (fun t k => XS.istore X97.here hx rfl (hb hby d3_28) rfl (l' := #[.val (.ref a1), .val (.ref b), .val (.int p3), .val (.int p4), .val (.int (len + p4))]) rfl k) ?_
  refine Gl.st (g' := (mkF m 32 #[.val (.ref a1), .val (.ref b), .val (.int p3), .val (.int p4), .val (.int (len + p4))] [(.int (len + p4))])) (fun t k => XS.iload X97.here hx rfl (hb hby d3_30) rfl k) ?_
  refine Gl.st (g' := (mkF m 33 #[.val (.ref a1), .val (.ref b), .val (.int p3), .val (.int p4), .val (.int (len + p4))] [(.ref a1), (.int (len + p4))])) (fun t k => XS.aloadN X97.here hx rfl (hb hby d3_32) rfl rfl k) ?_
  obtain ⟨T98, X98, e98, st98⟩ := getF X97 hx hZ hown (host := "") (Or.inl (hw _ (List.mem_of_getElem? (i := 11) rfl))) Via.refl e97 Finput (g := (mkF m 33 #[.val (.ref a1), .val (.ref b), .val (.int p3), .val (.int p4), .val (.int (len + p4))] [(.ref a1), (.int (len + p4))])) rfl rfl (hb hby d3_33)
  refine Gl.st (g' := (mkF m 36 #[.val (.ref a1), .val (.ref b), .val (.int p3), .val (.int p4), .val (.int (len + p4))] [(.ref aI), (.int (len + p4))])) st98 ?_
  refine Gl.st (g' := (mkF m 37 #[.val (.ref a1), .val (.ref b), .val (.int p3), .val (.int p4), .val (.int (len + p4))] [(.int (65536 : Int32)), (.int (len + p4))])) (own_len X98 hx hZ e98 VI (g := (mkF m 36 #[.val (.ref a1), .val (.ref b), .val (.int p3), .val (.int p4), .val (.int (len + p4))] [(.ref aI), (.int (len + p4))])) rfl rfl (hb hby d3_36)) ?_
  refine Gl.st (g' := (mkF m 68 #[.val (.ref a1), .val (.ref b), .val (.int p3), .val (.int p4), .val (.int (len + p4))] [])) (fun t k => XS.icmpYes X98.here hx rfl (pc0 := 37) (pc' := 68) rfl (hb hby d3_37) rfl (XT.ii_le_t (own_nb hl0 hp)) (by decide) (by decide) k) ?_
  refine Gl.st (g' := (mkF m 69 #[.val (.ref a1), .val (.ref b), .val (.int p3), .val (.int p4), .val (.int (len + p4))] [(.ref b)])) (fun t k => XS.aloadN X98.here hx rfl (hb hby d3_68) rfl rfl k) ?_
  refine Gl.st (g' := (mkF m 70 #[.val (.ref a1), .val (.ref b), .val (.int p3), .val (.int p4), .val (.int (len + p4))] [(.int p3), (.ref b)])) (fun t k => XS.iloadN X98.here hx rfl (hb hby d3_69) rfl k) ?_
  refine Gl.st (g' := (mkF m 71 #[.val (.ref a1), .val (.ref b), .val (.int p3), .val (.int p4), .val (.int (len + p4))] [(.ref a1), (.int p3), (.ref b)])) (fun t k => XS.aloadN X98.here hx rfl (hb hby d3_70) rfl rfl k) ?_
  obtain ⟨T99, X99, e99, st99⟩ := getF X98 hx hZ hown (host := "") (Or.inl (hw _ (List.mem_of_getElem? (i := 11) rfl))) Via.refl e98 Finput (g := (mkF m 71 #[.val (.ref a1), .val (.ref b), .val (.int p3), .val (.int p4), .val (.int (len + p4))] [(.ref a1), (.int p3), (.ref b)])) rfl rfl (hb hby d3_71)
  refine Gl.st (g' := (mkF m 74 #[.val (.ref a1), .val (.ref b), .val (.int p3), .val (.int p4), .val (.int (len + p4))] [(.ref aI), (.int p3), (.ref b)])) st99 ?_
  refine Gl.st (g' := (mkF m 75 #[.val (.ref a1), .val (.ref b), .val (.int p3), .val (.int p4), .val (.int (len + p4))] [(.ref a1), (.ref aI), (.int p3), (.ref b)])) (fun t k => XS.aloadN X99.here hx rfl (hb hby d3_74) rfl rfl k) ?_
  obtain ⟨T100, X100, e100, st100⟩ := getF X99 hx hZ hown (host := "") (Or.inl (hw _ (List.mem_of_getElem? (i := 32) rfl))) Via.refl e99 Flength (g := (mkF m 75 #[.val (.ref a1), .val (.ref b), .val (.int p3), .val (.int p4), .val (.int (len + p4))] [(.ref a1), (.ref aI), (.int p3), (.ref b)])) rfl rfl (hb hby d3_75)
  refine Gl.st (g' := (mkF m 78 #[.val (.ref a1), .val (.ref b), .val (.int p3), .val (.int p4), .val (.int (len + p4))] [(.int len), (.ref aI), (.int p3), (.ref b)])) st100 ?_
  refine Gl.st (g' := (mkF m 79 #[.val (.ref a1), .val (.ref b), .val (.int p3), .val (.int p4), .val (.int (len + p4))] [(.int p4), (.int len), (.ref aI), (.int p3), (.ref b)])) (fun t k => XS.iloadN X100.here hx rfl (hb hby d3_78) rfl k) ?_
  have Vp101 : Arv Z h0 aI kI .byte (65536 : Int32) (vsI ++ List.replicate 4000 (.int (0 : Int32))) (.int (0 : Int32)) := VI.pad (pad_rep vsI _ 4000)
  obtain ⟨T101, h101, L101, X101, e101, N101, K101, V101, st101⟩ := cpA X100 hx hZ hown (hw _ (List.mem_of_getElem? (i := 34) rfl)) (hw _ (List.mem_of_getElem? (i := 37) rfl)) (hw _ (List.mem_of_getElem? (i := 35) rfl)) (hw _ (List.mem_of_getElem? (i := 36) rfl)) e100 VB Vp101 (Or.inl ⟨rfl, rfl⟩) hsp hl0.nn hp.nn hs1 hs2 rfl (hs3 _) N96 gI (g := (mkF m 79 #[.val (.ref a1), .val (.ref b), .val (.int p3), .val (.int p4), .val (.int (len + p4))] [(.int p4), (.int len), (.ref aI), (.int p3), (.ref b)])) rfl (by rw [hml]; rfl) rfl (hb hby d3_79) (by decide) (W := 0) (by show 2 * 0 + _ ≤ _; exact Nat.le_of_eq rfl) (by decide)
  have Z101 : n0 ≤ h101.size := Nat.le_trans Z0 K101.1
  obtain ⟨vn101, Vn101⟩ : ∃ vs, Arv Z h101 aI kI .byte (65536 : Int32) vs (.int (0 : Int32)) := ⟨_, V101⟩
  have F102 : Fld Z h101 a1 "com/example/bristlecone/bristlecone/HashBatch" "input" "[B" (.ref aI) := (Finput.keep K101 (ninS nAI nin0))
  have F103 : Fld Z h101 a1 "com/example/bristlecone/bristlecone/HashBatch" "ends" "[I" (.ref aE) := (Fends.keep K101 (ninS nAI nin0))
  have F104 : Fld Z h101 a1 "com/example/bristlecone/bristlecone/HashBatch" "count" "I" (.int cnt) := (Fcount.keep K101 (ninS nAI nin0))
  have F105 : Fld Z h101 a1 "com/example/bristlecone/bristlecone/HashBatch" "length" "I" (.int len) := (Flength.keep K101 (ninS nAI nin0))
  have E106 : Exa Z h101 a1 "com/example/bristlecone/bristlecone/HashBatch" := (EX.keep K101)
  have V107 : Arv Z h101 b kb .byte zb vsB (.int (0 : Int32)) := (VB.keep K101 (ninS nBI nin0))
  have V108 : Arv Z h101 aE kE .int (16384 : Int32) vsE (.int (0 : Int32)) := (VE.keep K101 (ninS nIE.symm nin0))
  refine Gl.st (g' := (mkF m 82 #[.val (.ref a1), .val (.ref b), .val (.int p3), .val (.int p4), .val (.int (len + p4))] [])) st101 ?_
  refine Gl.st (g' := (mkF m 83 #[.val (.ref a1), .val (.ref b), .val (.int p3), .val (.int p4), .val (.int (len + p4))] [(.ref a1)])) (fun t k => XS.aloadN X101.here hx rfl (hb hby d3_82) rfl rfl k) ?_
  refine Gl.st (g' := (mkF m 85 #[.val (.ref a1), .val (.ref b), .val (.int p3), .val (.int p4), .val (.int (len + p4))] [(.int (len + p4)), (.ref a1)])) (fun t k => XS.iload X101.here hx rfl (hb hby d3_83) rfl k) ?_
  obtain ⟨T109, h109, X109, e109, W109, st109⟩ := putF X101 hx hZ hown (host := "") (Or.inl (hw _ (List.mem_of_getElem? (i := 32) rfl))) Via.refl e101 F105 E106 (Or.inl (hw _ (List.mem_of_getElem? (i := 33) rfl))) (hw _ (List.mem_of_getElem? (i := 2) rfl)) (ty := .int) (by decide) rfl rfl (g := (mkF m 85 #[.val (.ref a1), .val (.ref b), .val (.int p3), .val (.int p4), .val (.int (len + p4))] [(.int (len + p4)), (.ref a1)])) rfl rfl (hb hby d3_85)
  have N109 := Fr.snoc X109 N101 gA
  have Z109 : n0 ≤ h109.size := Nat.le_trans Z101 (Keep.of_wr W109).1
  have F110 : Fld Z h109 a1 "com/example/bristlecone/bristlecone/HashBatch" "input" "[B" (.ref aI) := (F102.other W109 (Or.inr (slot_ne (Or.inl (hw _ (List.mem_of_getElem? (i := 12) rfl))) (Or.inl (hw _ (List.mem_of_getElem? (i := 33) rfl))) (by decide) (t := (.array .byte)) (t' := .int) (by decide) (by decide))))
  have F111 : Fld Z h109 a1 "com/example/bristlecone/bristlecone/HashBatch" "ends" "[I" (.ref aE) := (F103.other W109 (Or.inr (slot_ne (Or.inr (hw _ (List.mem_of_getElem? (i := 15) rfl))) (Or.inl (hw _ (List.mem_of_getElem? (i := 33) rfl))) (by decide) (t := (.array .int)) (t' := .int) (by decide) (by decide))))
  have F112 : Fld Z h109 a1 "com/example/bristlecone/bristlecone/HashBatch" "count" "I" (.int cnt) := (F104.other W109 (Or.inr (slot_ne (Or.inl (hw _ (List.mem_of_getElem? (i := 31) rfl))) (Or.inl (hw _ (List.mem_of_getElem? (i := 33) rfl))) (by decide) (t := .int) (t' := .int) (by decide) (by decide))))
  have F113 : Fld Z h109 a1 "com/example/bristlecone/bristlecone/HashBatch" "length" "I" (.int (len + p4)) := (F105.same W109)
  have E114 : Exa Z h109 a1 "com/example/bristlecone/bristlecone/HashBatch" := (E106.wr W109)
  have V115 : Arv Z h109 b kb .byte zb vsB (.int (0 : Int32)) := (V107.other W109 nBA)
  have V116 : Arv Z h109 aI kI .byte (65536 : Int32) vn101 (.int (0 : Int32)) := (Vn101.other W109 nAI.symm)
  have V117 : Arv Z h109 aE kE .int (16384 : Int32) vsE (.int (0 : Int32)) := (V108.other W109 nAE.symm)
  refine Gl.st (g' := (mkF m 88 #[.val (.ref a1), .val (.ref b), .val (.int p3), .val (.int p4), .val (.int (len + p4))] [])) st109 ?_
  refine Gl.st (g' := (mkF m 89 #[.val (.ref a1), .val (.ref b), .val (.int p3), .val (.int p4), .val (.int (len + p4))] [(.ref a1)])) (fun t k => XS.aloadN X109.here hx rfl (hb hby d3_88) rfl rfl k) ?_
  obtain ⟨T118, X118, e118, st118⟩ := getF X109 hx hZ hown (host := "") (Or.inl (hw _ (List.mem_of_getElem? (i := 14) rfl))) Via.refl e109 F111 (g := (mkF m 89 #[.val (.ref a1), .val (.ref b), .val (.int p3), .val (.int p4), .val (.int (len + p4))] [(.ref a1)])) rfl rfl (hb hby d3_89)
  refine Gl.st (g' := (mkF m 92 #[.val (.ref a1), .val (.ref b), .val (.int p3), .val (.int p4), .val (.int (len + p4))] [(.ref aE)])) st118 ?_
  refine Gl.st (g' := (mkF m 93 #[.val (.ref a1), .val (.ref b), .val (.int p3), .val (.int p4), .val (.int (len + p4))] [(.ref a1), (.ref aE)])) (fun t k => XS.aloadN X118.here hx rfl (hb hby d3_92) rfl rfl k) ?_
  refine Gl.st (g' := (mkF m 94 #[.val (.ref a1), .val (.ref b), .val (.int p3), .val (.int p4), .val (.int (len + p4))] [(.ref a1), (.ref a1), (.ref aE)])) (fun t k => XS.dup X118.here hx rfl (hb hby d3_93) rfl rfl k) ?_
  obtain ⟨T119, X119, e119, st119⟩ := getF X118 hx hZ hown (host := "") (Or.inl (hw _ (List.mem_of_getElem? (i := 30) rfl))) Via.refl e118 F112 (g := (mkF m 94 #[.val (.ref a1), .val (.ref b), .val (.int p3), .val (.int p4), .val (.int (len + p4))] [(.ref a1), (.ref a1), (.ref aE)])) rfl rfl (hb hby d3_94)
  refine Gl.st (g' := (mkF m 97 #[.val (.ref a1), .val (.ref b), .val (.int p3), .val (.int p4), .val (.int (len + p4))] [(.int cnt), (.ref a1), (.ref aE)])) st119 ?_
  refine Gl.st (g' := (mkF m 98 #[.val (.ref a1), .val (.ref b), .val (.int p3), .val (.int p4), .val (.int (len + p4))] [(.int cnt), (.ref a1), (.int cnt), (.ref aE)])) (fun t k => XS.dupX1 X119.here hx rfl (hb hby d3_97) rfl rfl rfl k) ?_
  refine Gl.st (g' := (mkF m 99 #[.val (.ref a1), .val (.ref b), .val (.int p3), .val (.int p4), .val (.int (len + p4))] [(.int (1 : Int32)), (.int cnt), (.ref a1), (.int cnt), (.ref aE)])) (fun t k => XT.iconstV X119.here hx rfl (1 : Int32) (hb hby d3_98) rfl k) ?_
  refine Gl.st (g' := (mkF m 100 #[.val (.ref a1), .val (.ref b), .val (.int p3), .val (.int p4), .val (.int (len + p4))] [(.int (cnt + (1 : Int32))), (.ref a1), (.int cnt), (.ref aE)])) (fun t k => XS.iadd X119.here hx rfl (hb hby d3_99) rfl k) ?_
  obtain ⟨T120, h120, X120, e120, W120, st120⟩ := putF X119 hx hZ hown (host := "") (Or.inl (hw _ (List.mem_of_getElem? (i := 30) rfl))) Via.refl e119 F112 E114 (Or.inl (hw _ (List.mem_of_getElem? (i := 31) rfl))) (hw _ (List.mem_of_getElem? (i := 2) rfl)) (ty := .int) (by decide) rfl rfl (g := (mkF m 100 #[.val (.ref a1), .val (.ref b), .val (.int p3), .val (.int p4), .val (.int (len + p4))] [(.int (cnt + (1 : Int32))), (.ref a1), (.int cnt), (.ref aE)])) rfl rfl (hb hby d3_100)
  have N120 := Fr.snoc X120 N109 gA
  have Z120 : n0 ≤ h120.size := Nat.le_trans Z109 (Keep.of_wr W120).1
  have F121 : Fld Z h120 a1 "com/example/bristlecone/bristlecone/HashBatch" "input" "[B" (.ref aI) := (F110.other W120 (Or.inr (slot_ne (Or.inl (hw _ (List.mem_of_getElem? (i := 12) rfl))) (Or.inl (hw _ (List.mem_of_getElem? (i := 31) rfl))) (by decide) (t := (.array .byte)) (t' := .int) (by decide) (by decide))))
  have F122 : Fld Z h120 a1 "com/example/bristlecone/bristlecone/HashBatch" "ends" "[I" (.ref aE) := (F111.other W120 (Or.inr (slot_ne (Or.inr (hw _ (List.mem_of_getElem? (i := 15) rfl))) (Or.inl (hw _ (List.mem_of_getElem? (i := 31) rfl))) (by decide) (t := (.array .int)) (t' := .int) (by decide) (by decide))))
  have F123 : Fld Z h120 a1 "com/example/bristlecone/bristlecone/HashBatch" "count" "I" (.int (cnt + (1 : Int32))) := (F112.same W120)
  have F124 : Fld Z h120 a1 "com/example/bristlecone/bristlecone/HashBatch" "length" "I" (.int (len + p4)) := (F113.other W120 (Or.inr (slot_ne (Or.inl (hw _ (List.mem_of_getElem? (i := 33) rfl))) (Or.inl (hw _ (List.mem_of_getElem? (i := 31) rfl))) (by decide) (t := .int) (t' := .int) (by decide) (by decide))))
  have E125 : Exa Z h120 a1 "com/example/bristlecone/bristlecone/HashBatch" := (E114.wr W120)
  have V126 : Arv Z h120 b kb .byte zb vsB (.int (0 : Int32)) := (V115.other W120 nBA)
  have V127 : Arv Z h120 aI kI .byte (65536 : Int32) vn101 (.int (0 : Int32)) := (V116.other W120 nAI.symm)
  have V128 : Arv Z h120 aE kE .int (16384 : Int32) vsE (.int (0 : Int32)) := (V117.other W120 nAE.symm)
  refine Gl.st (g' := (mkF m 103 #[.val (.ref a1), .val (.ref b), .val (.int p3), .val (.int p4), .val (.int (len + p4))] [(.int cnt), (.ref aE)])) st120 ?_
  refine Gl.st (g' := (mkF m 105 #[.val (.ref a1), .val (.ref b), .val (.int p3), .val (.int p4), .val (.int (len + p4))] [(.int (len + p4)), (.int cnt), (.ref aE)])) (fun t k => XS.iload X120.here hx rfl (hb hby d3_103) rfl k) ?_
  obtain ⟨T129, h129, vw129, X129, e129, W129, V129, st129⟩ := own_stIx X120 hx hZ e120 V128 (j := cnt) (own_ix hc0) (g := (mkF m 105 #[.val (.ref a1), .val (.ref b), .val (.int p3), .val (.int p4), .val (.int (len + p4))] [(.int (len + p4)), (.int cnt), (.ref aE)])) rfl rfl (hb hby d3_105)
  have N129 := Fr.snoc X129 N120 gE
  have Z129 : n0 ≤ h129.size := Nat.le_trans Z120 (Keep.of_wr W129).1
  have F130 : Fld Z h129 a1 "com/example/bristlecone/bristlecone/HashBatch" "input" "[B" (.ref aI) := (F121.other W129 (Or.inl nAE))
  have F131 : Fld Z h129 a1 "com/example/bristlecone/bristlecone/HashBatch" "ends" "[I" (.ref aE) := (F122.other W129 (Or.inl nAE))
  have F132 : Fld Z h129 a1 "com/example/bristlecone/bristlecone/HashBatch" "count" "I" (.int (cnt + (1 : Int32))) := (F123.other W129 (Or.inl nAE))
  have F133 : Fld Z h129 a1 "com/example/bristlecone/bristlecone/HashBatch" "length" "I" (.int (len + p4)) := (F124.other W129 (Or.inl nAE))
  have E134 : Exa Z h129 a1 "com/example/bristlecone/bristlecone/HashBatch" := (E125.wr W129)
  have V135 : Arv Z h129 b kb .byte zb vsB (.int (0 : Int32)) := (V126.other W129 nBE)
  have V136 : Arv Z h129 aI kI .byte (65536 : Int32) vn101 (.int (0 : Int32)) := (V127.other W129 nIE)
  refine Gl.st (g' := (mkF m 106 #[.val (.ref a1), .val (.ref b), .val (.int p3), .val (.int p4), .val (.int (len + p4))] [])) st129 ?_
  refine Gl.retV X129 hx hlk Bd.returns (hb hby d3_106) e129 (by decide) (by decide) ?_
  exact ⟨rfl, N129, ⟨Z129, E134, gA, ⟨_, V135⟩, nBA, aI, aE, _, _, F130, F131, F132, F133, ⟨_, V136⟩, ⟨_, V129⟩, gI, gE, nAI, nAE, nIE, nBI, nBE⟩⟩
theorem pd_1 : parseMethodDescriptor "()V" = some ⟨[], none⟩ := by decide +kernel
theorem pd_2 : parseMethodDescriptor "([BII)V" = some ⟨[(.array .byte), .int, .int], none⟩ := by decide +kernel
theorem own_l {x v : Int32} (e : (x &&& (15 : Int32)) = v) : Sm 15 v := by
  subst e
  obtain ⟨h1, h2, -⟩ := own_and x 15 4 (by decide) (by decide)
  exact ⟨h1, h2⟩
theorem own_n3 {x v : Int32} (e : (x &&& (3 : Int32)) = v) : Sm 3 v := by
  subst e
  obtain ⟨h1, h2, -⟩ := own_and x 3 2 (by decide) (by decide)
  exact ⟨h1, h2⟩
theorem own_sz {x v : Int32} (e : (XT.ushr x (2 : Int32)) = v) : Sm 1073741823 v := by
  subst e
  have h := c_iushr x 2 2 (by decide) (by decide)
  have e2 : ((2 ^ 2 : Nat) : Int) = 4 := by decide
  rw [e2] at h
  have q : (XT.ushr x (2 : Int32)).toInt = x.toInt % 4294967296 / 4 := h
  exact ⟨by omega, by omega⟩
theorem own_le16 {v : Int32} (h : Sm 15 v) : v.toNatClampNeg ≤ (16 : Int32).toNatClampNeg := by
  have := h.clamp; have := h.2; show _ ≤ 16; omega
theorem own_up {v a b : Int32} (h : v < a) (hab : a < b) : v < b := own_lt (Int.lt_trans (own_ltI h) (own_ltI hab))
theorem own_big {cnt len x : Int32} (h0 : ¬ cnt = 0) (h1 : cnt < (16384 : Int32)) (hl : Sm 1000 len) (hx : Sm 1073741823 x) (q : (1048576 : Int64) < (len.toInt64 + x.toInt64)) : own_fits cnt len x = (0 : Int32) := by
  have s := hl.add hx (by decide)
  have a := own_add (x := len) (y := x) (by have := hl.1; have := hx.1; omega) (by have := hl.2; have := hx.2; omega)
  have b := c_ladd len.toInt64 x.toInt64
  rw [c_i2l, c_i2l] at b
  have u1 := (len.toInt64 + x.toInt64).toInt_lt; have u2 := (len.toInt64 + x.toInt64).le_toInt
  have q2 := Int64.lt_iff_toInt_lt.mp q
  have t : (1048576 : Int64).toInt = 1048576 := by decide
  have t2 : (1048576 : Int32).toInt = 1048576 := by decide
  have := hl.1; have := hl.2; have := hx.1; have := hx.2
  unfold own_fits
  rw [if_neg h0, if_pos h1, if_pos (own_lt (by omega))]
theorem own_small {cnt len x : Int32} (h0 : ¬ cnt = 0) (h1 : cnt < (16384 : Int32)) (hl : Sm 1000 len) (hx : Sm 1073741823 x) (q : ¬ (1048576 : Int64) < (len.toInt64 + x.toInt64)) : own_fits cnt len x = (1 : Int32) := by
  have s := hl.add hx (by decide)
  have a := own_add (x := len) (y := x) (by have := hl.1; have := hx.1; omega) (by have := hl.2; have := hx.2; omega)
  have b := c_ladd len.toInt64 x.toInt64
  rw [c_i2l, c_i2l] at b
  have u1 := (len.toInt64 + x.toInt64).toInt_lt; have u2 := (len.toInt64 + x.toInt64).le_toInt
  have t : (1048576 : Int64).toInt = 1048576 := by decide
  have t2 : (1048576 : Int32).toInt = 1048576 := by decide
  have := hl.1; have := hl.2; have := hx.1; have := hx.2
  unfold own_fits
  rw [if_neg h0, if_pos h1, if_neg (own_nlt (by
    rcases Int.lt_or_le 1048576 (len.toInt64 + x.toInt64).toInt with w | w
    · exact absurd (Int64.lt_iff_toInt_lt.mpr (by omega)) q
    · omega))]
theorem pn_1 : plainName "com/example/bristlecone/bristlecone/HashBatchFitsPinLaw" = true := by first | (simp [plainName, overriddenIn]; done) | decide +kernel
theorem ef_0 (m : MethodId) (p1 : Int32) (p2 : Int32) (p3 : Int32) : entryFrame m #[(.int p1), (.int p2), (.int p3)] maxLocals = mkF m 0 #[.val (.int p1), .val (.int p2), .val (.int p3), .unset, .unset, .unset, .unset, .unset, .unset, .unset, .unset, .unset] [] := by first | (simp [entryFrame, mkF, argsToLocals, Value.category, maxLocals]; done) | rfl
def Q0 (Z : State) (p1 : Int32) (p2 : Int32) (p3 : Int32)  (h0 : Heap) (n0 : Nat) (v : Option Value) (h : Heap) (L : List Loc) : Prop := v = some (.int 1) ∧ Fr n0 L
set_option maxRecDepth 65536 in
set_option maxHeartbeats 40000000 in
theorem rm0 (l : Launch) (Z : State) (a0 : Array Value) (hw : ∀ d ∈ tables_1, d.before a0 Z = true) (ws : List Jvm.Cond) (p1 : Int32) (p2 : Int32) (p3 : Int32)  (h0 : Heap) (n0 : Nat) (Z0 : n0 ≤ h0.size)  :
    MetFree l x (head1 (Jvm.Cond.code x code maxLocals ret :: ws) room_1) (fun a U => a = #[(.int p1), (.int p2), (.int p3)] ∧ Z.Warmed39 U.vm ∧ U.heap = h0) (fun _ _ _ _ _ => True) (fun _ U o U' => ∃ v L, o = .returned v ∧ Q0 Z p1 p2 p3  h0 n0 v U'.heap L ∧ FrameEnd U o U' L 24 164096) := by
  refine MetFree.of_bodySF (plainFor_of_name pn_1) hisR ?_
  intro p e s m args below meth c s₁ Bd hml0 hP hK
  obtain ⟨rfl, hZ, hh⟩ := hP
  have hx := Bd.exec
  have hby := Bd.bytes
  have hlk : meth.locks = false := Bd.notSynchronized
  have hml : c.maxLocals = 12 := hml0
  have hown : s.vm.findClass "com/example/bristlecone/bristlecone/HashBatchFitsPinLaw" = some m.cls := findClass_of_methodNamed Bd.named
  have hnm := (name_of_methodNamed Bd.named Bd.method).1
  have X0 : Stand p l e room_1 s m #[(.int p1), (.int p2), (.int p3)] below meth c s₁ [] 0 0 := Stand.of_body Bd
  have e0 : s₁.heap = h0 := by rw [← hh, Bd.state]; rfl
  have N0 := Fr.nil n0
  show Gl p e below s (Q0 Z p1 p2 p3  h0 n0) 24 164096 s₁ (entryFrame m #[(.int p1), (.int p2), (.int p3)] maxLocals)
  rw [ef_0 m p1 p2 p3]
  refine Gl.st (g' := (mkF m 1 #[.val (.int p1), .val (.int p2), .val (.int p3), .unset, .unset, .unset, .unset, .unset, .unset, .unset, .unset, .unset] [(.int p1)])) (fun t k => XS.iloadN X0.here hx rfl (hb hby at_0) rfl k) ?_
  refine Gl.st (g' := (mkF m 2 #[.val (.int p1), .val (.int p2), .val (.int p3), .unset, .unset, .unset, .unset, .unset, .unset, .unset, .unset, .unset] [(.int (2 : Int32)), (.int p1)])) (fun t k => XT.iconstV X0.here hx rfl (2 : Int32) (hb hby at_1) rfl k) ?_
  refine Gl.st (g' := (mkF m 3 #[.val (.int p1), .val (.int p2), .val (.int p3), .unset, .unset, .unset, .unset, .unset, .unset, .unset, .unset, .unset] [(.int (XT.ushr p1 (2 : Int32)))])) (fun t k => XT.iushr X0.here hx rfl (hb hby at_2) rfl k) ?_
  generalize hv137 : (XT.ushr p1 (2 : Int32)) = v137
  refine Gl.st (g' := (mkF m 4 #[.val (.int p1), .val (.int p2), .val (.int p3), .val (.int v137), .unset, .unset, .unset, .unset, .unset, .unset, .unset, .unset] [])) (fun t k => XS.istoreN X0.here hx rfl (hb hby at_3) rfl (l' := #[.val (.int p1), .val (.int p2), .val (.int p3), .val (.int v137), .unset, .unset, .unset, .unset, .unset, .unset, .unset, .unset]) rfl k) ?_
  have sl137 := own_sz hv137
  refine Gl.st (g' := (mkF m 5 #[.val (.int p1), .val (.int p2), .val (.int p3), .val (.int v137), .unset, .unset, .unset, .unset, .unset, .unset, .unset, .unset] [(.int p2)])) (fun t k => XS.iloadN X0.here hx rfl (hb hby at_4) rfl k) ?_
  refine Gl.st (g' := (mkF m 6 #[.val (.int p1), .val (.int p2), .val (.int p3), .val (.int v137), .unset, .unset, .unset, .unset, .unset, .unset, .unset, .unset] [(.int (3 : Int32)), (.int p2)])) (fun t k => XT.iconstV X0.here hx rfl (3 : Int32) (hb hby at_5) rfl k) ?_
  refine Gl.st (g' := (mkF m 7 #[.val (.int p1), .val (.int p2), .val (.int p3), .val (.int v137), .unset, .unset, .unset, .unset, .unset, .unset, .unset, .unset] [(.int (p2 &&& (3 : Int32)))])) (fun t k => XS.iand X0.here hx rfl (hb hby at_6) rfl k) ?_
  generalize hv138 : (p2 &&& (3 : Int32)) = v138
  refine Gl.st (g' := (mkF m 9 #[.val (.int p1), .val (.int p2), .val (.int p3), .val (.int v137), .val (.int v138), .unset, .unset, .unset, .unset, .unset, .unset, .unset] [])) (fun t k => XS.istore X0.here hx rfl (hb hby at_7) rfl (l' := #[.val (.int p1), .val (.int p2), .val (.int p3), .val (.int v137), .val (.int v138), .unset, .unset, .unset, .unset, .unset, .unset, .unset]) rfl k) ?_
  have sl138 := own_n3 hv138
  refine Gl.st (g' := (mkF m 10 #[.val (.int p1), .val (.int p2), .val (.int p3), .val (.int v137), .val (.int v138), .unset, .unset, .unset, .unset, .unset, .unset, .unset] [(.int p3)])) (fun t k => XS.iloadN X0.here hx rfl (hb hby at_9) rfl k) ?_
  refine Gl.st (g' := (mkF m 12 #[.val (.int p1), .val (.int p2), .val (.int p3), .val (.int v137), .val (.int v138), .unset, .unset, .unset, .unset, .unset, .unset, .unset] [(.int (15 : Int32)), (.int p3)])) (fun t k => XT.bipushV X0.here hx rfl (15 : Int32) (hb hby at_10) rfl k) ?_
  refine Gl.st (g' := (mkF m 13 #[.val (.int p1), .val (.int p2), .val (.int p3), .val (.int v137), .val (.int v138), .unset, .unset, .unset, .unset, .unset, .unset, .unset] [(.int (p3 &&& (15 : Int32)))])) (fun t k => XS.iand X0.here hx rfl (hb hby at_12) rfl k) ?_
  generalize hv139 : (p3 &&& (15 : Int32)) = v139
  refine Gl.st (g' := (mkF m 15 #[.val (.int p1), .val (.int p2), .val (.int p3), .val (.int v137), .val (.int v138), .val (.int v139), .unset, .unset, .unset, .unset, .unset, .unset] [])) (fun t k => XS.istore X0.here hx rfl (hb hby at_13) rfl (l' := #[.val (.int p1), .val (.int p2), .val (.int p3), .val (.int v137), .val (.int v138), .val (.int v139), .unset, .unset, .unset, .unset, .unset, .unset]) rfl k) ?_
  have sl139 := own_l hv139
  refine Gl.st (g' := (mkF m 16 #[.val (.int p1), .val (.int p2), .val (.int p3), .val (.int v137), .val (.int v138), .val (.int v139), .unset, .unset, .unset, .unset, .unset, .unset] [(.int p3)])) (fun t k => XS.iloadN X0.here hx rfl (hb hby at_15) rfl k) ?_
  refine Gl.st (g' := (mkF m 17 #[.val (.int p1), .val (.int p2), .val (.int p3), .val (.int v137), .val (.int v138), .val (.int v139), .unset, .unset, .unset, .unset, .unset, .unset] [(.int (4 : Int32)), (.int p3)])) (fun t k => XT.iconstV X0.here hx rfl (4 : Int32) (hb hby at_16) rfl k) ?_
  refine Gl.st (g' := (mkF m 18 #[.val (.int p1), .val (.int p2), .val (.int p3), .val (.int v137), .val (.int v138), .val (.int v139), .unset, .unset, .unset, .unset, .unset, .unset] [(.int (XT.ushr p3 (4 : Int32)))])) (fun t k => XT.iushr X0.here hx rfl (hb hby at_17) rfl k) ?_
  refine Gl.st (g' := (mkF m 20 #[.val (.int p1), .val (.int p2), .val (.int p3), .val (.int v137), .val (.int v138), .val (.int v139), .unset, .unset, .unset, .unset, .unset, .unset] [(.int (15 : Int32)), (.int (XT.ushr p3 (4 : Int32)))])) (fun t k => XT.bipushV X0.here hx rfl (15 : Int32) (hb hby at_18) rfl k) ?_
  refine Gl.st (g' := (mkF m 21 #[.val (.int p1), .val (.int p2), .val (.int p3), .val (.int v137), .val (.int v138), .val (.int v139), .unset, .unset, .unset, .unset, .unset, .unset] [(.int ((XT.ushr p3 (4 : Int32)) &&& (15 : Int32)))])) (fun t k => XS.iand X0.here hx rfl (hb hby at_20) rfl k) ?_
  generalize hv140 : ((XT.ushr p3 (4 : Int32)) &&& (15 : Int32)) = v140
  refine Gl.st (g' := (mkF m 23 #[.val (.int p1), .val (.int p2), .val (.int p3), .val (.int v137), .val (.int v138), .val (.int v139), .val (.int v140), .unset, .unset, .unset, .unset, .unset] [])) (fun t k => XS.istore X0.here hx rfl (hb hby at_21) rfl (l' := #[.val (.int p1), .val (.int p2), .val (.int p3), .val (.int v137), .val (.int v138), .val (.int v139), .val (.int v140), .unset, .unset, .unset, .unset, .unset]) rfl k) ?_
  have sl140 := own_l hv140
  refine Gl.st (g' := (mkF m 24 #[.val (.int p1), .val (.int p2), .val (.int p3), .val (.int v137), .val (.int v138), .val (.int v139), .val (.int v140), .unset, .unset, .unset, .unset, .unset] [(.int p3)])) (fun t k => XS.iloadN X0.here hx rfl (hb hby at_23) rfl k) ?_
  refine Gl.st (g' := (mkF m 26 #[.val (.int p1), .val (.int p2), .val (.int p3), .val (.int v137), .val (.int v138), .val (.int v139), .val (.int v140), .unset, .unset, .unset, .unset, .unset] [(.int (8 : Int32)), (.int p3)])) (fun t k => XT.bipushV X0.here hx rfl (8 : Int32) (hb hby at_24) rfl k) ?_
  refine Gl.st (g' := (mkF m 27 #[.val (.int p1), .val (.int p2), .val (.int p3), .val (.int v137), .val (.int v138), .val (.int v139), .val (.int v140), .unset, .unset, .unset, .unset, .unset] [(.int (XT.ushr p3 (8 : Int32)))])) (fun t k => XT.iushr X0.here hx rfl (hb hby at_26) rfl k) ?_
  refine Gl.st (g' := (mkF m 29 #[.val (.int p1), .val (.int p2), .val (.int p3), .val (.int v137), .val (.int v138), .val (.int v139), .val (.int v140), .unset, .unset, .unset, .unset, .unset] [(.int (15 : Int32)), (.int (XT.ushr p3 (8 : Int32)))])) (fun t k => XT.bipushV X0.here hx rfl (15 : Int32) (hb hby at_27) rfl k) ?_
  refine Gl.st (g' := (mkF m 30 #[.val (.int p1), .val (.int p2), .val (.int p3), .val (.int v137), .val (.int v138), .val (.int v139), .val (.int v140), .unset, .unset, .unset, .unset, .unset] [(.int ((XT.ushr p3 (8 : Int32)) &&& (15 : Int32)))])) (fun t k => XS.iand X0.here hx rfl (hb hby at_29) rfl k) ?_
  generalize hv141 : ((XT.ushr p3 (8 : Int32)) &&& (15 : Int32)) = v141
  refine Gl.st (g' := (mkF m 32 #[.val (.int p1), .val (.int p2), .val (.int p3), .val (.int v137), .val (.int v138), .val (.int v139), .val (.int v140), .val (.int v141), .unset, .unset, .unset, .unset] [])) (fun t k => XS.istore X0.here hx rfl (hb hby at_30) rfl (l' := #[.val (.int p1), .val (.int p2), .val (.int p3), .val (.int v137), .val (.int v138), .val (.int v139), .val (.int v140), .val (.int v141), .unset, .unset, .unset, .unset]) rfl k) ?_
  have sl141 := own_l hv141
  refine Gl.st (g' := (mkF m 34 #[.val (.int p1), .val (.int p2), .val (.int p3), .val (.int v137), .val (.int v138), .val (.int v139), .val (.int v140), .val (.int v141), .unset, .unset, .unset, .unset] [(.int (16 : Int32))])) (fun t k => XT.bipushV X0.here hx rfl (16 : Int32) (hb hby at_32) rfl k) ?_
  obtain ⟨T142, h142, cA142, X142, e142, E142, A142, st142⟩ := newP X0 hx hZ (hw _ (List.mem_of_getElem? (i := 0) rfl)) e0 (g := (mkF m 34 #[.val (.int p1), .val (.int p2), .val (.int p3), .val (.int v137), .val (.int v138), .val (.int v139), .val (.int v140), .val (.int v141), .unset, .unset, .unset, .unset] [(.int (16 : Int32))])) rfl (hb hby at_34) rfl (by decide) (cap := 16) (by decide) (by decide) (by decide) (by decide)
  obtain ⟨a142, g142⟩ : ∃ z, z = h0.size := ⟨_, rfl⟩
  have ge142 : n0 ≤ a142 := Nat.le_trans Z0 (Nat.le_of_eq g142.symm)
  rw [← g142] at A142 st142
  have Z142 : n0 ≤ h142.size := Nat.le_trans Z0 E142.1
  have V142 : Arv Z h142 a142 cA142 .byte (16 : Int32) [(.int (0 : Int32)), (.int (0 : Int32)), (.int (0 : Int32)), (.int (0 : Int32)), (.int (0 : Int32)), (.int (0 : Int32)), (.int (0 : Int32)), (.int (0 : Int32)), (.int (0 : Int32)), (.int (0 : Int32)), (.int (0 : Int32)), (.int (0 : Int32)), (.int (0 : Int32)), (.int (0 : Int32)), (.int (0 : Int32)), (.int (0 : Int32))] (.int (0 : Int32)) := (Arv.new A142 (by decide)).pad (pad_rep [] _ 16)
  refine Gl.st (g' := (mkF m 36 #[.val (.int p1), .val (.int p2), .val (.int p3), .val (.int v137), .val (.int v138), .val (.int v139), .val (.int v140), .val (.int v141), .unset, .unset, .unset, .unset] [(.ref a142)])) st142 ?_
  refine Gl.st (g' := (mkF m 38 #[.val (.int p1), .val (.int p2), .val (.int p3), .val (.int v137), .val (.int v138), .val (.int v139), .val (.int v140), .val (.int v141), .val (.ref a142), .unset, .unset, .unset] [])) (fun t k => XS.astore X142.here hx rfl (hb hby at_36) rfl rfl (l' := #[.val (.int p1), .val (.int p2), .val (.int p3), .val (.int v137), .val (.int v138), .val (.int v139), .val (.int v140), .val (.int v141), .val (.ref a142), .unset, .unset, .unset]) rfl k) ?_
  obtain ⟨T143, h143, X143, e143, E143, A143, D143, -, st143⟩ := newO X142 hx hZ hown (hw _ (List.mem_of_getElem? (i := 1) rfl)) (hw _ (List.mem_of_getElem? (i := 2) rfl)) (hw _ (List.mem_of_getElem? (i := 3) rfl)) e142 (g := (mkF m 38 #[.val (.int p1), .val (.int p2), .val (.int p3), .val (.int v137), .val (.int v138), .val (.int v139), .val (.int v140), .val (.int v141), .val (.ref a142), .unset, .unset, .unset] [])) rfl (hb hby at_38) (by decide) (by decide)
  obtain ⟨a143, g143⟩ : ∃ z, z = h142.size := ⟨_, rfl⟩
  have ge143 : n0 ≤ a143 := Nat.le_trans Z142 (Nat.le_of_eq g143.symm)
  have ne_a142_143 : a142 ≠ a143 := fun q => absurd (g143 ▸ q ▸ (V142.lt : a142 < h142.size)) (Nat.lt_irrefl _)
  rw [← g143] at A143 D143 st143
  have Z143 : n0 ≤ h143.size := Nat.le_trans Z142 E143.1
  have F144 : Fld Z h143 a143 "com/example/bristlecone/bristlecone/HashBatch" "input" "[B" .null := (D143 (Or.inl (hw _ (List.mem_of_getElem? (i := 12) rfl))) (ty := (.array .byte)) (by decide))
  have F145 : Fld Z h143 a143 "com/example/bristlecone/bristlecone/HashBatch" "ends" "[I" .null := (D143 (Or.inr (hw _ (List.mem_of_getElem? (i := 15) rfl))) (ty := (.array .int)) (by decide))
  have F146 : Fld Z h143 a143 "com/example/bristlecone/bristlecone/HashBatch" "nodes" "[B" .null := (D143 (Or.inl (hw _ (List.mem_of_getElem? (i := 17) rfl))) (ty := (.array .byte)) (by decide))
  have F147 : Fld Z h143 a143 "com/example/bristlecone/bristlecone/HashBatch" "heightOffsets" "[I" .null := (D143 (Or.inr (hw _ (List.mem_of_getElem? (i := 19) rfl))) (ty := (.array .int)) (by decide))
  have F148 : Fld Z h143 a143 "com/example/bristlecone/bristlecone/HashBatch" "count" "I" (.int (0 : Int32)) := (D143 (Or.inl (hw _ (List.mem_of_getElem? (i := 31) rfl))) (ty := .int) (by decide))
  have F149 : Fld Z h143 a143 "com/example/bristlecone/bristlecone/HashBatch" "length" "I" (.int (0 : Int32)) := (D143 (Or.inl (hw _ (List.mem_of_getElem? (i := 33) rfl))) (ty := .int) (by decide))
  have V150 : Arv Z h143 a142 cA142 .byte (16 : Int32) [(.int (0 : Int32)), (.int (0 : Int32)), (.int (0 : Int32)), (.int (0 : Int32)), (.int (0 : Int32)), (.int (0 : Int32)), (.int (0 : Int32)), (.int (0 : Int32)), (.int (0 : Int32)), (.int (0 : Int32)), (.int (0 : Int32)), (.int (0 : Int32)), (.int (0 : Int32)), (.int (0 : Int32)), (.int (0 : Int32)), (.int (0 : Int32))] (.int (0 : Int32)) := (V142.ext E143)
  refine Gl.st (g' := (mkF m 41 #[.val (.int p1), .val (.int p2), .val (.int p3), .val (.int v137), .val (.int v138), .val (.int v139), .val (.int v140), .val (.int v141), .val (.ref a142), .unset, .unset, .unset] [(.ref a143)])) st143 ?_
  refine Gl.st (g' := (mkF m 42 #[.val (.int p1), .val (.int p2), .val (.int p3), .val (.int v137), .val (.int v138), .val (.int v139), .val (.int v140), .val (.int v141), .val (.ref a142), .unset, .unset, .unset] [(.ref a143), (.ref a143)])) (fun t k => XS.dup X143.here hx rfl (hb hby at_41) rfl rfl k) ?_
  obtain ⟨_, _, ⟨T151, L151, k151, n151⟩, -, X151, ⟨Lc151, hQ151, l151, y151, z151⟩, st151⟩ := X143.specialBack hx (y := (⟨"com/example/bristlecone/bristlecone/HashBatch", "<init>", "()V"⟩ : MethodName)) rfl hown (mvT hZ (hw _ (List.mem_of_getElem? (i := 4) rfl))) (mvT hZ (hw _ (List.mem_of_getElem? (i := 5) rfl))) (mvT hZ (hw _ (List.mem_of_getElem? (i := 6) rfl))) (by decide) (backOf (W := 1) (rm1 l Z a0 hw a143 a142 cA142 (16 : Int32) [(.int (0 : Int32)), (.int (0 : Int32)), (.int (0 : Int32)), (.int (0 : Int32)), (.int (0 : Int32)), (.int (0 : Int32)), (.int (0 : Int32)), (.int (0 : Int32)), (.int (0 : Int32)), (.int (0 : Int32)), (.int (0 : Int32)), (.int (0 : Int32)), (.int (0 : Int32)), (.int (0 : Int32)), (.int (0 : Int32)), (.int (0 : Int32))] h143 n0 Z143 A143 ge143 V150 ne_a142_143 F144 F145 F146 F147 F148 F149) hZ (hw _ (List.mem_of_getElem? (i := 6) rfl)) (hw _ (List.mem_of_getElem? (i := 3) rfl)) (by decide) (by decide)) (g := (mkF m 42 #[.val (.int p1), .val (.int p2), .val (.int p3), .val (.int v137), .val (.int v138), .val (.int v139), .val (.int v140), .val (.int v141), .val (.ref a142), .unset, .unset, .unset] [(.ref a143), (.ref a143)])) rfl (by rw [hml]; rfl) (Steps.refl _) (a := a143) (argsL := []) (rest := [(.ref a143)]) (lenOf pd_1 rfl) rfl (by show 2 * 0 + _ ≤ _; exact Nat.le_of_eq rfl) (hb hby at_42) (fun _ _ => ⟨rfl, e143, (by decide : 0 + 1 + 1 + 4 ≤ _), (by decide : 0 + 16 + 8 + 81984 ≤ _)⟩)
  dsimp only [Pt.U, Pt.locs, Pt.cells, Pt.slots] at X151 l151 y151 z151 st151 hQ151
  subst l151 y151 z151
  obtain ⟨rfl, Nq151, H151⟩ := hQ151
  have N151 := Fr.app N0 Nq151
  have e151 : T151.heap = T151.heap := rfl
  refine Gl.st (g' := (mkF m 45 #[.val (.int p1), .val (.int p2), .val (.int p3), .val (.int v137), .val (.int v138), .val (.int v139), .val (.int v140), .val (.int v141), .val (.ref a142), .unset, .unset, .unset] [(.ref a143)])) (fun t k => st151.trans k) ?_
  refine Gl.st (g' := (mkF m 47 #[.val (.int p1), .val (.int p2), .val (.int p3), .val (.int v137), .val (.int v138), .val (.int v139), .val (.int v140), .val (.int v141), .val (.ref a142), .val (.ref a143), .unset, .unset] [])) (fun t k => XS.astore X151.here hx rfl (hb hby at_45) rfl rfl (l' := #[.val (.int p1), .val (.int p2), .val (.int p3), .val (.int v137), .val (.int v138), .val (.int v139), .val (.int v140), .val (.int v141), .val (.ref a142), .val (.ref a143), .unset, .unset]) rfl k) ?_
  refine Gl.st (g' := (mkF m 48 #[.val (.int p1), .val (.int p2), .val (.int p3), .val (.int v137), .val (.int v138), .val (.int v139), .val (.int v140), .val (.int v141), .val (.ref a142), .val (.ref a143), .unset, .unset] [(.int (0 : Int32))])) (fun t k => XT.iconstV X151.here hx rfl (0 : Int32) (hb hby at_47) rfl k) ?_
  refine Gl.st (g' := (mkF m 50 #[.val (.int p1), .val (.int p2), .val (.int p3), .val (.int v137), .val (.int v138), .val (.int v139), .val (.int v140), .val (.int v141), .val (.ref a142), .val (.ref a143), .val (.int (0 : Int32)), .unset] [])) (fun t k => XS.istore X151.here hx rfl (hb hby at_48) rfl (l' := #[.val (.int p1), .val (.int p2), .val (.int p3), .val (.int v137), .val (.int v138), .val (.int v139), .val (.int v140), .val (.int v141), .val (.ref a142), .val (.ref a143), .val (.int (0 : Int32)), .unset]) rfl k) ?_
  refine Gl.st (g' := (mkF m 52 #[.val (.int p1), .val (.int p2), .val (.int p3), .val (.int v137), .val (.int v138), .val (.int v139), .val (.int v140), .val (.int v141), .val (.ref a142), .val (.ref a143), .val (.int (0 : Int32)), .unset] [(.int v138)])) (fun t k => XS.iload X151.here hx rfl (hb hby at_50) rfl k) ?_
  refine Gl.st (g' := (mkF m 53 #[.val (.int p1), .val (.int p2), .val (.int p3), .val (.int v137), .val (.int v138), .val (.int v139), .val (.int v140), .val (.int v141), .val (.ref a142), .val (.ref a143), .val (.int (0 : Int32)), .unset] [(.int (1 : Int32)), (.int v138)])) (fun t k => XT.iconstV X151.here hx rfl (1 : Int32) (hb hby at_52) rfl k) ?_
  by_cases c152 : v138 < (1 : Int32)
  · skip
    refine Gl.st (g' := (mkF m 73 #[.val (.int p1), .val (.int p2), .val (.int p3), .val (.int v137), .val (.int v138), .val (.int v139), .val (.int v140), .val (.int v141), .val (.ref a142), .val (.ref a143), .val (.int (0 : Int32)), .unset] [])) (fun t k => XS.icmpYes X151.here hx rfl (pc0 := 53) (pc' := 73) rfl (hb hby at_53) rfl (XT.ii_lt_t c152) (by decide) (by decide) k) ?_
    refine Gl.st (g' := (mkF m 75 #[.val (.int p1), .val (.int p2), .val (.int p3), .val (.int v137), .val (.int v138), .val (.int v139), .val (.int v140), .val (.int v141), .val (.ref a142), .val (.ref a143), .val (.int (0 : Int32)), .unset] [(.int v138)])) (fun t k => XS.iload X151.here hx rfl (hb hby at_73) rfl k) ?_
    refine Gl.st (g' := (mkF m 76 #[.val (.int p1), .val (.int p2), .val (.int p3), .val (.int v137), .val (.int v138), .val (.int v139), .val (.int v140), .val (.int v141), .val (.ref a142), .val (.ref a143), .val (.int (0 : Int32)), .unset] [(.int (2 : Int32)), (.int v138)])) (fun t k => XT.iconstV X151.here hx rfl (2 : Int32) (hb hby at_75) rfl k) ?_
    refine Gl.st (g' := (mkF m 96 #[.val (.int p1), .val (.int p2), .val (.int p3), .val (.int v137), .val (.int v138), .val (.int v139), .val (.int v140), .val (.int v141), .val (.ref a142), .val (.ref a143), .val (.int (0 : Int32)), .unset] [])) (fun t k => XS.icmpYes X151.here hx rfl (pc0 := 76) (pc' := 96) rfl (hb hby at_76) rfl (XT.ii_lt_t (own_up c152 (by decide))) (by decide) (by decide) k) ?_
    refine Gl.st (g' := (mkF m 98 #[.val (.int p1), .val (.int p2), .val (.int p3), .val (.int v137), .val (.int v138), .val (.int v139), .val (.int v140), .val (.int v141), .val (.ref a142), .val (.ref a143), .val (.int (0 : Int32)), .unset] [(.int v138)])) (fun t k => XS.iload X151.here hx rfl (hb hby at_96) rfl k) ?_
    refine Gl.st (g' := (mkF m 99 #[.val (.int p1), .val (.int p2), .val (.int p3), .val (.int v137), .val (.int v138), .val (.int v139), .val (.int v140), .val (.int v141), .val (.ref a142), .val (.ref a143), .val (.int (0 : Int32)), .unset] [(.int (3 : Int32)), (.int v138)])) (fun t k => XT.iconstV X151.here hx rfl (3 : Int32) (hb hby at_98) rfl k) ?_
    refine Gl.st (g' := (mkF m 119 #[.val (.int p1), .val (.int p2), .val (.int p3), .val (.int v137), .val (.int v138), .val (.int v139), .val (.int v140), .val (.int v141), .val (.ref a142), .val (.ref a143), .val (.int (0 : Int32)), .unset] [])) (fun t k => XS.icmpYes X151.here hx rfl (pc0 := 99) (pc' := 119) rfl (hb hby at_99) rfl (XT.ii_lt_t (own_up c152 (by decide))) (by decide) (by decide) k) ?_
    refine Gl.st (g' := (mkF m 121 #[.val (.int p1), .val (.int p2), .val (.int p3), .val (.int v137), .val (.int v138), .val (.int v139), .val (.int v140), .val (.int v141), .val (.ref a142), .val (.ref a143), .val (.int (0 : Int32)), .unset] [(.int v138)])) (fun t k => XS.iload X151.here hx rfl (hb hby at_119) rfl k) ?_
    refine Gl.st (g' := (mkF m 137 #[.val (.int p1), .val (.int p2), .val (.int p3), .val (.int v137), .val (.int v138), .val (.int v139), .val (.int v140), .val (.int v141), .val (.ref a142), .val (.ref a143), .val (.int (0 : Int32)), .unset] [])) (fun t k => XS.ifYes X151.here hx rfl (pc0 := 121) (pc' := 137) rfl (hb hby at_121) rfl (XT.i0_eq_t (own_eq (by have := own_ltI c152; have := sl138.1; have t : (1 : Int32).toInt = 1 := (by decide); show _ = (0 : Int); omega))) (by decide) (by decide) k) ?_
    refine Gl.st (g' := (mkF m 138 #[.val (.int p1), .val (.int p2), .val (.int p3), .val (.int v137), .val (.int v138), .val (.int v139), .val (.int v140), .val (.int v141), .val (.ref a142), .val (.ref a143), .val (.int (0 : Int32)), .unset] [(.int (1 : Int32))])) (fun t k => XT.iconstV X151.here hx rfl (1 : Int32) (hb hby at_137) rfl k) ?_
    refine Gl.st (g' := (mkF m 142 #[.val (.int p1), .val (.int p2), .val (.int p3), .val (.int v137), .val (.int v138), .val (.int v139), .val (.int v140), .val (.int v141), .val (.ref a142), .val (.ref a143), .val (.int (0 : Int32)), .unset] [(.int (1 : Int32))])) (fun t k => XS.goto X151.here hx rfl (pc0 := 138) (pc' := 142) rfl (hb hby at_138) (by decide) (by decide) k) ?_
    refine Gl.st (g' := (mkF m 144 #[.val (.int p1), .val (.int p2), .val (.int p3), .val (.int v137), .val (.int v138), .val (.int v139), .val (.int v140), .val (.int v141), .val (.ref a142), .val (.ref a143), .val (.int (0 : Int32)), .val (.int (1 : Int32))] [])) (fun t k => XS.istore X151.here hx rfl (hb hby at_142) rfl (l' := #[.val (.int p1), .val (.int p2), .val (.int p3), .val (.int v137), .val (.int v138), .val (.int v139), .val (.int v140), .val (.int v141), .val (.ref a142), .val (.ref a143), .val (.int (0 : Int32)), .val (.int (1 : Int32))]) rfl k) ?_
    refine Gl.st (g' := (mkF m 146 #[.val (.int p1), .val (.int p2), .val (.int p3), .val (.int v137), .val (.int v138), .val (.int v139), .val (.int v140), .val (.int v141), .val (.ref a142), .val (.ref a143), .val (.int (0 : Int32)), .val (.int (1 : Int32))] [(.ref a143)])) (fun t k => XS.aload X151.here hx rfl (hb hby at_144) rfl rfl k) ?_
    refine Gl.st (g' := (mkF m 147 #[.val (.int p1), .val (.int p2), .val (.int p3), .val (.int v137), .val (.int v138), .val (.int v139), .val (.int v140), .val (.int v141), .val (.ref a142), .val (.ref a143), .val (.int (0 : Int32)), .val (.int (1 : Int32))] [(.int v137), (.ref a143)])) (fun t k => XS.iloadN X151.here hx rfl (hb hby at_146) rfl k) ?_
    obtain ⟨cq153, kq153, qa153, qb153, qc153⟩ := isOf hZ e151 H151.exa
    obtain ⟨_, _, ⟨T153, L153, k153, n153⟩, -, X153, ⟨Lc153, hQ153, l153, y153, z153⟩, st153⟩ := X151.virtualBack hx (y := (⟨"com/example/bristlecone/bristlecone/HashBatch", "fits", "(I)Z"⟩ : MethodName)) (z := (⟨"com/example/bristlecone/bristlecone/HashBatch", "fits", "(I)Z"⟩ : MethodName)) hown (mvT hZ (hw _ (List.mem_of_getElem? (i := 40) rfl))) (mvT hZ (hw _ (List.mem_of_getElem? (i := 26) rfl))) (notFace_of_selects (args := #[]) (mvT hZ (hw _ (List.mem_of_getElem? (i := 28) rfl)))) (mvT hZ (hw _ (List.mem_of_getElem? (i := 28) rfl))) (mvT hZ (hw _ (List.mem_of_getElem? (i := 27) rfl))) (by decide) (backOf (W := 0) (rm2 l Z a0 hw a143 v137 a142 cA142 (16 : Int32) (0 : Int32) (0 : Int32) T151.heap n0 H151.1 H151) hZ (hw _ (List.mem_of_getElem? (i := 29) rfl)) (hw _ (List.mem_of_getElem? (i := 3) rfl)) (by decide) (by decide)) qa153 qc153 (g := (mkF m 147 #[.val (.int p1), .val (.int p2), .val (.int p3), .val (.int v137), .val (.int v138), .val (.int v139), .val (.int v140), .val (.int v141), .val (.ref a142), .val (.ref a143), .val (.int (0 : Int32)), .val (.int (1 : Int32))] [(.int v137), (.ref a143)])) rfl (by rw [hml]; rfl) (Steps.refl _) (argsL := [(.int v137)]) (rest := []) (lenOf pd_0 rfl) rfl (by show 2 * 0 + _ ≤ _; exact Nat.le_of_eq rfl) (hb hby at_147) (fun _ _ => ⟨rfl, e151, (by decide : 0 + 1 + 1 + 4 + 0 ≤ _), (by decide : 0 + 16 + 8 + 81984 + 0 ≤ _)⟩)
    dsimp only [Pt.U, Pt.locs, Pt.cells, Pt.slots] at X153 l153 y153 z153 st153 hQ153
    subst l153 y153 z153
    obtain ⟨rfl, Nq153, e153⟩ := hQ153
    have N153 := Fr.app N151 Nq153
    refine Gl.st (g' := (mkF m 150 #[.val (.int p1), .val (.int p2), .val (.int p3), .val (.int v137), .val (.int v138), .val (.int v139), .val (.int v140), .val (.int v141), .val (.ref a142), .val (.ref a143), .val (.int (0 : Int32)), .val (.int (1 : Int32))] [(.int (own_fits (0 : Int32) (0 : Int32) v137))])) (fun t k => st153.trans k) ?_
    refine Gl.st (g' := (mkF m 152 #[.val (.int p1), .val (.int p2), .val (.int p3), .val (.int v137), .val (.int v138), .val (.int v139), .val (.int v140), .val (.int v141), .val (.ref a142), .val (.ref a143), .val (.int (0 : Int32)), .val (.int (1 : Int32))] [(.int (1 : Int32)), (.int (own_fits (0 : Int32) (0 : Int32) v137))])) (fun t k => XS.iload X153.here hx rfl (hb hby at_150) rfl k) ?_
    refine Gl.st (g' := (mkF m 155 #[.val (.int p1), .val (.int p2), .val (.int p3), .val (.int v137), .val (.int v138), .val (.int v139), .val (.int v140), .val (.int v141), .val (.ref a142), .val (.ref a143), .val (.int (0 : Int32)), .val (.int (1 : Int32))] [])) (fun t k => XS.icmpNo X153.here hx rfl (hb hby at_152) rfl (XT.ii_ne_f (by unfold own_fits; rw [if_pos rfl])) k) ?_
    refine Gl.st (g' := (mkF m 156 #[.val (.int p1), .val (.int p2), .val (.int p3), .val (.int v137), .val (.int v138), .val (.int v139), .val (.int v140), .val (.int v141), .val (.ref a142), .val (.ref a143), .val (.int (0 : Int32)), .val (.int (1 : Int32))] [(.int (1 : Int32))])) (fun t k => XT.iconstV X153.here hx rfl (1 : Int32) (hb hby at_155) rfl k) ?_
    refine Gl.st (g' := (mkF m 160 #[.val (.int p1), .val (.int p2), .val (.int p3), .val (.int v137), .val (.int v138), .val (.int v139), .val (.int v140), .val (.int v141), .val (.ref a142), .val (.ref a143), .val (.int (0 : Int32)), .val (.int (1 : Int32))] [(.int (1 : Int32))])) (fun t k => XS.goto X153.here hx rfl (pc0 := 156) (pc' := 160) rfl (hb hby at_156) (by decide) (by decide) k) ?_
    refine Gl.retZ X153 hx hlk .boolean (by simp) Bd.returns (hb hby at_160) e153 (by decide) (by decide) ?_
    rw [Q0, own_z1]
    exact ⟨rfl, N153⟩
  · skip
    refine Gl.st (g' := (mkF m 56 #[.val (.int p1), .val (.int p2), .val (.int p3), .val (.int v137), .val (.int v138), .val (.int v139), .val (.int v140), .val (.int v141), .val (.ref a142), .val (.ref a143), .val (.int (0 : Int32)), .unset] [])) (fun t k => XS.icmpNo X151.here hx rfl (hb hby at_53) rfl (XT.ii_lt_f c152) k) ?_
    refine Gl.st (g' := (mkF m 58 #[.val (.int p1), .val (.int p2), .val (.int p3), .val (.int v137), .val (.int v138), .val (.int v139), .val (.int v140), .val (.int v141), .val (.ref a142), .val (.ref a143), .val (.int (0 : Int32)), .unset] [(.ref a143)])) (fun t k => XS.aload X151.here hx rfl (hb hby at_56) rfl rfl k) ?_
    refine Gl.st (g' := (mkF m 60 #[.val (.int p1), .val (.int p2), .val (.int p3), .val (.int v137), .val (.int v138), .val (.int v139), .val (.int v140), .val (.int v141), .val (.ref a142), .val (.ref a143), .val (.int (0 : Int32)), .unset] [(.ref a142), (.ref a143)])) (fun t k => XS.aload X151.here hx rfl (hb hby at_58) rfl rfl k) ?_
    refine Gl.st (g' := (mkF m 61 #[.val (.int p1), .val (.int p2), .val (.int p3), .val (.int v137), .val (.int v138), .val (.int v139), .val (.int v140), .val (.int v141), .val (.ref a142), .val (.ref a143), .val (.int (0 : Int32)), .unset] [(.int (0 : Int32)), (.ref a142), (.ref a143)])) (fun t k => XT.iconstV X151.here hx rfl (0 : Int32) (hb hby at_60) rfl k) ?_
    refine Gl.st (g' := (mkF m 63 #[.val (.int p1), .val (.int p2), .val (.int p3), .val (.int v137), .val (.int v138), .val (.int v139), .val (.int v140), .val (.int v141), .val (.ref a142), .val (.ref a143), .val (.int (0 : Int32)), .unset] [(.int v139), (.int (0 : Int32)), (.ref a142), (.ref a143)])) (fun t k => XS.iload X151.here hx rfl (hb hby at_61) rfl k) ?_
    obtain ⟨cq154, kq154, qa154, qb154, qc154⟩ := isOf hZ e151 H151.exa
    obtain ⟨_, _, ⟨T154, L154, k154, n154⟩, -, X154, ⟨Lc154, hQ154, l154, y154, z154⟩, st154⟩ := X151.virtualBack hx (y := (⟨"com/example/bristlecone/bristlecone/HashBatch", "add", "([BII)V"⟩ : MethodName)) (z := (⟨"com/example/bristlecone/bristlecone/HashBatch", "add", "([BII)V"⟩ : MethodName)) hown (mvT hZ (hw _ (List.mem_of_getElem? (i := 20) rfl))) (mvT hZ (hw _ (List.mem_of_getElem? (i := 21) rfl))) (notFace_of_selects (args := #[]) (mvT hZ (hw _ (List.mem_of_getElem? (i := 23) rfl)))) (mvT hZ (hw _ (List.mem_of_getElem? (i := 23) rfl))) (mvT hZ (hw _ (List.mem_of_getElem? (i := 22) rfl))) (by decide) (backOf (W := 0) (rm3 l Z a0 hw a143 a142 (0 : Int32) v139 cA142 (16 : Int32) (0 : Int32) (0 : Int32) T151.heap n0 H151.1 H151 rfl (Sm.mono sl139 (by decide)) ⟨by decide, by decide⟩ (Sm.mono (show Sm 0 (0 : Int32) from ⟨by decide, by decide⟩) (by decide)) (own_le16 sl139)) hZ (hw _ (List.mem_of_getElem? (i := 24) rfl)) (hw _ (List.mem_of_getElem? (i := 3) rfl)) (by decide) (by decide)) qa154 qc154 (g := (mkF m 63 #[.val (.int p1), .val (.int p2), .val (.int p3), .val (.int v137), .val (.int v138), .val (.int v139), .val (.int v140), .val (.int v141), .val (.ref a142), .val (.ref a143), .val (.int (0 : Int32)), .unset] [(.int v139), (.int (0 : Int32)), (.ref a142), (.ref a143)])) rfl (by rw [hml]; rfl) (Steps.refl _) (argsL := [(.ref a142), (.int (0 : Int32)), (.int v139)]) (rest := []) (lenOf pd_2 rfl) rfl (by show 2 * 0 + _ ≤ _; exact Nat.le_of_eq rfl) (hb hby at_63) (fun _ _ => ⟨rfl, e151, (by decide : 0 + 1 + 1 + 4 + 0 ≤ _), (by decide : 0 + 16 + 8 + 81984 + 0 ≤ _)⟩)
    dsimp only [Pt.U, Pt.locs, Pt.cells, Pt.slots] at X154 l154 y154 z154 st154 hQ154
    subst l154 y154 z154
    obtain ⟨rfl, Nq154, H154⟩ := hQ154
    have N154 := Fr.app N151 Nq154
    have e154 : T154.heap = T154.heap := rfl
    have sm154 : Sm 15 ((0 : Int32) + v139) := Sm.add (show Sm 0 (0 : Int32) from ⟨by decide, by decide⟩) sl139 (by decide)
    refine Gl.st (g' := (mkF m 66 #[.val (.int p1), .val (.int p2), .val (.int p3), .val (.int v137), .val (.int v138), .val (.int v139), .val (.int v140), .val (.int v141), .val (.ref a142), .val (.ref a143), .val (.int (0 : Int32)), .unset] [])) (fun t k => st154.trans k) ?_
    refine Gl.st (g' := (mkF m 68 #[.val (.int p1), .val (.int p2), .val (.int p3), .val (.int v137), .val (.int v138), .val (.int v139), .val (.int v140), .val (.int v141), .val (.ref a142), .val (.ref a143), .val (.int (0 : Int32)), .unset] [(.int (0 : Int32))])) (fun t k => XS.iload X154.here hx rfl (hb hby at_66) rfl k) ?_
    refine Gl.st (g' := (mkF m 70 #[.val (.int p1), .val (.int p2), .val (.int p3), .val (.int v137), .val (.int v138), .val (.int v139), .val (.int v140), .val (.int v141), .val (.ref a142), .val (.ref a143), .val (.int (0 : Int32)), .unset] [(.int v139), (.int (0 : Int32))])) (fun t k => XS.iload X154.here hx rfl (hb hby at_68) rfl k) ?_
    refine Gl.st (g' := (mkF m 71 #[.val (.int p1), .val (.int p2), .val (.int p3), .val (.int v137), .val (.int v138), .val (.int v139), .val (.int v140), .val (.int v141), .val (.ref a142), .val (.ref a143), .val (.int (0 : Int32)), .unset] [(.int ((0 : Int32) + v139))])) (fun t k => XS.iadd X154.here hx rfl (hb hby at_70) rfl k) ?_
    refine Gl.st (g' := (mkF m 73 #[.val (.int p1), .val (.int p2), .val (.int p3), .val (.int v137), .val (.int v138), .val (.int v139), .val (.int v140), .val (.int v141), .val (.ref a142), .val (.ref a143), .val (.int ((0 : Int32) + v139)), .unset] [])) (fun t k => XS.istore X154.here hx rfl (hb hby at_71) rfl (l' := #[.val (.int p1), .val (.int p2), .val (.int p3), .val (.int v137), .val (.int v138), .val (.int v139), .val (.int v140), .val (.int v141), .val (.ref a142), .val (.ref a143), .val (.int ((0 : Int32) + v139)), .unset]) rfl k) ?_
    refine Gl.st (g' := (mkF m 75 #[.val (.int p1), .val (.int p2), .val (.int p3), .val (.int v137), .val (.int v138), .val (.int v139), .val (.int v140), .val (.int v141), .val (.ref a142), .val (.ref a143), .val (.int ((0 : Int32) + v139)), .unset] [(.int v138)])) (fun t k => XS.iload X154.here hx rfl (hb hby at_73) rfl k) ?_
    refine Gl.st (g' := (mkF m 76 #[.val (.int p1), .val (.int p2), .val (.int p3), .val (.int v137), .val (.int v138), .val (.int v139), .val (.int v140), .val (.int v141), .val (.ref a142), .val (.ref a143), .val (.int ((0 : Int32) + v139)), .unset] [(.int (2 : Int32)), (.int v138)])) (fun t k => XT.iconstV X154.here hx rfl (2 : Int32) (hb hby at_75) rfl k) ?_
    by_cases c155 : v138 < (2 : Int32)
    · skip
      refine Gl.st (g' := (mkF m 96 #[.val (.int p1), .val (.int p2), .val (.int p3), .val (.int v137), .val (.int v138), .val (.int v139), .val (.int v140), .val (.int v141), .val (.ref a142), .val (.ref a143), .val (.int ((0 : Int32) + v139)), .unset] [])) (fun t k => XS.icmpYes X154.here hx rfl (pc0 := 76) (pc' := 96) rfl (hb hby at_76) rfl (XT.ii_lt_t c155) (by decide) (by decide) k) ?_
      refine Gl.st (g' := (mkF m 98 #[.val (.int p1), .val (.int p2), .val (.int p3), .val (.int v137), .val (.int v138), .val (.int v139), .val (.int v140), .val (.int v141), .val (.ref a142), .val (.ref a143), .val (.int ((0 : Int32) + v139)), .unset] [(.int v138)])) (fun t k => XS.iload X154.here hx rfl (hb hby at_96) rfl k) ?_
      refine Gl.st (g' := (mkF m 99 #[.val (.int p1), .val (.int p2), .val (.int p3), .val (.int v137), .val (.int v138), .val (.int v139), .val (.int v140), .val (.int v141), .val (.ref a142), .val (.ref a143), .val (.int ((0 : Int32) + v139)), .unset] [(.int (3 : Int32)), (.int v138)])) (fun t k => XT.iconstV X154.here hx rfl (3 : Int32) (hb hby at_98) rfl k) ?_
      refine Gl.st (g' := (mkF m 119 #[.val (.int p1), .val (.int p2), .val (.int p3), .val (.int v137), .val (.int v138), .val (.int v139), .val (.int v140), .val (.int v141), .val (.ref a142), .val (.ref a143), .val (.int ((0 : Int32) + v139)), .unset] [])) (fun t k => XS.icmpYes X154.here hx rfl (pc0 := 99) (pc' := 119) rfl (hb hby at_99) rfl (XT.ii_lt_t (own_up c155 (by decide))) (by decide) (by decide) k) ?_
      refine Gl.st (g' := (mkF m 121 #[.val (.int p1), .val (.int p2), .val (.int p3), .val (.int v137), .val (.int v138), .val (.int v139), .val (.int v140), .val (.int v141), .val (.ref a142), .val (.ref a143), .val (.int ((0 : Int32) + v139)), .unset] [(.int v138)])) (fun t k => XS.iload X154.here hx rfl (hb hby at_119) rfl k) ?_
      refine Gl.st (g' := (mkF m 124 #[.val (.int p1), .val (.int p2), .val (.int p3), .val (.int v137), .val (.int v138), .val (.int v139), .val (.int v140), .val (.int v141), .val (.ref a142), .val (.ref a143), .val (.int ((0 : Int32) + v139)), .unset] [])) (fun t k => XS.ifNo X154.here hx rfl (hb hby at_121) rfl (XT.i0_eq_f (fun q => c152 (by rw [q]; decide))) k) ?_
      refine Gl.st (g' := (mkF m 126 #[.val (.int p1), .val (.int p2), .val (.int p3), .val (.int v137), .val (.int v138), .val (.int v139), .val (.int v140), .val (.int v141), .val (.ref a142), .val (.ref a143), .val (.int ((0 : Int32) + v139)), .unset] [(.int ((0 : Int32) + v139))])) (fun t k => XS.iload X154.here hx rfl (hb hby at_124) rfl k) ?_
      refine Gl.st (g' := (mkF m 127 #[.val (.int p1), .val (.int p2), .val (.int p3), .val (.int v137), .val (.int v138), .val (.int v139), .val (.int v140), .val (.int v141), .val (.ref a142), .val (.ref a143), .val (.int ((0 : Int32) + v139)), .unset] [(.long (((0 : Int32) + v139).toInt64))])) (fun t k => XS.i2l X154.here hx rfl (hb hby at_126) rfl k) ?_
      refine Gl.st (g' := (mkF m 128 #[.val (.int p1), .val (.int p2), .val (.int p3), .val (.int v137), .val (.int v138), .val (.int v139), .val (.int v140), .val (.int v141), .val (.ref a142), .val (.ref a143), .val (.int ((0 : Int32) + v139)), .unset] [(.int v137), (.long (((0 : Int32) + v139).toInt64))])) (fun t k => XS.iloadN X154.here hx rfl (hb hby at_127) rfl k) ?_
      refine Gl.st (g' := (mkF m 129 #[.val (.int p1), .val (.int p2), .val (.int p3), .val (.int v137), .val (.int v138), .val (.int v139), .val (.int v140), .val (.int v141), .val (.ref a142), .val (.ref a143), .val (.int ((0 : Int32) + v139)), .unset] [(.long (v137.toInt64)), (.long (((0 : Int32) + v139).toInt64))])) (fun t k => XS.i2l X154.here hx rfl (hb hby at_128) rfl k) ?_
      refine Gl.st (g' := (mkF m 130 #[.val (.int p1), .val (.int p2), .val (.int p3), .val (.int v137), .val (.int v138), .val (.int v139), .val (.int v140), .val (.int v141), .val (.ref a142), .val (.ref a143), .val (.int ((0 : Int32) + v139)), .unset] [(.long ((((0 : Int32) + v139).toInt64) + (v137.toInt64)))])) (fun t k => XS.ladd X154.here hx rfl (hb hby at_129) rfl k) ?_
      refine Gl.st (g' := (mkF m 133 #[.val (.int p1), .val (.int p2), .val (.int p3), .val (.int v137), .val (.int v138), .val (.int v139), .val (.int v140), .val (.int v141), .val (.ref a142), .val (.ref a143), .val (.int ((0 : Int32) + v139)), .unset] [(.long (1048576 : Int64)), (.long ((((0 : Int32) + v139).toInt64) + (v137.toInt64)))])) (fun t k => X154.ldc2J hx hown (mvT hZ (hw _ (List.mem_of_getElem? (i := 39) rfl))) rfl (hb hby at_130) k) ?_
      refine Gl.st (g' := (mkF m 134 #[.val (.int p1), .val (.int p2), .val (.int p3), .val (.int v137), .val (.int v138), .val (.int v139), .val (.int v140), .val (.int v141), .val (.ref a142), .val (.ref a143), .val (.int ((0 : Int32) + v139)), .unset] [(.int (XT.cmpL ((((0 : Int32) + v139).toInt64) + (v137.toInt64)) (1048576 : Int64)))])) (fun t k => XT.lcmp X154.here hx rfl (hb hby at_133) rfl k) ?_
      by_cases c156 : (1048576 : Int64) < ((((0 : Int32) + v139).toInt64) + (v137.toInt64))
      · skip
        refine Gl.st (g' := (mkF m 141 #[.val (.int p1), .val (.int p2), .val (.int p3), .val (.int v137), .val (.int v138), .val (.int v139), .val (.int v140), .val (.int v141), .val (.ref a142), .val (.ref a143), .val (.int ((0 : Int32) + v139)), .unset] [])) (fun t k => XS.ifYes X154.here hx rfl (pc0 := 134) (pc' := 141) rfl (hb hby at_134) rfl (XT.ll_gt_t c156) (by decide) (by decide) k) ?_
        refine Gl.st (g' := (mkF m 142 #[.val (.int p1), .val (.int p2), .val (.int p3), .val (.int v137), .val (.int v138), .val (.int v139), .val (.int v140), .val (.int v141), .val (.ref a142), .val (.ref a143), .val (.int ((0 : Int32) + v139)), .unset] [(.int (0 : Int32))])) (fun t k => XT.iconstV X154.here hx rfl (0 : Int32) (hb hby at_141) rfl k) ?_
        refine Gl.st (g' := (mkF m 144 #[.val (.int p1), .val (.int p2), .val (.int p3), .val (.int v137), .val (.int v138), .val (.int v139), .val (.int v140), .val (.int v141), .val (.ref a142), .val (.ref a143), .val (.int ((0 : Int32) + v139)), .val (.int (0 : Int32))] [])) (fun t k => XS.istore X154.here hx rfl (hb hby at_142) rfl (l' := #[.val (.int p1), .val (.int p2), .val (.int p3), .val (.int v137), .val (.int v138), .val (.int v139), .val (.int v140), .val (.int v141), .val (.ref a142), .val (.ref a143), .val (.int ((0 : Int32) + v139)), .val (.int (0 : Int32))]) rfl k) ?_
        refine Gl.st (g' := (mkF m 146 #[.val (.int p1), .val (.int p2), .val (.int p3), .val (.int v137), .val (.int v138), .val (.int v139), .val (.int v140), .val (.int v141), .val (.ref a142), .val (.ref a143), .val (.int ((0 : Int32) + v139)), .val (.int (0 : Int32))] [(.ref a143)])) (fun t k => XS.aload X154.here hx rfl (hb hby at_144) rfl rfl k) ?_
        refine Gl.st (g' := (mkF m 147 #[.val (.int p1), .val (.int p2), .val (.int p3), .val (.int v137), .val (.int v138), .val (.int v139), .val (.int v140), .val (.int v141), .val (.ref a142), .val (.ref a143), .val (.int ((0 : Int32) + v139)), .val (.int (0 : Int32))] [(.int v137), (.ref a143)])) (fun t k => XS.iloadN X154.here hx rfl (hb hby at_146) rfl k) ?_
        obtain ⟨cq157, kq157, qa157, qb157, qc157⟩ := isOf hZ e154 H154.exa
        obtain ⟨_, _, ⟨T157, L157, k157, n157⟩, -, X157, ⟨Lc157, hQ157, l157, y157, z157⟩, st157⟩ := X154.virtualBack hx (y := (⟨"com/example/bristlecone/bristlecone/HashBatch", "fits", "(I)Z"⟩ : MethodName)) (z := (⟨"com/example/bristlecone/bristlecone/HashBatch", "fits", "(I)Z"⟩ : MethodName)) hown (mvT hZ (hw _ (List.mem_of_getElem? (i := 40) rfl))) (mvT hZ (hw _ (List.mem_of_getElem? (i := 26) rfl))) (notFace_of_selects (args := #[]) (mvT hZ (hw _ (List.mem_of_getElem? (i := 28) rfl)))) (mvT hZ (hw _ (List.mem_of_getElem? (i := 28) rfl))) (mvT hZ (hw _ (List.mem_of_getElem? (i := 27) rfl))) (by decide) (backOf (W := 0) (rm2 l Z a0 hw a143 v137 a142 cA142 (16 : Int32) ((0 : Int32) + (1 : Int32)) ((0 : Int32) + v139) T154.heap n0 H154.1 H154) hZ (hw _ (List.mem_of_getElem? (i := 29) rfl)) (hw _ (List.mem_of_getElem? (i := 3) rfl)) (by decide) (by decide)) qa157 qc157 (g := (mkF m 147 #[.val (.int p1), .val (.int p2), .val (.int p3), .val (.int v137), .val (.int v138), .val (.int v139), .val (.int v140), .val (.int v141), .val (.ref a142), .val (.ref a143), .val (.int ((0 : Int32) + v139)), .val (.int (0 : Int32))] [(.int v137), (.ref a143)])) rfl (by rw [hml]; rfl) (Steps.refl _) (argsL := [(.int v137)]) (rest := []) (lenOf pd_0 rfl) rfl (by show 2 * 0 + _ ≤ _; exact Nat.le_of_eq rfl) (hb hby at_147) (fun _ _ => ⟨rfl, e154, (by decide : 0 + 1 + 1 + 4 + 0 + 0 ≤ _), (by decide : 0 + 16 + 8 + 81984 + 0 + 0 ≤ _)⟩)
        dsimp only [Pt.U, Pt.locs, Pt.cells, Pt.slots] at X157 l157 y157 z157 st157 hQ157
        subst l157 y157 z157
        obtain ⟨rfl, Nq157, e157⟩ := hQ157
        have N157 := Fr.app N154 Nq157
        refine Gl.st (g' := (mkF m 150 #[.val (.int p1), .val (.int p2), .val (.int p3), .val (.int v137), .val (.int v138), .val (.int v139), .val (.int v140), .val (.int v141), .val (.ref a142), .val (.ref a143), .val (.int ((0 : Int32) + v139)), .val (.int (0 : Int32))] [(.int (own_fits ((0 : Int32) + (1 : Int32)) ((0 : Int32) + v139) v137))])) (fun t k => st157.trans k) ?_
        refine Gl.st (g' := (mkF m 152 #[.val (.int p1), .val (.int p2), .val (.int p3), .val (.int v137), .val (.int v138), .val (.int v139), .val (.int v140), .val (.int v141), .val (.ref a142), .val (.ref a143), .val (.int ((0 : Int32) + v139)), .val (.int (0 : Int32))] [(.int (0 : Int32)), (.int (own_fits ((0 : Int32) + (1 : Int32)) ((0 : Int32) + v139) v137))])) (fun t k => XS.iload X157.here hx rfl (hb hby at_150) rfl k) ?_
        refine Gl.st (g' := (mkF m 155 #[.val (.int p1), .val (.int p2), .val (.int p3), .val (.int v137), .val (.int v138), .val (.int v139), .val (.int v140), .val (.int v141), .val (.ref a142), .val (.ref a143), .val (.int ((0 : Int32) + v139)), .val (.int (0 : Int32))] [])) (fun t k => XS.icmpNo X157.here hx rfl (hb hby at_152) rfl (XT.ii_ne_f (own_big (by decide) (by decide) (Sm.mono sm154 (by decide)) sl137 c156)) k) ?_
        refine Gl.st (g' := (mkF m 156 #[.val (.int p1), .val (.int p2), .val (.int p3), .val (.int v137), .val (.int v138), .val (.int v139), .val (.int v140), .val (.int v141), .val (.ref a142), .val (.ref a143), .val (.int ((0 : Int32) + v139)), .val (.int (0 : Int32))] [(.int (1 : Int32))])) (fun t k => XT.iconstV X157.here hx rfl (1 : Int32) (hb hby at_155) rfl k) ?_
        refine Gl.st (g' := (mkF m 160 #[.val (.int p1), .val (.int p2), .val (.int p3), .val (.int v137), .val (.int v138), .val (.int v139), .val (.int v140), .val (.int v141), .val (.ref a142), .val (.ref a143), .val (.int ((0 : Int32) + v139)), .val (.int (0 : Int32))] [(.int (1 : Int32))])) (fun t k => XS.goto X157.here hx rfl (pc0 := 156) (pc' := 160) rfl (hb hby at_156) (by decide) (by decide) k) ?_
        refine Gl.retZ X157 hx hlk .boolean (by simp) Bd.returns (hb hby at_160) e157 (by decide) (by decide) ?_
        rw [Q0, own_z1]
        exact ⟨rfl, N157⟩
      · skip
        refine Gl.st (g' := (mkF m 137 #[.val (.int p1), .val (.int p2), .val (.int p3), .val (.int v137), .val (.int v138), .val (.int v139), .val (.int v140), .val (.int v141), .val (.ref a142), .val (.ref a143), .val (.int ((0 : Int32) + v139)), .unset] [])) (fun t k => XS.ifNo X154.here hx rfl (hb hby at_134) rfl (XT.ll_gt_f c156) k) ?_
        refine Gl.st (g' := (mkF m 138 #[.val (.int p1), .val (.int p2), .val (.int p3), .val (.int v137), .val (.int v138), .val (.int v139), .val (.int v140), .val (.int v141), .val (.ref a142), .val (.ref a143), .val (.int ((0 : Int32) + v139)), .unset] [(.int (1 : Int32))])) (fun t k => XT.iconstV X154.here hx rfl (1 : Int32) (hb hby at_137) rfl k) ?_
        refine Gl.st (g' := (mkF m 142 #[.val (.int p1), .val (.int p2), .val (.int p3), .val (.int v137), .val (.int v138), .val (.int v139), .val (.int v140), .val (.int v141), .val (.ref a142), .val (.ref a143), .val (.int ((0 : Int32) + v139)), .unset] [(.int (1 : Int32))])) (fun t k => XS.goto X154.here hx rfl (pc0 := 138) (pc' := 142) rfl (hb hby at_138) (by decide) (by decide) k) ?_
        refine Gl.st (g' := (mkF m 144 #[.val (.int p1), .val (.int p2), .val (.int p3), .val (.int v137), .val (.int v138), .val (.int v139), .val (.int v140), .val (.int v141), .val (.ref a142), .val (.ref a143), .val (.int ((0 : Int32) + v139)), .val (.int (1 : Int32))] [])) (fun t k => XS.istore X154.here hx rfl (hb hby at_142) rfl (l' := #[.val (.int p1), .val (.int p2), .val (.int p3), .val (.int v137), .val (.int v138), .val (.int v139), .val (.int v140), .val (.int v141), .val (.ref a142), .val (.ref a143), .val (.int ((0 : Int32) + v139)), .val (.int (1 : Int32))]) rfl k) ?_
        refine Gl.st (g' := (mkF m 146 #[.val (.int p1), .val (.int p2), .val (.int p3), .val (.int v137), .val (.int v138), .val (.int v139), .val (.int v140), .val (.int v141), .val (.ref a142), .val (.ref a143), .val (.int ((0 : Int32) + v139)), .val (.int (1 : Int32))] [(.ref a143)])) (fun t k => XS.aload X154.here hx rfl (hb hby at_144) rfl rfl k) ?_
        refine Gl.st (g' := (mkF m 147 #[.val (.int p1), .val (.int p2), .val (.int p3), .val (.int v137), .val (.int v138), .val (.int v139), .val (.int v140), .val (.int v141), .val (.ref a142), .val (.ref a143), .val (.int ((0 : Int32) + v139)), .val (.int (1 : Int32))] [(.int v137), (.ref a143)])) (fun t k => XS.iloadN X154.here hx rfl (hb hby at_146) rfl k) ?_
        obtain ⟨cq158, kq158, qa158, qb158, qc158⟩ := isOf hZ e154 H154.exa
        obtain ⟨_, _, ⟨T158, L158, k158, n158⟩, -, X158, ⟨Lc158, hQ158, l158, y158, z158⟩, st158⟩ := X154.virtualBack hx (y := (⟨"com/example/bristlecone/bristlecone/HashBatch", "fits", "(I)Z"⟩ : MethodName)) (z := (⟨"com/example/bristlecone/bristlecone/HashBatch", "fits", "(I)Z"⟩ : MethodName)) hown (mvT hZ (hw _ (List.mem_of_getElem? (i := 40) rfl))) (mvT hZ (hw _ (List.mem_of_getElem? (i := 26) rfl))) (notFace_of_selects (args := #[]) (mvT hZ (hw _ (List.mem_of_getElem? (i := 28) rfl)))) (mvT hZ (hw _ (List.mem_of_getElem? (i := 28) rfl))) (mvT hZ (hw _ (List.mem_of_getElem? (i := 27) rfl))) (by decide) (backOf (W := 0) (rm2 l Z a0 hw a143 v137 a142 cA142 (16 : Int32) ((0 : Int32) + (1 : Int32)) ((0 : Int32) + v139) T154.heap n0 H154.1 H154) hZ (hw _ (List.mem_of_getElem? (i := 29) rfl)) (hw _ (List.mem_of_getElem? (i := 3) rfl)) (by decide) (by decide)) qa158 qc158 (g := (mkF m 147 #[.val (.int p1), .val (.int p2), .val (.int p3), .val (.int v137), .val (.int v138), .val (.int v139), .val (.int v140), .val (.int v141), .val (.ref a142), .val (.ref a143), .val (.int ((0 : Int32) + v139)), .val (.int (1 : Int32))] [(.int v137), (.ref a143)])) rfl (by rw [hml]; rfl) (Steps.refl _) (argsL := [(.int v137)]) (rest := []) (lenOf pd_0 rfl) rfl (by show 2 * 0 + _ ≤ _; exact Nat.le_of_eq rfl) (hb hby at_147) (fun _ _ => ⟨rfl, e154, (by decide : 0 + 1 + 1 + 4 + 0 + 0 ≤ _), (by decide : 0 + 16 + 8 + 81984 + 0 + 0 ≤ _)⟩)
        dsimp only [Pt.U, Pt.locs, Pt.cells, Pt.slots] at X158 l158 y158 z158 st158 hQ158
        subst l158 y158 z158
        obtain ⟨rfl, Nq158, e158⟩ := hQ158
        have N158 := Fr.app N154 Nq158
        refine Gl.st (g' := (mkF m 150 #[.val (.int p1), .val (.int p2), .val (.int p3), .val (.int v137), .val (.int v138), .val (.int v139), .val (.int v140), .val (.int v141), .val (.ref a142), .val (.ref a143), .val (.int ((0 : Int32) + v139)), .val (.int (1 : Int32))] [(.int (own_fits ((0 : Int32) + (1 : Int32)) ((0 : Int32) + v139) v137))])) (fun t k => st158.trans k) ?_
        refine Gl.st (g' := (mkF m 152 #[.val (.int p1), .val (.int p2), .val (.int p3), .val (.int v137), .val (.int v138), .val (.int v139), .val (.int v140), .val (.int v141), .val (.ref a142), .val (.ref a143), .val (.int ((0 : Int32) + v139)), .val (.int (1 : Int32))] [(.int (1 : Int32)), (.int (own_fits ((0 : Int32) + (1 : Int32)) ((0 : Int32) + v139) v137))])) (fun t k => XS.iload X158.here hx rfl (hb hby at_150) rfl k) ?_
        refine Gl.st (g' := (mkF m 155 #[.val (.int p1), .val (.int p2), .val (.int p3), .val (.int v137), .val (.int v138), .val (.int v139), .val (.int v140), .val (.int v141), .val (.ref a142), .val (.ref a143), .val (.int ((0 : Int32) + v139)), .val (.int (1 : Int32))] [])) (fun t k => XS.icmpNo X158.here hx rfl (hb hby at_152) rfl (XT.ii_ne_f (own_small (by decide) (by decide) (Sm.mono sm154 (by decide)) sl137 c156)) k) ?_
        refine Gl.st (g' := (mkF m 156 #[.val (.int p1), .val (.int p2), .val (.int p3), .val (.int v137), .val (.int v138), .val (.int v139), .val (.int v140), .val (.int v141), .val (.ref a142), .val (.ref a143), .val (.int ((0 : Int32) + v139)), .val (.int (1 : Int32))] [(.int (1 : Int32))])) (fun t k => XT.iconstV X158.here hx rfl (1 : Int32) (hb hby at_155) rfl k) ?_
        refine Gl.st (g' := (mkF m 160 #[.val (.int p1), .val (.int p2), .val (.int p3), .val (.int v137), .val (.int v138), .val (.int v139), .val (.int v140), .val (.int v141), .val (.ref a142), .val (.ref a143), .val (.int ((0 : Int32) + v139)), .val (.int (1 : Int32))] [(.int (1 : Int32))])) (fun t k => XS.goto X158.here hx rfl (pc0 := 156) (pc' := 160) rfl (hb hby at_156) (by decide) (by decide) k) ?_
        refine Gl.retZ X158 hx hlk .boolean (by simp) Bd.returns (hb hby at_160) e158 (by decide) (by decide) ?_
        rw [Q0, own_z1]
        exact ⟨rfl, N158⟩
    · skip
      refine Gl.st (g' := (mkF m 79 #[.val (.int p1), .val (.int p2), .val (.int p3), .val (.int v137), .val (.int v138), .val (.int v139), .val (.int v140), .val (.int v141), .val (.ref a142), .val (.ref a143), .val (.int ((0 : Int32) + v139)), .unset] [])) (fun t k => XS.icmpNo X154.here hx rfl (hb hby at_76) rfl (XT.ii_lt_f c155) k) ?_
      refine Gl.st (g' := (mkF m 81 #[.val (.int p1), .val (.int p2), .val (.int p3), .val (.int v137), .val (.int v138), .val (.int v139), .val (.int v140), .val (.int v141), .val (.ref a142), .val (.ref a143), .val (.int ((0 : Int32) + v139)), .unset] [(.ref a143)])) (fun t k => XS.aload X154.here hx rfl (hb hby at_79) rfl rfl k) ?_
      refine Gl.st (g' := (mkF m 83 #[.val (.int p1), .val (.int p2), .val (.int p3), .val (.int v137), .val (.int v138), .val (.int v139), .val (.int v140), .val (.int v141), .val (.ref a142), .val (.ref a143), .val (.int ((0 : Int32) + v139)), .unset] [(.ref a142), (.ref a143)])) (fun t k => XS.aload X154.here hx rfl (hb hby at_81) rfl rfl k) ?_
      refine Gl.st (g' := (mkF m 84 #[.val (.int p1), .val (.int p2), .val (.int p3), .val (.int v137), .val (.int v138), .val (.int v139), .val (.int v140), .val (.int v141), .val (.ref a142), .val (.ref a143), .val (.int ((0 : Int32) + v139)), .unset] [(.int (0 : Int32)), (.ref a142), (.ref a143)])) (fun t k => XT.iconstV X154.here hx rfl (0 : Int32) (hb hby at_83) rfl k) ?_
      refine Gl.st (g' := (mkF m 86 #[.val (.int p1), .val (.int p2), .val (.int p3), .val (.int v137), .val (.int v138), .val (.int v139), .val (.int v140), .val (.int v141), .val (.ref a142), .val (.ref a143), .val (.int ((0 : Int32) + v139)), .unset] [(.int v140), (.int (0 : Int32)), (.ref a142), (.ref a143)])) (fun t k => XS.iload X154.here hx rfl (hb hby at_84) rfl k) ?_
      obtain ⟨cq159, kq159, qa159, qb159, qc159⟩ := isOf hZ e154 H154.exa
      obtain ⟨_, _, ⟨T159, L159, k159, n159⟩, -, X159, ⟨Lc159, hQ159, l159, y159, z159⟩, st159⟩ := X154.virtualBack hx (y := (⟨"com/example/bristlecone/bristlecone/HashBatch", "add", "([BII)V"⟩ : MethodName)) (z := (⟨"com/example/bristlecone/bristlecone/HashBatch", "add", "([BII)V"⟩ : MethodName)) hown (mvT hZ (hw _ (List.mem_of_getElem? (i := 20) rfl))) (mvT hZ (hw _ (List.mem_of_getElem? (i := 21) rfl))) (notFace_of_selects (args := #[]) (mvT hZ (hw _ (List.mem_of_getElem? (i := 23) rfl)))) (mvT hZ (hw _ (List.mem_of_getElem? (i := 23) rfl))) (mvT hZ (hw _ (List.mem_of_getElem? (i := 22) rfl))) (by decide) (backOf (W := 0) (rm3 l Z a0 hw a143 a142 (0 : Int32) v140 cA142 (16 : Int32) ((0 : Int32) + (1 : Int32)) ((0 : Int32) + v139) T154.heap n0 H154.1 H154 rfl (Sm.mono sl140 (by decide)) ⟨by decide, by decide⟩ (Sm.mono sm154 (by decide)) (own_le16 sl140)) hZ (hw _ (List.mem_of_getElem? (i := 24) rfl)) (hw _ (List.mem_of_getElem? (i := 3) rfl)) (by decide) (by decide)) qa159 qc159 (g := (mkF m 86 #[.val (.int p1), .val (.int p2), .val (.int p3), .val (.int v137), .val (.int v138), .val (.int v139), .val (.int v140), .val (.int v141), .val (.ref a142), .val (.ref a143), .val (.int ((0 : Int32) + v139)), .unset] [(.int v140), (.int (0 : Int32)), (.ref a142), (.ref a143)])) rfl (by rw [hml]; rfl) (Steps.refl _) (argsL := [(.ref a142), (.int (0 : Int32)), (.int v140)]) (rest := []) (lenOf pd_2 rfl) rfl (by show 2 * 0 + _ ≤ _; exact Nat.le_of_eq rfl) (hb hby at_86) (fun _ _ => ⟨rfl, e154, (by decide : 0 + 1 + 1 + 4 + 0 + 0 ≤ _), (by decide : 0 + 16 + 8 + 81984 + 0 + 0 ≤ _)⟩)
      dsimp only [Pt.U, Pt.locs, Pt.cells, Pt.slots] at X159 l159 y159 z159 st159 hQ159
      subst l159 y159 z159
      obtain ⟨rfl, Nq159, H159⟩ := hQ159
      have N159 := Fr.app N154 Nq159
      have e159 : T159.heap = T159.heap := rfl
      have sm159 : Sm 30 (((0 : Int32) + v139) + v140) := Sm.add sm154 sl140 (by decide)
      refine Gl.st (g' := (mkF m 89 #[.val (.int p1), .val (.int p2), .val (.int p3), .val (.int v137), .val (.int v138), .val (.int v139), .val (.int v140), .val (.int v141), .val (.ref a142), .val (.ref a143), .val (.int ((0 : Int32) + v139)), .unset] [])) (fun t k => st159.trans k) ?_
      refine Gl.st (g' := (mkF m 91 #[.val (.int p1), .val (.int p2), .val (.int p3), .val (.int v137), .val (.int v138), .val (.int v139), .val (.int v140), .val (.int v141), .val (.ref a142), .val (.ref a143), .val (.int ((0 : Int32) + v139)), .unset] [(.int ((0 : Int32) + v139))])) (fun t k => XS.iload X159.here hx rfl (hb hby at_89) rfl k) ?_
      refine Gl.st (g' := (mkF m 93 #[.val (.int p1), .val (.int p2), .val (.int p3), .val (.int v137), .val (.int v138), .val (.int v139), .val (.int v140), .val (.int v141), .val (.ref a142), .val (.ref a143), .val (.int ((0 : Int32) + v139)), .unset] [(.int v140), (.int ((0 : Int32) + v139))])) (fun t k => XS.iload X159.here hx rfl (hb hby at_91) rfl k) ?_
      refine Gl.st (g' := (mkF m 94 #[.val (.int p1), .val (.int p2), .val (.int p3), .val (.int v137), .val (.int v138), .val (.int v139), .val (.int v140), .val (.int v141), .val (.ref a142), .val (.ref a143), .val (.int ((0 : Int32) + v139)), .unset] [(.int (((0 : Int32) + v139) + v140))])) (fun t k => XS.iadd X159.here hx rfl (hb hby at_93) rfl k) ?_
      refine Gl.st (g' := (mkF m 96 #[.val (.int p1), .val (.int p2), .val (.int p3), .val (.int v137), .val (.int v138), .val (.int v139), .val (.int v140), .val (.int v141), .val (.ref a142), .val (.ref a143), .val (.int (((0 : Int32) + v139) + v140)), .unset] [])) (fun t k => XS.istore X159.here hx rfl (hb hby at_94) rfl (l' := #[.val (.int p1), .val (.int p2), .val (.int p3), .val (.int v137), .val (.int v138), .val (.int v139), .val (.int v140), .val (.int v141), .val (.ref a142), .val (.ref a143), .val (.int (((0 : Int32) + v139) + v140)), .unset]) rfl k) ?_
      refine Gl.st (g' := (mkF m 98 #[.val (.int p1), .val (.int p2), .val (.int p3), .val (.int v137), .val (.int v138), .val (.int v139), .val (.int v140), .val (.int v141), .val (.ref a142), .val (.ref a143), .val (.int (((0 : Int32) + v139) + v140)), .unset] [(.int v138)])) (fun t k => XS.iload X159.here hx rfl (hb hby at_96) rfl k) ?_
      refine Gl.st (g' := (mkF m 99 #[.val (.int p1), .val (.int p2), .val (.int p3), .val (.int v137), .val (.int v138), .val (.int v139), .val (.int v140), .val (.int v141), .val (.ref a142), .val (.ref a143), .val (.int (((0 : Int32) + v139) + v140)), .unset] [(.int (3 : Int32)), (.int v138)])) (fun t k => XT.iconstV X159.here hx rfl (3 : Int32) (hb hby at_98) rfl k) ?_
      by_cases c160 : v138 < (3 : Int32)
      · skip
        refine Gl.st (g' := (mkF m 119 #[.val (.int p1), .val (.int p2), .val (.int p3), .val (.int v137), .val (.int v138), .val (.int v139), .val (.int v140), .val (.int v141), .val (.ref a142), .val (.ref a143), .val (.int (((0 : Int32) + v139) + v140)), .unset] [])) (fun t k => XS.icmpYes X159.here hx rfl (pc0 := 99) (pc' := 119) rfl (hb hby at_99) rfl (XT.ii_lt_t c160) (by decide) (by decide) k) ?_
        refine Gl.st (g' := (mkF m 121 #[.val (.int p1), .val (.int p2), .val (.int p3), .val (.int v137), .val (.int v138), .val (.int v139), .val (.int v140), .val (.int v141), .val (.ref a142), .val (.ref a143), .val (.int (((0 : Int32) + v139) + v140)), .unset] [(.int v138)])) (fun t k => XS.iload X159.here hx rfl (hb hby at_119) rfl k) ?_
        refine Gl.st (g' := (mkF m 124 #[.val (.int p1), .val (.int p2), .val (.int p3), .val (.int v137), .val (.int v138), .val (.int v139), .val (.int v140), .val (.int v141), .val (.ref a142), .val (.ref a143), .val (.int (((0 : Int32) + v139) + v140)), .unset] [])) (fun t k => XS.ifNo X159.here hx rfl (hb hby at_121) rfl (XT.i0_eq_f (fun q => c152 (by rw [q]; decide))) k) ?_
        refine Gl.st (g' := (mkF m 126 #[.val (.int p1), .val (.int p2), .val (.int p3), .val (.int v137), .val (.int v138), .val (.int v139), .val (.int v140), .val (.int v141), .val (.ref a142), .val (.ref a143), .val (.int (((0 : Int32) + v139) + v140)), .unset] [(.int (((0 : Int32) + v139) + v140))])) (fun t k => XS.iload X159.here hx rfl (hb hby at_124) rfl k) ?_
        refine Gl.st (g' := (mkF m 127 #[.val (.int p1), .val (.int p2), .val (.int p3), .val (.int v137), .val (.int v138), .val (.int v139), .val (.int v140), .val (.int v141), .val (.ref a142), .val (.ref a143), .val (.int (((0 : Int32) + v139) + v140)), .unset] [(.long ((((0 : Int32) + v139) + v140).toInt64))])) (fun t k => XS.i2l X159.here hx rfl (hb hby at_126) rfl k) ?_
        refine Gl.st (g' := (mkF m 128 #[.val (.int p1), .val (.int p2), .val (.int p3), .val (.int v137), .val (.int v138), .val (.int v139), .val (.int v140), .val (.int v141), .val (.ref a142), .val (.ref a143), .val (.int (((0 : Int32) + v139) + v140)), .unset] [(.int v137), (.long ((((0 : Int32) + v139) + v140).toInt64))])) (fun t k => XS.iloadN X159.here hx rfl (hb hby at_127) rfl k) ?_
        refine Gl.st (g' := (mkF m 129 #[.val (.int p1), .val (.int p2), .val (.int p3), .val (.int v137), .val (.int v138), .val (.int v139), .val (.int v140), .val (.int v141), .val (.ref a142), .val (.ref a143), .val (.int (((0 : Int32) + v139) + v140)), .unset] [(.long (v137.toInt64)), (.long ((((0 : Int32) + v139) + v140).toInt64))])) (fun t k => XS.i2l X159.here hx rfl (hb hby at_128) rfl k) ?_
        refine Gl.st (g' := (mkF m 130 #[.val (.int p1), .val (.int p2), .val (.int p3), .val (.int v137), .val (.int v138), .val (.int v139), .val (.int v140), .val (.int v141), .val (.ref a142), .val (.ref a143), .val (.int (((0 : Int32) + v139) + v140)), .unset] [(.long (((((0 : Int32) + v139) + v140).toInt64) + (v137.toInt64)))])) (fun t k => XS.ladd X159.here hx rfl (hb hby at_129) rfl k) ?_
        refine Gl.st (g' := (mkF m 133 #[.val (.int p1), .val (.int p2), .val (.int p3), .val (.int v137), .val (.int v138), .val (.int v139), .val (.int v140), .val (.int v141), .val (.ref a142), .val (.ref a143), .val (.int (((0 : Int32) + v139) + v140)), .unset] [(.long (1048576 : Int64)), (.long (((((0 : Int32) + v139) + v140).toInt64) + (v137.toInt64)))])) (fun t k => X159.ldc2J hx hown (mvT hZ (hw _ (List.mem_of_getElem? (i := 39) rfl))) rfl (hb hby at_130) k) ?_
        refine Gl.st (g' := (mkF m 134 #[.val (.int p1), .val (.int p2), .val (.int p3), .val (.int v137), .val (.int v138), .val (.int v139), .val (.int v140), .val (.int v141), .val (.ref a142), .val (.ref a143), .val (.int (((0 : Int32) + v139) + v140)), .unset] [(.int (XT.cmpL (((((0 : Int32) + v139) + v140).toInt64) + (v137.toInt64)) (1048576 : Int64)))])) (fun t k => XT.lcmp X159.here hx rfl (hb hby at_133) rfl k) ?_
        by_cases c161 : (1048576 : Int64) < (((((0 : Int32) + v139) + v140).toInt64) + (v137.toInt64))
        · skip
          refine Gl.st (g' := (mkF m 141 #[.val (.int p1), .val (.int p2), .val (.int p3), .val (.int v137), .val (.int v138), .val (.int v139), .val (.int v140), .val (.int v141), .val (.ref a142), .val (.ref a143), .val (.int (((0 : Int32) + v139) + v140)), .unset] [])) (fun t k => XS.ifYes X159.here hx rfl (pc0 := 134) (pc' := 141) rfl (hb hby at_134) rfl (XT.ll_gt_t c161) (by decide) (by decide) k) ?_
          refine Gl.st (g' := (mkF m 142 #[.val (.int p1), .val (.int p2), .val (.int p3), .val (.int v137), .val (.int v138), .val (.int v139), .val (.int v140), .val (.int v141), .val (.ref a142), .val (.ref a143), .val (.int (((0 : Int32) + v139) + v140)), .unset] [(.int (0 : Int32))])) (fun t k => XT.iconstV X159.here hx rfl (0 : Int32) (hb hby at_141) rfl k) ?_
          refine Gl.st (g' := (mkF m 144 #[.val (.int p1), .val (.int p2), .val (.int p3), .val (.int v137), .val (.int v138), .val (.int v139), .val (.int v140), .val (.int v141), .val (.ref a142), .val (.ref a143), .val (.int (((0 : Int32) + v139) + v140)), .val (.int (0 : Int32))] [])) (fun t k => XS.istore X159.here hx rfl (hb hby at_142) rfl (l' := #[.val (.int p1), .val (.int p2), .val (.int p3), .val (.int v137), .val (.int v138), .val (.int v139), .val (.int v140), .val (.int v141), .val (.ref a142), .val (.ref a143), .val (.int (((0 : Int32) + v139) + v140)), .val (.int (0 : Int32))]) rfl k) ?_
          refine Gl.st (g' := (mkF m 146 #[.val (.int p1), .val (.int p2), .val (.int p3), .val (.int v137), .val (.int v138), .val (.int v139), .val (.int v140), .val (.int v141), .val (.ref a142), .val (.ref a143), .val (.int (((0 : Int32) + v139) + v140)), .val (.int (0 : Int32))] [(.ref a143)])) (fun t k => XS.aload X159.here hx rfl (hb hby at_144) rfl rfl k) ?_
          refine Gl.st (g' := (mkF m 147 #[.val (.int p1), .val (.int p2), .val (.int p3), .val (.int v137), .val (.int v138), .val (.int v139), .val (.int v140), .val (.int v141), .val (.ref a142), .val (.ref a143), .val (.int (((0 : Int32) + v139) + v140)), .val (.int (0 : Int32))] [(.int v137), (.ref a143)])) (fun t k => XS.iloadN X159.here hx rfl (hb hby at_146) rfl k) ?_
          obtain ⟨cq162, kq162, qa162, qb162, qc162⟩ := isOf hZ e159 H159.exa
          obtain ⟨_, _, ⟨T162, L162, k162, n162⟩, -, X162, ⟨Lc162, hQ162, l162, y162, z162⟩, st162⟩ := X159.virtualBack hx (y := (⟨"com/example/bristlecone/bristlecone/HashBatch", "fits", "(I)Z"⟩ : MethodName)) (z := (⟨"com/example/bristlecone/bristlecone/HashBatch", "fits", "(I)Z"⟩ : MethodName)) hown (mvT hZ (hw _ (List.mem_of_getElem? (i := 40) rfl))) (mvT hZ (hw _ (List.mem_of_getElem? (i := 26) rfl))) (notFace_of_selects (args := #[]) (mvT hZ (hw _ (List.mem_of_getElem? (i := 28) rfl)))) (mvT hZ (hw _ (List.mem_of_getElem? (i := 28) rfl))) (mvT hZ (hw _ (List.mem_of_getElem? (i := 27) rfl))) (by decide) (backOf (W := 0) (rm2 l Z a0 hw a143 v137 a142 cA142 (16 : Int32) (((0 : Int32) + (1 : Int32)) + (1 : Int32)) (((0 : Int32) + v139) + v140) T159.heap n0 H159.1 H159) hZ (hw _ (List.mem_of_getElem? (i := 29) rfl)) (hw _ (List.mem_of_getElem? (i := 3) rfl)) (by decide) (by decide)) qa162 qc162 (g := (mkF m 147 #[.val (.int p1), .val (.int p2), .val (.int p3), .val (.int v137), .val (.int v138), .val (.int v139), .val (.int v140), .val (.int v141), .val (.ref a142), .val (.ref a143), .val (.int (((0 : Int32) + v139) + v140)), .val (.int (0 : Int32))] [(.int v137), (.ref a143)])) rfl (by rw [hml]; rfl) (Steps.refl _) (argsL := [(.int v137)]) (rest := []) (lenOf pd_0 rfl) rfl (by show 2 * 0 + _ ≤ _; exact Nat.le_of_eq rfl) (hb hby at_147) (fun _ _ => ⟨rfl, e159, (by decide : 0 + 1 + 1 + 4 + 0 + 0 + 0 ≤ _), (by decide : 0 + 16 + 8 + 81984 + 0 + 0 + 0 ≤ _)⟩)
          dsimp only [Pt.U, Pt.locs, Pt.cells, Pt.slots] at X162 l162 y162 z162 st162 hQ162
          subst l162 y162 z162
          obtain ⟨rfl, Nq162, e162⟩ := hQ162
          have N162 := Fr.app N159 Nq162
          refine Gl.st (g' := (mkF m 150 #[.val (.int p1), .val (.int p2), .val (.int p3), .val (.int v137), .val (.int v138), .val (.int v139), .val (.int v140), .val (.int v141), .val (.ref a142), .val (.ref a143), .val (.int (((0 : Int32) + v139) + v140)), .val (.int (0 : Int32))] [(.int (own_fits (((0 : Int32) + (1 : Int32)) + (1 : Int32)) (((0 : Int32) + v139) + v140) v137))])) (fun t k => st162.trans k) ?_
          refine Gl.st (g' := (mkF m 152 #[.val (.int p1), .val (.int p2), .val (.int p3), .val (.int v137), .val (.int v138), .val (.int v139), .val (.int v140), .val (.int v141), .val (.ref a142), .val (.ref a143), .val (.int (((0 : Int32) + v139) + v140)), .val (.int (0 : Int32))] [(.int (0 : Int32)), (.int (own_fits (((0 : Int32) + (1 : Int32)) + (1 : Int32)) (((0 : Int32) + v139) + v140) v137))])) (fun t k => XS.iload X162.here hx rfl (hb hby at_150) rfl k) ?_
          refine Gl.st (g' := (mkF m 155 #[.val (.int p1), .val (.int p2), .val (.int p3), .val (.int v137), .val (.int v138), .val (.int v139), .val (.int v140), .val (.int v141), .val (.ref a142), .val (.ref a143), .val (.int (((0 : Int32) + v139) + v140)), .val (.int (0 : Int32))] [])) (fun t k => XS.icmpNo X162.here hx rfl (hb hby at_152) rfl (XT.ii_ne_f (own_big (by decide) (by decide) (Sm.mono sm159 (by decide)) sl137 c161)) k) ?_
          refine Gl.st (g' := (mkF m 156 #[.val (.int p1), .val (.int p2), .val (.int p3), .val (.int v137), .val (.int v138), .val (.int v139), .val (.int v140), .val (.int v141), .val (.ref a142), .val (.ref a143), .val (.int (((0 : Int32) + v139) + v140)), .val (.int (0 : Int32))] [(.int (1 : Int32))])) (fun t k => XT.iconstV X162.here hx rfl (1 : Int32) (hb hby at_155) rfl k) ?_
          refine Gl.st (g' := (mkF m 160 #[.val (.int p1), .val (.int p2), .val (.int p3), .val (.int v137), .val (.int v138), .val (.int v139), .val (.int v140), .val (.int v141), .val (.ref a142), .val (.ref a143), .val (.int (((0 : Int32) + v139) + v140)), .val (.int (0 : Int32))] [(.int (1 : Int32))])) (fun t k => XS.goto X162.here hx rfl (pc0 := 156) (pc' := 160) rfl (hb hby at_156) (by decide) (by decide) k) ?_
          refine Gl.retZ X162 hx hlk .boolean (by simp) Bd.returns (hb hby at_160) e162 (by decide) (by decide) ?_
          rw [Q0, own_z1]
          exact ⟨rfl, N162⟩
        · skip
          refine Gl.st (g' := (mkF m 137 #[.val (.int p1), .val (.int p2), .val (.int p3), .val (.int v137), .val (.int v138), .val (.int v139), .val (.int v140), .val (.int v141), .val (.ref a142), .val (.ref a143), .val (.int (((0 : Int32) + v139) + v140)), .unset] [])) (fun t k => XS.ifNo X159.here hx rfl (hb hby at_134) rfl (XT.ll_gt_f c161) k) ?_
          refine Gl.st (g' := (mkF m 138 #[.val (.int p1), .val (.int p2), .val (.int p3), .val (.int v137), .val (.int v138), .val (.int v139), .val (.int v140), .val (.int v141), .val (.ref a142), .val (.ref a143), .val (.int (((0 : Int32) + v139) + v140)), .unset] [(.int (1 : Int32))])) (fun t k => XT.iconstV X159.here hx rfl (1 : Int32) (hb hby at_137) rfl k) ?_
          refine Gl.st (g' := (mkF m 142 #[.val (.int p1), .val (.int p2), .val (.int p3), .val (.int v137), .val (.int v138), .val (.int v139), .val (.int v140), .val (.int v141), .val (.ref a142), .val (.ref a143), .val (.int (((0 : Int32) + v139) + v140)), .unset] [(.int (1 : Int32))])) (fun t k => XS.goto X159.here hx rfl (pc0 := 138) (pc' := 142) rfl (hb hby at_138) (by decide) (by decide) k) ?_
          refine Gl.st (g' := (mkF m 144 #[.val (.int p1), .val (.int p2), .val (.int p3), .val (.int v137), .val (.int v138), .val (.int v139), .val (.int v140), .val (.int v141), .val (.ref a142), .val (.ref a143), .val (.int (((0 : Int32) + v139) + v140)), .val (.int (1 : Int32))] [])) (fun t k => XS.istore X159.here hx rfl (hb hby at_142) rfl (l' := #[.val (.int p1), .val (.int p2), .val (.int p3), .val (.int v137), .val (.int v138), .val (.int v139), .val (.int v140), .val (.int v141), .val (.ref a142), .val (.ref a143), .val (.int (((0 : Int32) + v139) + v140)), .val (.int (1 : Int32))]) rfl k) ?_
          refine Gl.st (g' := (mkF m 146 #[.val (.int p1), .val (.int p2), .val (.int p3), .val (.int v137), .val (.int v138), .val (.int v139), .val (.int v140), .val (.int v141), .val (.ref a142), .val (.ref a143), .val (.int (((0 : Int32) + v139) + v140)), .val (.int (1 : Int32))] [(.ref a143)])) (fun t k => XS.aload X159.here hx rfl (hb hby at_144) rfl rfl k) ?_
          refine Gl.st (g' := (mkF m 147 #[.val (.int p1), .val (.int p2), .val (.int p3), .val (.int v137), .val (.int v138), .val (.int v139), .val (.int v140), .val (.int v141), .val (.ref a142), .val (.ref a143), .val (.int (((0 : Int32) + v139) + v140)), .val (.int (1 : Int32))] [(.int v137), (.ref a143)])) (fun t k => XS.iloadN X159.here hx rfl (hb hby at_146) rfl k) ?_
          obtain ⟨cq163, kq163, qa163, qb163, qc163⟩ := isOf hZ e159 H159.exa
          obtain ⟨_, _, ⟨T163, L163, k163, n163⟩, -, X163, ⟨Lc163, hQ163, l163, y163, z163⟩, st163⟩ := X159.virtualBack hx (y := (⟨"com/example/bristlecone/bristlecone/HashBatch", "fits", "(I)Z"⟩ : MethodName)) (z := (⟨"com/example/bristlecone/bristlecone/HashBatch", "fits", "(I)Z"⟩ : MethodName)) hown (mvT hZ (hw _ (List.mem_of_getElem? (i := 40) rfl))) (mvT hZ (hw _ (List.mem_of_getElem? (i := 26) rfl))) (notFace_of_selects (args := #[]) (mvT hZ (hw _ (List.mem_of_getElem? (i := 28) rfl)))) (mvT hZ (hw _ (List.mem_of_getElem? (i := 28) rfl))) (mvT hZ (hw _ (List.mem_of_getElem? (i := 27) rfl))) (by decide) (backOf (W := 0) (rm2 l Z a0 hw a143 v137 a142 cA142 (16 : Int32) (((0 : Int32) + (1 : Int32)) + (1 : Int32)) (((0 : Int32) + v139) + v140) T159.heap n0 H159.1 H159) hZ (hw _ (List.mem_of_getElem? (i := 29) rfl)) (hw _ (List.mem_of_getElem? (i := 3) rfl)) (by decide) (by decide)) qa163 qc163 (g := (mkF m 147 #[.val (.int p1), .val (.int p2), .val (.int p3), .val (.int v137), .val (.int v138), .val (.int v139), .val (.int v140), .val (.int v141), .val (.ref a142), .val (.ref a143), .val (.int (((0 : Int32) + v139) + v140)), .val (.int (1 : Int32))] [(.int v137), (.ref a143)])) rfl (by rw [hml]; rfl) (Steps.refl _) (argsL := [(.int v137)]) (rest := []) (lenOf pd_0 rfl) rfl (by show 2 * 0 + _ ≤ _; exact Nat.le_of_eq rfl) (hb hby at_147) (fun _ _ => ⟨rfl, e159, (by decide : 0 + 1 + 1 + 4 + 0 + 0 + 0 ≤ _), (by decide : 0 + 16 + 8 + 81984 + 0 + 0 + 0 ≤ _)⟩)
          dsimp only [Pt.U, Pt.locs, Pt.cells, Pt.slots] at X163 l163 y163 z163 st163 hQ163
          subst l163 y163 z163
          obtain ⟨rfl, Nq163, e163⟩ := hQ163
          have N163 := Fr.app N159 Nq163
          refine Gl.st (g' := (mkF m 150 #[.val (.int p1), .val (.int p2), .val (.int p3), .val (.int v137), .val (.int v138), .val (.int v139), .val (.int v140), .val (.int v141), .val (.ref a142), .val (.ref a143), .val (.int (((0 : Int32) + v139) + v140)), .val (.int (1 : Int32))] [(.int (own_fits (((0 : Int32) + (1 : Int32)) + (1 : Int32)) (((0 : Int32) + v139) + v140) v137))])) (fun t k => st163.trans k) ?_
          refine Gl.st (g' := (mkF m 152 #[.val (.int p1), .val (.int p2), .val (.int p3), .val (.int v137), .val (.int v138), .val (.int v139), .val (.int v140), .val (.int v141), .val (.ref a142), .val (.ref a143), .val (.int (((0 : Int32) + v139) + v140)), .val (.int (1 : Int32))] [(.int (1 : Int32)), (.int (own_fits (((0 : Int32) + (1 : Int32)) + (1 : Int32)) (((0 : Int32) + v139) + v140) v137))])) (fun t k => XS.iload X163.here hx rfl (hb hby at_150) rfl k) ?_
          refine Gl.st (g' := (mkF m 155 #[.val (.int p1), .val (.int p2), .val (.int p3), .val (.int v137), .val (.int v138), .val (.int v139), .val (.int v140), .val (.int v141), .val (.ref a142), .val (.ref a143), .val (.int (((0 : Int32) + v139) + v140)), .val (.int (1 : Int32))] [])) (fun t k => XS.icmpNo X163.here hx rfl (hb hby at_152) rfl (XT.ii_ne_f (own_small (by decide) (by decide) (Sm.mono sm159 (by decide)) sl137 c161)) k) ?_
          refine Gl.st (g' := (mkF m 156 #[.val (.int p1), .val (.int p2), .val (.int p3), .val (.int v137), .val (.int v138), .val (.int v139), .val (.int v140), .val (.int v141), .val (.ref a142), .val (.ref a143), .val (.int (((0 : Int32) + v139) + v140)), .val (.int (1 : Int32))] [(.int (1 : Int32))])) (fun t k => XT.iconstV X163.here hx rfl (1 : Int32) (hb hby at_155) rfl k) ?_
          refine Gl.st (g' := (mkF m 160 #[.val (.int p1), .val (.int p2), .val (.int p3), .val (.int v137), .val (.int v138), .val (.int v139), .val (.int v140), .val (.int v141), .val (.ref a142), .val (.ref a143), .val (.int (((0 : Int32) + v139) + v140)), .val (.int (1 : Int32))] [(.int (1 : Int32))])) (fun t k => XS.goto X163.here hx rfl (pc0 := 156) (pc' := 160) rfl (hb hby at_156) (by decide) (by decide) k) ?_
          refine Gl.retZ X163 hx hlk .boolean (by simp) Bd.returns (hb hby at_160) e163 (by decide) (by decide) ?_
          rw [Q0, own_z1]
          exact ⟨rfl, N163⟩
      · skip
        refine Gl.st (g' := (mkF m 102 #[.val (.int p1), .val (.int p2), .val (.int p3), .val (.int v137), .val (.int v138), .val (.int v139), .val (.int v140), .val (.int v141), .val (.ref a142), .val (.ref a143), .val (.int (((0 : Int32) + v139) + v140)), .unset] [])) (fun t k => XS.icmpNo X159.here hx rfl (hb hby at_99) rfl (XT.ii_lt_f c160) k) ?_
        refine Gl.st (g' := (mkF m 104 #[.val (.int p1), .val (.int p2), .val (.int p3), .val (.int v137), .val (.int v138), .val (.int v139), .val (.int v140), .val (.int v141), .val (.ref a142), .val (.ref a143), .val (.int (((0 : Int32) + v139) + v140)), .unset] [(.ref a143)])) (fun t k => XS.aload X159.here hx rfl (hb hby at_102) rfl rfl k) ?_
        refine Gl.st (g' := (mkF m 106 #[.val (.int p1), .val (.int p2), .val (.int p3), .val (.int v137), .val (.int v138), .val (.int v139), .val (.int v140), .val (.int v141), .val (.ref a142), .val (.ref a143), .val (.int (((0 : Int32) + v139) + v140)), .unset] [(.ref a142), (.ref a143)])) (fun t k => XS.aload X159.here hx rfl (hb hby at_104) rfl rfl k) ?_
        refine Gl.st (g' := (mkF m 107 #[.val (.int p1), .val (.int p2), .val (.int p3), .val (.int v137), .val (.int v138), .val (.int v139), .val (.int v140), .val (.int v141), .val (.ref a142), .val (.ref a143), .val (.int (((0 : Int32) + v139) + v140)), .unset] [(.int (0 : Int32)), (.ref a142), (.ref a143)])) (fun t k => XT.iconstV X159.here hx rfl (0 : Int32) (hb hby at_106) rfl k) ?_
        refine Gl.st (g' := (mkF m 109 #[.val (.int p1), .val (.int p2), .val (.int p3), .val (.int v137), .val (.int v138), .val (.int v139), .val (.int v140), .val (.int v141), .val (.ref a142), .val (.ref a143), .val (.int (((0 : Int32) + v139) + v140)), .unset] [(.int v141), (.int (0 : Int32)), (.ref a142), (.ref a143)])) (fun t k => XS.iload X159.here hx rfl (hb hby at_107) rfl k) ?_
        obtain ⟨cq164, kq164, qa164, qb164, qc164⟩ := isOf hZ e159 H159.exa
        obtain ⟨_, _, ⟨T164, L164, k164, n164⟩, -, X164, ⟨Lc164, hQ164, l164, y164, z164⟩, st164⟩ := X159.virtualBack hx (y := (⟨"com/example/bristlecone/bristlecone/HashBatch", "add", "([BII)V"⟩ : MethodName)) (z := (⟨"com/example/bristlecone/bristlecone/HashBatch", "add", "([BII)V"⟩ : MethodName)) hown (mvT hZ (hw _ (List.mem_of_getElem? (i := 20) rfl))) (mvT hZ (hw _ (List.mem_of_getElem? (i := 21) rfl))) (notFace_of_selects (args := #[]) (mvT hZ (hw _ (List.mem_of_getElem? (i := 23) rfl)))) (mvT hZ (hw _ (List.mem_of_getElem? (i := 23) rfl))) (mvT hZ (hw _ (List.mem_of_getElem? (i := 22) rfl))) (by decide) (backOf (W := 0) (rm3 l Z a0 hw a143 a142 (0 : Int32) v141 cA142 (16 : Int32) (((0 : Int32) + (1 : Int32)) + (1 : Int32)) (((0 : Int32) + v139) + v140) T159.heap n0 H159.1 H159 rfl (Sm.mono sl141 (by decide)) ⟨by decide, by decide⟩ (Sm.mono sm159 (by decide)) (own_le16 sl141)) hZ (hw _ (List.mem_of_getElem? (i := 24) rfl)) (hw _ (List.mem_of_getElem? (i := 3) rfl)) (by decide) (by decide)) qa164 qc164 (g := (mkF m 109 #[.val (.int p1), .val (.int p2), .val (.int p3), .val (.int v137), .val (.int v138), .val (.int v139), .val (.int v140), .val (.int v141), .val (.ref a142), .val (.ref a143), .val (.int (((0 : Int32) + v139) + v140)), .unset] [(.int v141), (.int (0 : Int32)), (.ref a142), (.ref a143)])) rfl (by rw [hml]; rfl) (Steps.refl _) (argsL := [(.ref a142), (.int (0 : Int32)), (.int v141)]) (rest := []) (lenOf pd_2 rfl) rfl (by show 2 * 0 + _ ≤ _; exact Nat.le_of_eq rfl) (hb hby at_109) (fun _ _ => ⟨rfl, e159, (by decide : 0 + 1 + 1 + 4 + 0 + 0 + 0 ≤ _), (by decide : 0 + 16 + 8 + 81984 + 0 + 0 + 0 ≤ _)⟩)
        dsimp only [Pt.U, Pt.locs, Pt.cells, Pt.slots] at X164 l164 y164 z164 st164 hQ164
        subst l164 y164 z164
        obtain ⟨rfl, Nq164, H164⟩ := hQ164
        have N164 := Fr.app N159 Nq164
        have e164 : T164.heap = T164.heap := rfl
        have sm164 : Sm 45 ((((0 : Int32) + v139) + v140) + v141) := Sm.add sm159 sl141 (by decide)
        refine Gl.st (g' := (mkF m 112 #[.val (.int p1), .val (.int p2), .val (.int p3), .val (.int v137), .val (.int v138), .val (.int v139), .val (.int v140), .val (.int v141), .val (.ref a142), .val (.ref a143), .val (.int (((0 : Int32) + v139) + v140)), .unset] [])) (fun t k => st164.trans k) ?_
        refine Gl.st (g' := (mkF m 114 #[.val (.int p1), .val (.int p2), .val (.int p3), .val (.int v137), .val (.int v138), .val (.int v139), .val (.int v140), .val (.int v141), .val (.ref a142), .val (.ref a143), .val (.int (((0 : Int32) + v139) + v140)), .unset] [(.int (((0 : Int32) + v139) + v140))])) (fun t k => XS.iload X164.here hx rfl (hb hby at_112) rfl k) ?_
        refine Gl.st (g' := (mkF m 116 #[.val (.int p1), .val (.int p2), .val (.int p3), .val (.int v137), .val (.int v138), .val (.int v139), .val (.int v140), .val (.int v141), .val (.ref a142), .val (.ref a143), .val (.int (((0 : Int32) + v139) + v140)), .unset] [(.int v141), (.int (((0 : Int32) + v139) + v140))])) (fun t k => XS.iload X164.here hx rfl (hb hby at_114) rfl k) ?_
        refine Gl.st (g' := (mkF m 117 #[.val (.int p1), .val (.int p2), .val (.int p3), .val (.int v137), .val (.int v138), .val (.int v139), .val (.int v140), .val (.int v141), .val (.ref a142), .val (.ref a143), .val (.int (((0 : Int32) + v139) + v140)), .unset] [(.int ((((0 : Int32) + v139) + v140) + v141))])) (fun t k => XS.iadd X164.here hx rfl (hb hby at_116) rfl k) ?_
        refine Gl.st (g' := (mkF m 119 #[.val (.int p1), .val (.int p2), .val (.int p3), .val (.int v137), .val (.int v138), .val (.int v139), .val (.int v140), .val (.int v141), .val (.ref a142), .val (.ref a143), .val (.int ((((0 : Int32) + v139) + v140) + v141)), .unset] [])) (fun t k => XS.istore X164.here hx rfl (hb hby at_117) rfl (l' := #[.val (.int p1), .val (.int p2), .val (.int p3), .val (.int v137), .val (.int v138), .val (.int v139), .val (.int v140), .val (.int v141), .val (.ref a142), .val (.ref a143), .val (.int ((((0 : Int32) + v139) + v140) + v141)), .unset]) rfl k) ?_
        refine Gl.st (g' := (mkF m 121 #[.val (.int p1), .val (.int p2), .val (.int p3), .val (.int v137), .val (.int v138), .val (.int v139), .val (.int v140), .val (.int v141), .val (.ref a142), .val (.ref a143), .val (.int ((((0 : Int32) + v139) + v140) + v141)), .unset] [(.int v138)])) (fun t k => XS.iload X164.here hx rfl (hb hby at_119) rfl k) ?_
        refine Gl.st (g' := (mkF m 124 #[.val (.int p1), .val (.int p2), .val (.int p3), .val (.int v137), .val (.int v138), .val (.int v139), .val (.int v140), .val (.int v141), .val (.ref a142), .val (.ref a143), .val (.int ((((0 : Int32) + v139) + v140) + v141)), .unset] [])) (fun t k => XS.ifNo X164.here hx rfl (hb hby at_121) rfl (XT.i0_eq_f (fun q => c152 (by rw [q]; decide))) k) ?_
        refine Gl.st (g' := (mkF m 126 #[.val (.int p1), .val (.int p2), .val (.int p3), .val (.int v137), .val (.int v138), .val (.int v139), .val (.int v140), .val (.int v141), .val (.ref a142), .val (.ref a143), .val (.int ((((0 : Int32) + v139) + v140) + v141)), .unset] [(.int ((((0 : Int32) + v139) + v140) + v141))])) (fun t k => XS.iload X164.here hx rfl (hb hby at_124) rfl k) ?_
        refine Gl.st (g' := (mkF m 127 #[.val (.int p1), .val (.int p2), .val (.int p3), .val (.int v137), .val (.int v138), .val (.int v139), .val (.int v140), .val (.int v141), .val (.ref a142), .val (.ref a143), .val (.int ((((0 : Int32) + v139) + v140) + v141)), .unset] [(.long (((((0 : Int32) + v139) + v140) + v141).toInt64))])) (fun t k => XS.i2l X164.here hx rfl (hb hby at_126) rfl k) ?_
        refine Gl.st (g' := (mkF m 128 #[.val (.int p1), .val (.int p2), .val (.int p3), .val (.int v137), .val (.int v138), .val (.int v139), .val (.int v140), .val (.int v141), .val (.ref a142), .val (.ref a143), .val (.int ((((0 : Int32) + v139) + v140) + v141)), .unset] [(.int v137), (.long (((((0 : Int32) + v139) + v140) + v141).toInt64))])) (fun t k => XS.iloadN X164.here hx rfl (hb hby at_127) rfl k) ?_
        refine Gl.st (g' := (mkF m 129 #[.val (.int p1), .val (.int p2), .val (.int p3), .val (.int v137), .val (.int v138), .val (.int v139), .val (.int v140), .val (.int v141), .val (.ref a142), .val (.ref a143), .val (.int ((((0 : Int32) + v139) + v140) + v141)), .unset] [(.long (v137.toInt64)), (.long (((((0 : Int32) + v139) + v140) + v141).toInt64))])) (fun t k => XS.i2l X164.here hx rfl (hb hby at_128) rfl k) ?_
        refine Gl.st (g' := (mkF m 130 #[.val (.int p1), .val (.int p2), .val (.int p3), .val (.int v137), .val (.int v138), .val (.int v139), .val (.int v140), .val (.int v141), .val (.ref a142), .val (.ref a143), .val (.int ((((0 : Int32) + v139) + v140) + v141)), .unset] [(.long ((((((0 : Int32) + v139) + v140) + v141).toInt64) + (v137.toInt64)))])) (fun t k => XS.ladd X164.here hx rfl (hb hby at_129) rfl k) ?_
        refine Gl.st (g' := (mkF m 133 #[.val (.int p1), .val (.int p2), .val (.int p3), .val (.int v137), .val (.int v138), .val (.int v139), .val (.int v140), .val (.int v141), .val (.ref a142), .val (.ref a143), .val (.int ((((0 : Int32) + v139) + v140) + v141)), .unset] [(.long (1048576 : Int64)), (.long ((((((0 : Int32) + v139) + v140) + v141).toInt64) + (v137.toInt64)))])) (fun t k => X164.ldc2J hx hown (mvT hZ (hw _ (List.mem_of_getElem? (i := 39) rfl))) rfl (hb hby at_130) k) ?_
        refine Gl.st (g' := (mkF m 134 #[.val (.int p1), .val (.int p2), .val (.int p3), .val (.int v137), .val (.int v138), .val (.int v139), .val (.int v140), .val (.int v141), .val (.ref a142), .val (.ref a143), .val (.int ((((0 : Int32) + v139) + v140) + v141)), .unset] [(.int (XT.cmpL ((((((0 : Int32) + v139) + v140) + v141).toInt64) + (v137.toInt64)) (1048576 : Int64)))])) (fun t k => XT.lcmp X164.here hx rfl (hb hby at_133) rfl k) ?_
        by_cases c165 : (1048576 : Int64) < ((((((0 : Int32) + v139) + v140) + v141).toInt64) + (v137.toInt64))
        · skip
          refine Gl.st (g' := (mkF m 141 #[.val (.int p1), .val (.int p2), .val (.int p3), .val (.int v137), .val (.int v138), .val (.int v139), .val (.int v140), .val (.int v141), .val (.ref a142), .val (.ref a143), .val (.int ((((0 : Int32) + v139) + v140) + v141)), .unset] [])) (fun t k => XS.ifYes X164.here hx rfl (pc0 := 134) (pc' := 141) rfl (hb hby at_134) rfl (XT.ll_gt_t c165) (by decide) (by decide) k) ?_
          refine Gl.st (g' := (mkF m 142 #[.val (.int p1), .val (.int p2), .val (.int p3), .val (.int v137), .val (.int v138), .val (.int v139), .val (.int v140), .val (.int v141), .val (.ref a142), .val (.ref a143), .val (.int ((((0 : Int32) + v139) + v140) + v141)), .unset] [(.int (0 : Int32))])) (fun t k => XT.iconstV X164.here hx rfl (0 : Int32) (hb hby at_141) rfl k) ?_
          refine Gl.st (g' := (mkF m 144 #[.val (.int p1), .val (.int p2), .val (.int p3), .val (.int v137), .val (.int v138), .val (.int v139), .val (.int v140), .val (.int v141), .val (.ref a142), .val (.ref a143), .val (.int ((((0 : Int32) + v139) + v140) + v141)), .val (.int (0 : Int32))] [])) (fun t k => XS.istore X164.here hx rfl (hb hby at_142) rfl (l' := #[.val (.int p1), .val (.int p2), .val (.int p3), .val (.int v137), .val (.int v138), .val (.int v139), .val (.int v140), .val (.int v141), .val (.ref a142), .val (.ref a143), .val (.int ((((0 : Int32) + v139) + v140) + v141)), .val (.int (0 : Int32))]) rfl k) ?_
          refine Gl.st (g' := (mkF m 146 #[.val (.int p1), .val (.int p2), .val (.int p3), .val (.int v137), .val (.int v138), .val (.int v139), .val (.int v140), .val (.int v141), .val (.ref a142), .val (.ref a143), .val (.int ((((0 : Int32) + v139) + v140) + v141)), .val (.int (0 : Int32))] [(.ref a143)])) (fun t k => XS.aload X164.here hx rfl (hb hby at_144) rfl rfl k) ?_
          refine Gl.st (g' := (mkF m 147 #[.val (.int p1), .val (.int p2), .val (.int p3), .val (.int v137), .val (.int v138), .val (.int v139), .val (.int v140), .val (.int v141), .val (.ref a142), .val (.ref a143), .val (.int ((((0 : Int32) + v139) + v140) + v141)), .val (.int (0 : Int32))] [(.int v137), (.ref a143)])) (fun t k => XS.iloadN X164.here hx rfl (hb hby at_146) rfl k) ?_
          obtain ⟨cq166, kq166, qa166, qb166, qc166⟩ := isOf hZ e164 H164.exa
          obtain ⟨_, _, ⟨T166, L166, k166, n166⟩, -, X166, ⟨Lc166, hQ166, l166, y166, z166⟩, st166⟩ := X164.virtualBack hx (y := (⟨"com/example/bristlecone/bristlecone/HashBatch", "fits", "(I)Z"⟩ : MethodName)) (z := (⟨"com/example/bristlecone/bristlecone/HashBatch", "fits", "(I)Z"⟩ : MethodName)) hown (mvT hZ (hw _ (List.mem_of_getElem? (i := 40) rfl))) (mvT hZ (hw _ (List.mem_of_getElem? (i := 26) rfl))) (notFace_of_selects (args := #[]) (mvT hZ (hw _ (List.mem_of_getElem? (i := 28) rfl)))) (mvT hZ (hw _ (List.mem_of_getElem? (i := 28) rfl))) (mvT hZ (hw _ (List.mem_of_getElem? (i := 27) rfl))) (by decide) (backOf (W := 0) (rm2 l Z a0 hw a143 v137 a142 cA142 (16 : Int32) ((((0 : Int32) + (1 : Int32)) + (1 : Int32)) + (1 : Int32)) ((((0 : Int32) + v139) + v140) + v141) T164.heap n0 H164.1 H164) hZ (hw _ (List.mem_of_getElem? (i := 29) rfl)) (hw _ (List.mem_of_getElem? (i := 3) rfl)) (by decide) (by decide)) qa166 qc166 (g := (mkF m 147 #[.val (.int p1), .val (.int p2), .val (.int p3), .val (.int v137), .val (.int v138), .val (.int v139), .val (.int v140), .val (.int v141), .val (.ref a142), .val (.ref a143), .val (.int ((((0 : Int32) + v139) + v140) + v141)), .val (.int (0 : Int32))] [(.int v137), (.ref a143)])) rfl (by rw [hml]; rfl) (Steps.refl _) (argsL := [(.int v137)]) (rest := []) (lenOf pd_0 rfl) rfl (by show 2 * 0 + _ ≤ _; exact Nat.le_of_eq rfl) (hb hby at_147) (fun _ _ => ⟨rfl, e164, (by decide : 0 + 1 + 1 + 4 + 0 + 0 + 0 + 0 ≤ _), (by decide : 0 + 16 + 8 + 81984 + 0 + 0 + 0 + 0 ≤ _)⟩)
          dsimp only [Pt.U, Pt.locs, Pt.cells, Pt.slots] at X166 l166 y166 z166 st166 hQ166
          subst l166 y166 z166
          obtain ⟨rfl, Nq166, e166⟩ := hQ166
          have N166 := Fr.app N164 Nq166
          refine Gl.st (g' := (mkF m 150 #[.val (.int p1), .val (.int p2), .val (.int p3), .val (.int v137), .val (.int v138), .val (.int v139), .val (.int v140), .val (.int v141), .val (.ref a142), .val (.ref a143), .val (.int ((((0 : Int32) + v139) + v140) + v141)), .val (.int (0 : Int32))] [(.int (own_fits ((((0 : Int32) + (1 : Int32)) + (1 : Int32)) + (1 : Int32)) ((((0 : Int32) + v139) + v140) + v141) v137))])) (fun t k => st166.trans k) ?_
          refine Gl.st (g' := (mkF m 152 #[.val (.int p1), .val (.int p2), .val (.int p3), .val (.int v137), .val (.int v138), .val (.int v139), .val (.int v140), .val (.int v141), .val (.ref a142), .val (.ref a143), .val (.int ((((0 : Int32) + v139) + v140) + v141)), .val (.int (0 : Int32))] [(.int (0 : Int32)), (.int (own_fits ((((0 : Int32) + (1 : Int32)) + (1 : Int32)) + (1 : Int32)) ((((0 : Int32) + v139) + v140) + v141) v137))])) (fun t k => XS.iload X166.here hx rfl (hb hby at_150) rfl k) ?_
          refine Gl.st (g' := (mkF m 155 #[.val (.int p1), .val (.int p2), .val (.int p3), .val (.int v137), .val (.int v138), .val (.int v139), .val (.int v140), .val (.int v141), .val (.ref a142), .val (.ref a143), .val (.int ((((0 : Int32) + v139) + v140) + v141)), .val (.int (0 : Int32))] [])) (fun t k => XS.icmpNo X166.here hx rfl (hb hby at_152) rfl (XT.ii_ne_f (own_big (by decide) (by decide) (Sm.mono sm164 (by decide)) sl137 c165)) k) ?_
          refine Gl.st (g' := (mkF m 156 #[.val (.int p1), .val (.int p2), .val (.int p3), .val (.int v137), .val (.int v138), .val (.int v139), .val (.int v140), .val (.int v141), .val (.ref a142), .val (.ref a143), .val (.int ((((0 : Int32) + v139) + v140) + v141)), .val (.int (0 : Int32))] [(.int (1 : Int32))])) (fun t k => XT.iconstV X166.here hx rfl (1 : Int32) (hb hby at_155) rfl k) ?_
          refine Gl.st (g' := (mkF m 160 #[.val (.int p1), .val (.int p2), .val (.int p3), .val (.int v137), .val (.int v138), .val (.int v139), .val (.int v140), .val (.int v141), .val (.ref a142), .val (.ref a143), .val (.int ((((0 : Int32) + v139) + v140) + v141)), .val (.int (0 : Int32))] [(.int (1 : Int32))])) (fun t k => XS.goto X166.here hx rfl (pc0 := 156) (pc' := 160) rfl (hb hby at_156) (by decide) (by decide) k) ?_
          refine Gl.retZ X166 hx hlk .boolean (by simp) Bd.returns (hb hby at_160) e166 (by decide) (by decide) ?_
          rw [Q0, own_z1]
          exact ⟨rfl, N166⟩
        · skip
          refine Gl.st (g' := (mkF m 137 #[.val (.int p1), .val (.int p2), .val (.int p3), .val (.int v137), .val (.int v138), .val (.int v139), .val (.int v140), .val (.int v141), .val (.ref a142), .val (.ref a143), .val (.int ((((0 : Int32) + v139) + v140) + v141)), .unset] [])) (fun t k => XS.ifNo X164.here hx rfl (hb hby at_134) rfl (XT.ll_gt_f c165) k) ?_
          refine Gl.st (g' := (mkF m 138 #[.val (.int p1), .val (.int p2), .val (.int p3), .val (.int v137), .val (.int v138), .val (.int v139), .val (.int v140), .val (.int v141), .val (.ref a142), .val (.ref a143), .val (.int ((((0 : Int32) + v139) + v140) + v141)), .unset] [(.int (1 : Int32))])) (fun t k => XT.iconstV X164.here hx rfl (1 : Int32) (hb hby at_137) rfl k) ?_
          refine Gl.st (g' := (mkF m 142 #[.val (.int p1), .val (.int p2), .val (.int p3), .val (.int v137), .val (.int v138), .val (.int v139), .val (.int v140), .val (.int v141), .val (.ref a142), .val (.ref a143), .val (.int ((((0 : Int32) + v139) + v140) + v141)), .unset] [(.int (1 : Int32))])) (fun t k => XS.goto X164.here hx rfl (pc0 := 138) (pc' := 142) rfl (hb hby at_138) (by decide) (by decide) k) ?_
          refine Gl.st (g' := (mkF m 144 #[.val (.int p1), .val (.int p2), .val (.int p3), .val (.int v137), .val (.int v138), .val (.int v139), .val (.int v140), .val (.int v141), .val (.ref a142), .val (.ref a143), .val (.int ((((0 : Int32) + v139) + v140) + v141)), .val (.int (1 : Int32))] [])) (fun t k => XS.istore X164.here hx rfl (hb hby at_142) rfl (l' := #[.val (.int p1), .val (.int p2), .val (.int p3), .val (.int v137), .val (.int v138), .val (.int v139), .val (.int v140), .val (.int v141), .val (.ref a142), .val (.ref a143), .val (.int ((((0 : Int32) + v139) + v140) + v141)), .val (.int (1 : Int32))]) rfl k) ?_
          refine Gl.st (g' := (mkF m 146 #[.val (.int p1), .val (.int p2), .val (.int p3), .val (.int v137), .val (.int v138), .val (.int v139), .val (.int v140), .val (.int v141), .val (.ref a142), .val (.ref a143), .val (.int ((((0 : Int32) + v139) + v140) + v141)), .val (.int (1 : Int32))] [(.ref a143)])) (fun t k => XS.aload X164.here hx rfl (hb hby at_144) rfl rfl k) ?_
          refine Gl.st (g' := (mkF m 147 #[.val (.int p1), .val (.int p2), .val (.int p3), .val (.int v137), .val (.int v138), .val (.int v139), .val (.int v140), .val (.int v141), .val (.ref a142), .val (.ref a143), .val (.int ((((0 : Int32) + v139) + v140) + v141)), .val (.int (1 : Int32))] [(.int v137), (.ref a143)])) (fun t k => XS.iloadN X164.here hx rfl (hb hby at_146) rfl k) ?_
          obtain ⟨cq167, kq167, qa167, qb167, qc167⟩ := isOf hZ e164 H164.exa
          obtain ⟨_, _, ⟨T167, L167, k167, n167⟩, -, X167, ⟨Lc167, hQ167, l167, y167, z167⟩, st167⟩ := X164.virtualBack hx (y := (⟨"com/example/bristlecone/bristlecone/HashBatch", "fits", "(I)Z"⟩ : MethodName)) (z := (⟨"com/example/bristlecone/bristlecone/HashBatch", "fits", "(I)Z"⟩ : MethodName)) hown (mvT hZ (hw _ (List.mem_of_getElem? (i := 40) rfl))) (mvT hZ (hw _ (List.mem_of_getElem? (i := 26) rfl))) (notFace_of_selects (args := #[]) (mvT hZ (hw _ (List.mem_of_getElem? (i := 28) rfl)))) (mvT hZ (hw _ (List.mem_of_getElem? (i := 28) rfl))) (mvT hZ (hw _ (List.mem_of_getElem? (i := 27) rfl))) (by decide) (backOf (W := 0) (rm2 l Z a0 hw a143 v137 a142 cA142 (16 : Int32) ((((0 : Int32) + (1 : Int32)) + (1 : Int32)) + (1 : Int32)) ((((0 : Int32) + v139) + v140) + v141) T164.heap n0 H164.1 H164) hZ (hw _ (List.mem_of_getElem? (i := 29) rfl)) (hw _ (List.mem_of_getElem? (i := 3) rfl)) (by decide) (by decide)) qa167 qc167 (g := (mkF m 147 #[.val (.int p1), .val (.int p2), .val (.int p3), .val (.int v137), .val (.int v138), .val (.int v139), .val (.int v140), .val (.int v141), .val (.ref a142), .val (.ref a143), .val (.int ((((0 : Int32) + v139) + v140) + v141)), .val (.int (1 : Int32))] [(.int v137), (.ref a143)])) rfl (by rw [hml]; rfl) (Steps.refl _) (argsL := [(.int v137)]) (rest := []) (lenOf pd_0 rfl) rfl (by show 2 * 0 + _ ≤ _; exact Nat.le_of_eq rfl) (hb hby at_147) (fun _ _ => ⟨rfl, e164, (by decide : 0 + 1 + 1 + 4 + 0 + 0 + 0 + 0 ≤ _), (by decide : 0 + 16 + 8 + 81984 + 0 + 0 + 0 + 0 ≤ _)⟩)
          dsimp only [Pt.U, Pt.locs, Pt.cells, Pt.slots] at X167 l167 y167 z167 st167 hQ167
          subst l167 y167 z167
          obtain ⟨rfl, Nq167, e167⟩ := hQ167
          have N167 := Fr.app N164 Nq167
          refine Gl.st (g' := (mkF m 150 #[.val (.int p1), .val (.int p2), .val (.int p3), .val (.int v137), .val (.int v138), .val (.int v139), .val (.int v140), .val (.int v141), .val (.ref a142), .val (.ref a143), .val (.int ((((0 : Int32) + v139) + v140) + v141)), .val (.int (1 : Int32))] [(.int (own_fits ((((0 : Int32) + (1 : Int32)) + (1 : Int32)) + (1 : Int32)) ((((0 : Int32) + v139) + v140) + v141) v137))])) (fun t k => st167.trans k) ?_
          refine Gl.st (g' := (mkF m 152 #[.val (.int p1), .val (.int p2), .val (.int p3), .val (.int v137), .val (.int v138), .val (.int v139), .val (.int v140), .val (.int v141), .val (.ref a142), .val (.ref a143), .val (.int ((((0 : Int32) + v139) + v140) + v141)), .val (.int (1 : Int32))] [(.int (1 : Int32)), (.int (own_fits ((((0 : Int32) + (1 : Int32)) + (1 : Int32)) + (1 : Int32)) ((((0 : Int32) + v139) + v140) + v141) v137))])) (fun t k => XS.iload X167.here hx rfl (hb hby at_150) rfl k) ?_
          refine Gl.st (g' := (mkF m 155 #[.val (.int p1), .val (.int p2), .val (.int p3), .val (.int v137), .val (.int v138), .val (.int v139), .val (.int v140), .val (.int v141), .val (.ref a142), .val (.ref a143), .val (.int ((((0 : Int32) + v139) + v140) + v141)), .val (.int (1 : Int32))] [])) (fun t k => XS.icmpNo X167.here hx rfl (hb hby at_152) rfl (XT.ii_ne_f (own_small (by decide) (by decide) (Sm.mono sm164 (by decide)) sl137 c165)) k) ?_
          refine Gl.st (g' := (mkF m 156 #[.val (.int p1), .val (.int p2), .val (.int p3), .val (.int v137), .val (.int v138), .val (.int v139), .val (.int v140), .val (.int v141), .val (.ref a142), .val (.ref a143), .val (.int ((((0 : Int32) + v139) + v140) + v141)), .val (.int (1 : Int32))] [(.int (1 : Int32))])) (fun t k => XT.iconstV X167.here hx rfl (1 : Int32) (hb hby at_155) rfl k) ?_
          refine Gl.st (g' := (mkF m 160 #[.val (.int p1), .val (.int p2), .val (.int p3), .val (.int v137), .val (.int v138), .val (.int v139), .val (.int v140), .val (.int v141), .val (.ref a142), .val (.ref a143), .val (.int ((((0 : Int32) + v139) + v140) + v141)), .val (.int (1 : Int32))] [(.int (1 : Int32))])) (fun t k => XS.goto X167.here hx rfl (pc0 := 156) (pc' := 160) rfl (hb hby at_156) (by decide) (by decide) k) ?_
          refine Gl.retZ X167 hx hlk .boolean (by simp) Bd.returns (hb hby at_160) e167 (by decide) (by decide) ?_
          rw [Q0, own_z1]
          exact ⟨rfl, N167⟩
set_option maxRecDepth 65536 in
set_option maxHeartbeats 40000000 in
theorem comes_1 {Post : Tables → Env → Array Value → State → Outcome → State → Prop} (hpost : ∀ tb e args s v u, (limb_1_1.after args s (.returned v) u = true ∧ limb_1_2.after args s (.returned v) u = true ∧ True) → FrameEnd s (.returned v) u (Jvm.fieldLocs frame_1_writes args s ++ Jvm.arrayLocs frame_1_arrays args s ++ Jvm.staticLocs frame_1_statics s) 24 164096 → Post tb e args s (.returned v) u) :
    ArmFor flags0 classFile x code maxLocals ret World_1 tables_1 room_1 Calls_1 rest_1 Pre_1 Post := by
  intro l hfl _ _ p e ha hc hk s m args below hf hA hF happ hP
  obtain ⟨hcalls, hrest, hpre⟩ := hP
  obtain ⟨-, -, -, hnamed, -, -, -, hat⟩ := (Spec.applies_iff hf).mp happ
  obtain ⟨hg, hn⟩ := and_e (Cond.before_iff.mp (show (Jvm.Cond.and given_1 narrow_1).before args s = true from hpre))
  obtain ⟨hcount, hk1⟩ := and_e hg
  obtain ⟨hi1, hk2⟩ := and_e hk1
  obtain ⟨hi2, hk3⟩ := and_e hk2
  obtain ⟨w0, w1, w2, rfl⟩ : ∃ w0 w1 w2 : Value, args = #[w0, w1, w2] := by
    have hs : args.size = 3 := by simpa [Cond.value, given_1] using hcount
    obtain ⟨L⟩ := args
    match L, hs with
    | [w0, w1, w2], _ => exact ⟨w0, w1, w2, rfl⟩
  have hw := fun d (hd : d ∈ tables_1) => atoms_spec (ws := Jvm.Cond.code x code maxLocals ret :: tables_1) hat d (List.mem_cons_of_mem _ hd)
  obtain ⟨i0, q0⟩ := is_v hi1
  obtain rfl : w0 = (.int i0) := Option.some.inj q0
  obtain ⟨i1, q1⟩ := is_v hi2
  obtain rfl : w1 = (.int i1) := Option.some.inj q1
  obtain ⟨i2, q2⟩ := is_v hk3
  obtain rfl : w2 = (.int i2) := Option.some.inj q2
  obtain ⟨n, o, h1, h2, h3, _, L, rfl, ⟨rfl, N⟩, hq⟩ := rm0 l s _ hw tables_1 i0 i1 i2 s.heap s.heap.size (Nat.le_refl _)  p e ha hc hk s m _ below hf ((Spec.applies_iff_loose hf).mp happ).1 ⟨rfl, State.Warmed39.refl s, rfl⟩ trivial
  refine ⟨n, _, h1, h2, h3, hpost _ _ _ _ _ _ ⟨Cond.after_iff.mpr rfl, Cond.after_iff.mpr (eq_i res_at (Term.int_eval (1)) rfl), trivial⟩ ⟨hq.1, hq.2.1, (hq.2.2.sift fun y hy => Or.inr (N y hy)).mono (by decide) (by decide)⟩⟩
theorem main_1_1 : Claimed_1_1 := comes_1 fun _ _ _ _ _ _ h hF => ⟨h.1, hF⟩
theorem main_1_2 : Claimed_1_2 := comes_1 fun _ _ _ _ _ _ h hF => ⟨h.2.1, hF⟩
end Jvm.Pilot.@@N@@
namespace Jvm.Pilot.@@N@@
open Jvm Jvm.ClassFile Sem Op Lib Jvm.Free Jvm.Stand Jvm.Pilot.@@N@@.Jvm.D
/-! MADE BY PROGRAM (witnessworld.py) out of the Statement's table words and the real class files: 10 classes; the members and pool entries that the words name. The judged class is class 1, her method 1. -/
namespace start1
open Jvm.ClassFile
def u (s : String) : CpInfo := .utf8 (stringToUtf16 s)
/-- a pool by its gaps: so many unusable entries, then the entry; so many at the end -/
def gap : Nat → List CpInfo → List CpInfo
  | 0, r => r
  | n + 1, r => .unusable :: gap n r
def poolList (es : List (Nat × CpInfo)) (last : Nat) : List CpInfo := es.foldr (fun e r => gap e.1 (e.2 :: r)) (gap last [])
def pool (es : List (Nat × CpInfo)) (last : Nat) : Array CpInfo := ⟨poolList es last⟩
def fileOf (pool : Array CpInfo) (this : Nat) (attrs : Array Attribute := #[]) (ms : Array MethodInfo := #[]) (fl : Nat := 33) (sup : Nat := 0) (ifs : Array Nat := #[]) (fds : Array FieldInfo := #[]) : ClassFile where
  minorVersion := 0
  majorVersion := 65
  constantPool := pool
  accessFlags := fl
  thisClass := this
  superClass := sup
  interfaces := ifs
  fields := fds
  methods := ms
  attributes := attrs
def plain (name : String) (sup : Option ClassId) : Class where
  name := name
  kind := .ordinary
  loader := none
  accessFlags := 33
  super := sup
  interfaces := #[]
  cf := none
  fields := #[]
  methods := #[]
  instanceTypes := #[]
  staticTypes := #[]
  resolved := #[]
  callSites := []
  init := .initialized
  statics := none
  mirror := none

def pool0 : Array CpInfo := pool [(5, u "<init>"), (0, u "()V"), (1, .class_ 10), (1, u "java/lang/Object")] 113

def k0c0 : Code := { maxStack := 0, maxLocals := 1, code := object_method_1_code, exceptionTable := #[], attributes := #[] }
def k0m0 : Method := { name := "<init>", desc := "()V", sig := { parameters := [], returnType := none }, accessFlags := 1, code := some k0c0 }
/-- java/lang/Object -/
def k0 : Class := { plain "java/lang/Object" none with
  accessFlags := 33
  interfaces := #[]
  cf := some (fileOf pool0 8 #[] #[{ accessFlags := 1, nameIndex := 5, descriptorIndex := 6, attributes := #[] }] 33 0 #[] #[])
  fields := #[]
  methods := #[k0m0]
  instanceTypes := #[]
  staticTypes := #[]
  resolved := Array.replicate 124 none
  statics := none }

def pool1 : Array CpInfo := pool [(2, .class_ 4), (0, .nameAndType 5 6), (0, u "java/lang/Object"), (0, u "<init>"), (0, u "()V"), (0, .class_ 8), (0, u "com/example/bristlecone/bristlecone/HashBatch"), (0, .methodref 7 3), (0, .methodref 7 11), (0, .nameAndType 12 13), (0, u "add"), (0, u "([BII)V"), (0, .long 1048576), (1, .methodref 7 17), (0, .nameAndType 18 19), (0, u "fits"), (0, u "(I)Z"), (0, .class_ 21), (0, u "com/example/bristlecone/bristlecone/HashBatchFitsPinLaw"), (2, u "law"), (0, u "(III)Z")] 5

def k1m0 : Method := { name := "<init>", desc := "()V", sig := { parameters := [], returnType := none }, accessFlags := 1, code := none }
def k1c1 : Code := { maxStack := 4, maxLocals := 12, code := code, exceptionTable := #[], attributes := #[] }
def k1m1 : Method := { name := "law", desc := "(III)Z", sig := { parameters := [.int, .int, .int], returnType := some .boolean }, accessFlags := 9, code := some k1c1 }
/-- com/example/bristlecone/bristlecone/HashBatchFitsPinLaw -/
def k1 : Class := { plain "com/example/bristlecone/bristlecone/HashBatchFitsPinLaw" (some 0) with
  accessFlags := 49
  interfaces := #[]
  cf := some (fileOf pool1 20 #[] #[{ accessFlags := 1, nameIndex := 5, descriptorIndex := 6, attributes := #[] }, { accessFlags := 9, nameIndex := 24, descriptorIndex := 25, attributes := #[] }] 49 2 #[] #[])
  fields := #[]
  methods := #[k1m0, k1m1]
  instanceTypes := #[]
  staticTypes := #[]
  resolved := Array.replicate 31 none
  statics := none }

def pool2 : Array CpInfo := pool [(3, .methodref 4 5), (0, .class_ 6), (0, .nameAndType 7 8), (0, u "java/lang/Object"), (0, u "<init>"), (0, u "()V"), (0, .integer 65536), (0, .fieldref 11 12), (0, .class_ 13), (0, .nameAndType 14 15), (0, u "com/example/bristlecone/bristlecone/HashBatch"), (0, u "input"), (0, u "[B"), (0, .fieldref 11 17), (0, .nameAndType 18 19), (0, u "ends"), (0, u "[I"), (0, .fieldref 11 21), (0, .nameAndType 22 15), (0, u "nodes"), (2, .fieldref 11 26), (0, .nameAndType 27 19), (0, u "heightOffsets"), (11, u "start"), (0, u "J"), (0, .fieldref 11 42), (0, .nameAndType 43 44), (0, u "count"), (0, u "I"), (0, .fieldref 11 46), (0, .nameAndType 47 44), (0, u "length"), (2, u "heights"), (0, .integer 1048576), (0, .methodref 11 53), (0, .nameAndType 54 55), (0, u "fits"), (0, u "(I)Z"), (21, .methodref 78 79), (0, .class_ 80), (0, .nameAndType 81 82), (0, u "java/lang/System"), (0, u "arraycopy"), (0, u "(Ljava/lang/Object;ILjava/lang/Object;II)V"), (46, u "MAX_BYTES"), (1, u "MAX_LEAVES"), (1, u "HASH_SIZE"), (8, u "add"), (0, u "([BII)V")] 25

def k2c0 : Code := { maxStack := 2, maxLocals := 1, code := prog_11_method_1_code, exceptionTable := #[], attributes := #[] }
def k2m0 : Method := { name := "<init>", desc := "()V", sig := { parameters := [], returnType := none }, accessFlags := 0, code := some k2c0 }
def k2c1 : Code := { maxStack := 2, maxLocals := 2, code := prog_11_method_6_code, exceptionTable := #[], attributes := #[] }
def k2m1 : Method := { name := "fits", desc := "(I)Z", sig := { parameters := [.int], returnType := some .boolean }, accessFlags := 0, code := some k2c1 }
def k2c2 : Code := { maxStack := 5, maxLocals := 5, code := prog_11_method_7_code, exceptionTable := #[], attributes := #[] }
def k2m2 : Method := { name := "add", desc := "([BII)V", sig := { parameters := [(.array .byte), .int, .int], returnType := none }, accessFlags := 0, code := some k2c2 }
/-- com/example/bristlecone/bristlecone/HashBatch -/
def k2 : Class := { plain "com/example/bristlecone/bristlecone/HashBatch" (some 0) with
  accessFlags := 48
  interfaces := #[]
  cf := some (fileOf pool2 11 #[] #[{ accessFlags := 0, nameIndex := 7, descriptorIndex := 8, attributes := #[] }, { accessFlags := 0, nameIndex := 54, descriptorIndex := 55, attributes := #[] }, { accessFlags := 0, nameIndex := 142, descriptorIndex := 143, attributes := #[] }] 48 4 #[] #[{ accessFlags := 24, nameIndex := 129, descriptorIndex := 44, attributes := #[] }, { accessFlags := 24, nameIndex := 131, descriptorIndex := 44, attributes := #[] }, { accessFlags := 26, nameIndex := 133, descriptorIndex := 44, attributes := #[] }, { accessFlags := 2, nameIndex := 39, descriptorIndex := 40, attributes := #[] }, { accessFlags := 2, nameIndex := 43, descriptorIndex := 44, attributes := #[] }, { accessFlags := 2, nameIndex := 14, descriptorIndex := 15, attributes := #[] }, { accessFlags := 18, nameIndex := 18, descriptorIndex := 19, attributes := #[] }, { accessFlags := 2, nameIndex := 47, descriptorIndex := 44, attributes := #[] }, { accessFlags := 2, nameIndex := 22, descriptorIndex := 15, attributes := #[] }, { accessFlags := 18, nameIndex := 27, descriptorIndex := 19, attributes := #[] }, { accessFlags := 2, nameIndex := 50, descriptorIndex := 44, attributes := #[] }])
  fields := #[{ name := "MAX_BYTES", type := .int, accessFlags := 24, slot := 0, constantValue := 0 }, { name := "MAX_LEAVES", type := .int, accessFlags := 24, slot := 1, constantValue := 0 }, { name := "HASH_SIZE", type := .int, accessFlags := 26, slot := 2, constantValue := 0 }, { name := "start", type := .long, accessFlags := 2, slot := 0, constantValue := 0 }, { name := "count", type := .int, accessFlags := 2, slot := 1, constantValue := 0 }, { name := "input", type := (.array .byte), accessFlags := 2, slot := 2, constantValue := 0 }, { name := "ends", type := (.array .int), accessFlags := 18, slot := 3, constantValue := 0 }, { name := "length", type := .int, accessFlags := 2, slot := 4, constantValue := 0 }, { name := "nodes", type := (.array .byte), accessFlags := 2, slot := 5, constantValue := 0 }, { name := "heightOffsets", type := (.array .int), accessFlags := 18, slot := 6, constantValue := 0 }, { name := "heights", type := .int, accessFlags := 2, slot := 7, constantValue := 0 }]
  methods := #[k2m0, k2m1, k2m2]
  instanceTypes := #[.long, .int, (.array .byte), (.array .int), .int, (.array .byte), (.array .int), .int]
  staticTypes := #[.int, .int, .int]
  resolved := Array.replicate 169 none
  statics := none }

def pool3 : Array CpInfo := pool [(2, .class_ 4), (1, u "java/lang/Object"), (0, u "<init>"), (0, u "()V"), (1, .class_ 10), (1, u "java/lang/System"), (0, u "allowSecurityManager"), (0, u "I"), (16, u "cons"), (0, u "Ljava/io/Console;"), (77, .class_ 110), (1, u "java/lang/System$CallersHolder"), (43, u "initialErrStream"), (0, u "Ljava/io/PrintStream;"), (19, u "security"), (0, u "Ljava/lang/SecurityManager;"), (31, .class_ 209), (0, u "java/lang/System$1"), (7, u "props"), (0, u "Ljava/util/Properties;"), (2, u "lineSeparator"), (0, u "Ljava/lang/String;"), (96, .class_ 321), (1, u "java/lang/System$LoggerFinder"), (5, .class_ 328), (0, u "java/lang/System$Logger"), (67, u "err"), (2, u "out"), (91, u "notSupportedJnuEncoding"), (15, u "in"), (17, u "initialIn"), (0, u "Ljava/io/InputStream;"), (35, u "bootLayer"), (0, u "Ljava/lang/ModuleLayer;"), (99, .class_ 664), (0, u "java/lang/System$2"), (9, u "NEVER"), (2, u "MAYBE"), (49, u "arraycopy"), (0, u "(Ljava/lang/Object;ILjava/lang/Object;II)V"), (72, .class_ 802), (0, u "java/lang/System$Logger$Level")] 31

def k3m0 : Method := { name := "<init>", desc := "()V", sig := { parameters := [], returnType := none }, accessFlags := 2, code := none }
def k3m1 : Method := { name := "arraycopy", desc := "(Ljava/lang/Object;ILjava/lang/Object;II)V", sig := { parameters := [(.object "java/lang/Object"), .int, (.object "java/lang/Object"), .int, .int], returnType := none }, accessFlags := 265, code := none }
/-- java/lang/System -/
def k3 : Class := { plain "java/lang/System" (some 0) with
  accessFlags := 49
  interfaces := #[]
  cf := some (fileOf pool3 8 #[.nestMembers #[319, 327, 801, 108, 663, 208]] #[{ accessFlags := 2, nameIndex := 5, descriptorIndex := 6, attributes := #[] }, { accessFlags := 265, nameIndex := 727, descriptorIndex := 728, attributes := #[] }] 49 2 #[] #[{ accessFlags := 25, nameIndex := 507, descriptorIndex := 526, attributes := #[] }, { accessFlags := 25, nameIndex := 399, descriptorIndex := 155, attributes := #[] }, { accessFlags := 25, nameIndex := 396, descriptorIndex := 155, attributes := #[] }, { accessFlags := 10, nameIndex := 525, descriptorIndex := 526, attributes := #[] }, { accessFlags := 26, nameIndex := 674, descriptorIndex := 12, attributes := #[] }, { accessFlags := 26, nameIndex := 677, descriptorIndex := 12, attributes := #[] }, { accessFlags := 10, nameIndex := 11, descriptorIndex := 12, attributes := #[] }, { accessFlags := 74, nameIndex := 175, descriptorIndex := 176, attributes := #[] }, { accessFlags := 10, nameIndex := 491, descriptorIndex := 222, attributes := #[] }, { accessFlags := 74, nameIndex := 29, descriptorIndex := 30, attributes := #[] }, { accessFlags := 74, nameIndex := 154, descriptorIndex := 155, attributes := #[] }, { accessFlags := 10, nameIndex := 217, descriptorIndex := 218, attributes := #[] }, { accessFlags := 10, nameIndex := 221, descriptorIndex := 222, attributes := #[] }, { accessFlags := 8, nameIndex := 562, descriptorIndex := 563, attributes := #[] }])
  fields := #[{ name := "in", type := (.object "java/io/InputStream"), accessFlags := 25, slot := 0, constantValue := 0 }, { name := "out", type := (.object "java/io/PrintStream"), accessFlags := 25, slot := 1, constantValue := 0 }, { name := "err", type := (.object "java/io/PrintStream"), accessFlags := 25, slot := 2, constantValue := 0 }, { name := "initialIn", type := (.object "java/io/InputStream"), accessFlags := 10, slot := 3, constantValue := 0 }, { name := "NEVER", type := .int, accessFlags := 26, slot := 4, constantValue := 0 }, { name := "MAYBE", type := .int, accessFlags := 26, slot := 5, constantValue := 0 }, { name := "allowSecurityManager", type := .int, accessFlags := 10, slot := 6, constantValue := 0 }, { name := "security", type := (.object "java/lang/SecurityManager"), accessFlags := 74, slot := 7, constantValue := 0 }, { name := "notSupportedJnuEncoding", type := (.object "java/lang/String"), accessFlags := 10, slot := 8, constantValue := 0 }, { name := "cons", type := (.object "java/io/Console"), accessFlags := 74, slot := 9, constantValue := 0 }, { name := "initialErrStream", type := (.object "java/io/PrintStream"), accessFlags := 74, slot := 10, constantValue := 0 }, { name := "props", type := (.object "java/util/Properties"), accessFlags := 10, slot := 11, constantValue := 0 }, { name := "lineSeparator", type := (.object "java/lang/String"), accessFlags := 10, slot := 12, constantValue := 0 }, { name := "bootLayer", type := (.object "java/lang/ModuleLayer"), accessFlags := 8, slot := 13, constantValue := 0 }]
  methods := #[k3m0, k3m1]
  instanceTypes := #[]
  staticTypes := #[(.object "java/io/InputStream"), (.object "java/io/PrintStream"), (.object "java/io/PrintStream"), (.object "java/io/InputStream"), .int, .int, .int, (.object "java/lang/SecurityManager"), (.object "java/lang/String"), (.object "java/io/Console"), (.object "java/io/PrintStream"), (.object "java/util/Properties"), (.object "java/lang/String"), (.object "java/lang/ModuleLayer")]
  resolved := Array.replicate 834 none
  statics := none }

def pool4 : Array CpInfo := pool [(1, u "java/lang/Cloneable"), (0, .class_ 1), (0, u "java/lang/Object"), (0, .class_ 3)] 3

/-- java/lang/Cloneable -/
def k4 : Class := { plain "java/lang/Cloneable" (some 0) with
  accessFlags := 1537
  interfaces := #[]
  cf := some (fileOf pool4 2 #[] #[] 1537 4 #[] #[])
  fields := #[]
  methods := #[]
  instanceTypes := #[]
  staticTypes := #[]
  resolved := Array.replicate 8 none
  statics := none }

def pool5 : Array CpInfo := pool [(1, u "java/io/Serializable"), (0, .class_ 1), (0, u "java/lang/Object"), (0, .class_ 3)] 3

/-- java/io/Serializable -/
def k5 : Class := { plain "java/io/Serializable" (some 0) with
  accessFlags := 1537
  interfaces := #[]
  cf := some (fileOf pool5 2 #[] #[] 1537 4 #[] #[])
  fields := #[]
  methods := #[]
  instanceTypes := #[]
  staticTypes := #[]
  resolved := Array.replicate 8 none
  statics := none }

/-- the primitive byte -/
def k6 : Class := { plain "byte" none with kind := .primitive 'B', accessFlags := 0x411 }
/-- [B -/
def k7 : Class := { plain "[B" (some 0) with kind := .array 6 .byte, interfaces := #[4, 5], accessFlags := 1041 }

/-- the primitive int -/
def k8 : Class := { plain "int" none with kind := .primitive 'I', accessFlags := 0x411 }
/-- [I -/
def k9 : Class := { plain "[I" (some 0) with kind := .array 8 .int, interfaces := #[4, 5], accessFlags := 1041 }

def heap : Heap := #[]
def classes : Array Class := #[k0, k1, k2, k3, k4, k5, k6, k7, k8, k9]
def interned : List (Array UInt16 × Addr) := []
def slotsUsed : Nat := 0
def theMethod : MethodId := ⟨1, 1⟩
def args0 : Array Value := #[.int 5, .int 5, .int 5]
def aboutOver (below : List Frame) : State where
  vm := { classes := classes, interned := interned.toArray }
  heap := heap
  slotsUsed := slotsUsed
  threads := #[{ frames := .invoking theMethod args0 :: below }]
def below0 : List Frame := [.native { method := ⟨0, 0⟩, args := #[] }]
def about1 : State := aboutOver below0
def p0 : Program := .bare "" "" ""
def e0 : Env := launch0.env 0 0 0
theorem w_frames : about1.frames = Frame.invoking theMethod args0 :: below0 := rfl
set_option maxRecDepth 65536 in
theorem w_args : argsFit about1.vm theMethod args0 = true := by decide +kernel
set_option maxRecDepth 65536 in
theorem w_heap : heapFits about1 = true := by decide +kernel
set_option maxRecDepth 65536 in
theorem w_runnable : about1.curStatus? = some .runnable := by decide +kernel
set_option maxRecDepth 65536 in
theorem w_alone : about1.alone = true := by decide +kernel
set_option maxRecDepth 65536 in
theorem w_named : about1.methodNamed? x = some theMethod := by decide +kernel
set_option maxRecDepth 65536 in
theorem w_hears : about1.hears theMethod below0 = true := by decide +kernel
set_option maxRecDepth 65536 in
theorem w_ripe : about1.ripe theMethod args0 below0 = true := by decide +kernel
theorem w_running : about1.status = .running := rfl
set_option maxRecDepth 65536 in
theorem w_room : about1.hasRoom e0.platform room_1 = true :=
  launch0.hasRoom_least _ room_1 (by decide +kernel) (by decide +kernel) (by decide +kernel) (by decide +kernel) (by decide +kernel) (by decide +kernel)
theorem allAtoms_all (ts : List Jvm.Cond) (a : Array Jvm.Value) (st : Jvm.State) : (allAtoms ts).before a st = ts.all (fun c => c.before a st) := by
  induction ts with
  | nil => rfl
  | cons c t ih =>
    show (Jvm.Cond.and c (allAtoms t)).before a st = _
    rw [Jvm.Cond.before_and, ih, List.all_cons]
def words1 : List Jvm.Cond := Jvm.Cond.code x code maxLocals ret :: tables_1
/-- a 'code' word, met by the world's own term for the bytes: nothing is compared byte by byte -/
theorem code_word {y : MethodName} {bytes : ByteArray} {mx : Nat} {rt : Option FieldType} {a : Array Value} {s : State} {m : MethodId} {meth : Method} {c : Code} (h1 : s.methodNamed? y = some m) (h2 : s.vm.method? m = some meth) (h3 : meth.code = some c) (h4 : c.code = bytes)
    (h5 : (c.maxLocals == mx && c.exceptionTable.isEmpty && decide (c.maxStack ≤ mostOperands) && decide (meth.sig.returnType = rt) && !meth.locks && decide (parseMethodDescriptor y.desc = some meth.sig)) = true) : (Jvm.Cond.code y bytes mx rt).before a s = true := by
  simp only [Bool.and_eq_true, beq_iff_eq, Bool.not_eq_true', decide_eq_true_eq] at h5
  obtain ⟨⟨⟨⟨⟨g1, g2⟩, g3⟩, g4⟩, g5⟩, g6⟩ := h5
  simp [Cond.before, Cond.holds, Cond.value, h1, h2, h3, h4, g1, g2, g3, g4, g5, g6]
def isCode : Jvm.Cond → Bool
  | .code _ _ _ _ => true
  | _ => false
theorem all_split {L : List Jvm.Cond} {P : Jvm.Cond → Bool} (h1 : L.all (fun c => isCode c || P c) = true) (h2 : ∀ c ∈ L.filter isCode, P c = true) : L.all P = true := by
  refine List.all_eq_true.mpr fun c hc => ?_
  have h := List.all_eq_true.mp h1 c hc
  rcases Bool.eq_false_or_eq_true (isCode c) with hi | hi
  · exact h2 c (List.mem_filter.mpr ⟨hc, hi⟩)
  · simpa [hi] using h
set_option maxRecDepth 65536 in
theorem w_c0 : (Jvm.Cond.code x code maxLocals ret).before args0 about1 = true := code_word (m := ⟨1, 1⟩) (meth := k1m1) (c := k1c1) (by decide +kernel) rfl rfl rfl (by decide +kernel)
set_option maxRecDepth 65536 in
theorem w_c1 : (Jvm.Cond.code ({ cls := "com/example/bristlecone/bristlecone/HashBatch", name := "<init>", desc := "()V" } : Jvm.MethodName) prog_11_method_1_code (1 : Nat) (Option.none : Option Jvm.ClassFile.FieldType)).before args0 about1 = true := code_word (m := ⟨2, 0⟩) (meth := k2m0) (c := k2c0) (by decide +kernel) rfl rfl rfl (by decide +kernel)
set_option maxRecDepth 65536 in
theorem w_c2 : (Jvm.Cond.code ({ cls := "java/lang/Object", name := "<init>", desc := "()V" } : Jvm.MethodName) object_method_1_code (1 : Nat) (Option.none : Option Jvm.ClassFile.FieldType)).before args0 about1 = true := code_word (m := ⟨0, 0⟩) (meth := k0m0) (c := k0c0) (by decide +kernel) rfl rfl rfl (by decide +kernel)
set_option maxRecDepth 65536 in
theorem w_c3 : (Jvm.Cond.code ({ cls := "com/example/bristlecone/bristlecone/HashBatch", name := "add", desc := "([BII)V" } : Jvm.MethodName) prog_11_method_7_code (5 : Nat) (Option.none : Option Jvm.ClassFile.FieldType)).before args0 about1 = true := code_word (m := ⟨2, 2⟩) (meth := k2m2) (c := k2c2) (by decide +kernel) rfl rfl rfl (by decide +kernel)
set_option maxRecDepth 65536 in
theorem w_c4 : (Jvm.Cond.code ({ cls := "com/example/bristlecone/bristlecone/HashBatch", name := "fits", desc := "(I)Z" } : Jvm.MethodName) prog_11_method_6_code (2 : Nat) (Option.some Jvm.ClassFile.FieldType.boolean)).before args0 about1 = true := code_word (m := ⟨2, 1⟩) (meth := k2m1) (c := k2c1) (by decide +kernel) rfl rfl rfl (by decide +kernel)
def codes1 : List Jvm.Cond := [Jvm.Cond.code x code maxLocals ret, Jvm.Cond.code ({ cls := "com/example/bristlecone/bristlecone/HashBatch", name := "<init>", desc := "()V" } : Jvm.MethodName) prog_11_method_1_code (1 : Nat) (Option.none : Option Jvm.ClassFile.FieldType), Jvm.Cond.code ({ cls := "java/lang/Object", name := "<init>", desc := "()V" } : Jvm.MethodName) object_method_1_code (1 : Nat) (Option.none : Option Jvm.ClassFile.FieldType), Jvm.Cond.code ({ cls := "com/example/bristlecone/bristlecone/HashBatch", name := "add", desc := "([BII)V" } : Jvm.MethodName) prog_11_method_7_code (5 : Nat) (Option.none : Option Jvm.ClassFile.FieldType), Jvm.Cond.code ({ cls := "com/example/bristlecone/bristlecone/HashBatch", name := "fits", desc := "(I)Z" } : Jvm.MethodName) prog_11_method_6_code (2 : Nat) (Option.some Jvm.ClassFile.FieldType.boolean)]
set_option maxRecDepth 65536 in
theorem codes_eq : words1.filter isCode = codes1 := rfl
theorem w_codes : ∀ c ∈ words1.filter isCode, c.before args0 about1 = true := by
  rw [codes_eq]
  intro c hc
  simp only [codes1, List.mem_cons, List.not_mem_nil, or_false] at hc
  rcases hc with rfl | rfl | rfl | rfl | rfl
  · exact w_c0
  · exact w_c1
  · exact w_c2
  · exact w_c3
  · exact w_c4
set_option maxRecDepth 65536 in
theorem w_t1 : (words1.take 24).all (fun c => isCode c || c.before args0 about1) = true := by decide +kernel
set_option maxRecDepth 65536 in
theorem w_t2 : (words1.drop 24).all (fun c => isCode c || c.before args0 about1) = true := by decide +kernel
theorem w_tables : (allAtoms (Jvm.Cond.code x code maxLocals ret :: tables_1)).before args0 about1 = true := by
  rw [allAtoms_all]
  show words1.all (fun c => c.before args0 about1) = true
  refine all_split ?_ w_codes
  rw [← List.take_append_drop 24 words1, List.all_append, w_t1, w_t2]
  rfl
set_option maxRecDepth 65536 in
theorem w_case : (Jvm.Cond.and given_1 narrow_1).before args0 about1 = true := by decide +kernel
theorem w_applies : (headSpec (Jvm.Cond.code x code maxLocals ret :: tables_1) room_1).applies x e0.platform about1 = true :=
  (Spec.applies_iff w_frames).mpr ⟨w_running, w_runnable, w_alone, w_named, w_hears, w_ripe, w_room, w_tables⟩
theorem atStart : AtStart classFile x code maxLocals ret World_1 tables_1 room_1 Calls_1 rest_1 Pre_1 launch0 p0 e0 about1 theMethod args0 below0 :=
  ⟨lists_1, trivial, launch0.admits_env _ _ _, launch0.least_env, fairChoices_fair.cas, fairChoices_fair.clock, w_frames, w_args, w_heap, w_applies, trivial, trivial, w_case⟩
end start1
theorem witness_1 : WitnessClaimed_1 := ⟨start1.p0, start1.e0, start1.about1, start1.theMethod, start1.args0, start1.below0, start1.atStart⟩
end Jvm.Pilot.@@N@@
