import JvmDerived
import JvmDerived.Pilot.@@N@@Statement
import JvmDerived.Pilot.@@N@@Code
set_option linter.unusedVariables false
set_option linter.unusedSimpArgs false
namespace Jvm.Pilot.@@N@@
open Jvm Jvm.ClassFile Sem Op Lib Jvm.Free Jvm.Stand Jvm.LawKit Jvm.RoadKit Bundle Jvm.Pilot.@@N@@.Jvm.D
section OwnKit
variable {p : Program} {l : Launch} {e : Env} {R : Room} {s : State} {m : MethodId} {args : Array Value} {below : List Frame} {meth : Method} {c : Code} {T T' : State} {locs : List Loc} {cells slots : Nat} {h : Heap} {Q : Option Value → Heap → List Loc → Prop} {kc ks : Nat} {g g' : JFrame}
/-- from this state and frame the method comes to its end, and what it leaves is Q -/
def Gl (p : Program) (e : Env) (below : List Frame) (s : State) (Q : Option Value → Heap → List Loc → Prop) (kc ks : Nat) (T : State) (g : JFrame) : Prop :=
  ∃ s₂ o, Steps p.tables e below (T.setTop g) s₂ ∧ s₂.status = .running ∧ Ended s₂ below o ∧ ∃ v L, o = .returned v ∧ Q v s₂.heap L ∧ FrameEnd s o s₂ L kc ks
theorem Gl.st (h : ∀ t, Steps p.tables e below (T'.setTop g') t → Steps p.tables e below (T.setTop g) t) (k : Gl p e below s Q kc ks T' g') : Gl p e below s Q kc ks T g := by
  obtain ⟨s₂, o, h1, r⟩ := k
  exact ⟨s₂, o, h _ h1, r⟩
theorem Gl.ret (X : Stand p l e R s m args below meth c T locs cells slots) (hlk : meth.locks = false) (v : Option Value) (hv : meth.sig.returnType = none → v = none) (eT : T.heap = h) (hc : cells ≤ kc) (hs : slots ≤ ks)
    (hst : ∀ fs, (∀ (f : JFrame) (acts : List Action), f.method = m → f.locked = none → f.entered = [] → (doReturn e (T.setTop f) acts v).1 = T.setFrames fs) → Steps p.tables e below (T.setTop g) (T.setFrames fs))
    (hq : Q v h locs) : Gl p e below s Q kc ks T g := by
  obtain ⟨fs, hr, hrun, hended, hW, hsame⟩ := X.leave (v := v) hv hlk
  refine ⟨_, _, hst fs hr, hrun, hended, v, locs, rfl, ?_, ⟨_, rfl⟩, hW, hsame.mono hc hs⟩
  show Q v T.heap locs
  rw [eT]; exact hq
theorem Gl.retI (X : Stand p l e R s m args below meth c T locs cells slots) (hx : p.tables.exec = Jvm.exec) (hlk : meth.locks = false) {pc : Nat} {Ls : Array Slot} {z : Int32} {rest : List Value} (hret : meth.sig.returnType = some .int) (hd : decode c.code pc = .ok (.ireturn, 1)) (eT : T.heap = h) (hc : cells ≤ kc) (hs : slots ≤ ks)
    (hq : Q (some (.int z)) h locs) : Gl p e below s Q kc ks T (mkF m pc Ls (.int z :: rest)) := by
  refine Gl.ret X hlk (some (.int z)) (fun q => by rw [hret] at q; cases q) eT hc hs (fun fs hl => ?_) hq
  exact retOut X hx hret (t := .int) rfl (Or.inl ⟨rfl, Or.inl rfl, _, rfl⟩) hd hl
theorem Gl.retZ (X : Stand p l e R s m args below meth c T locs cells slots) (hx : p.tables.exec = Jvm.exec) (hlk : meth.locks = false) {pc : Nat} {Ls : Array Slot} {z : Int32} {rest : List Value} (t : FieldType) (ht : t = .boolean ∨ t = .byte ∨ t = .char ∨ t = .short) (hret : meth.sig.returnType = some t) (hd : decode c.code pc = .ok (.ireturn, 1)) (eT : T.heap = h) (hc : cells ≤ kc) (hs : slots ≤ ks)
    (hq : Q (some (.int (nar t z))) h locs) : Gl p e below s Q kc ks T (mkF m pc Ls (.int z :: rest)) := by
  refine Gl.ret X hlk (some (.int (nar t z))) (fun q => by rw [hret] at q; cases q) eT hc hs (fun fs hl => ?_) hq
  exact retN X hx (t := t) hret ht hd hl
theorem Gl.retL (X : Stand p l e R s m args below meth c T locs cells slots) (hx : p.tables.exec = Jvm.exec) (hlk : meth.locks = false) {pc : Nat} {Ls : Array Slot} {z : Int64} (hret : meth.sig.returnType = some .long) (hd : decode c.code pc = .ok (.lreturn, 1)) (eT : T.heap = h) (hc : cells ≤ kc) (hs : slots ≤ ks)
    (hq : Q (some (.long z)) h locs) : Gl p e below s Q kc ks T (mkF m pc Ls [.long z]) := by
  refine Gl.ret X hlk (some (.long z)) (fun q => by rw [hret] at q; cases q) eT hc hs (fun fs hl => ?_) hq
  exact X.lreturnOut hx hret hd hl
theorem Gl.retV (X : Stand p l e R s m args below meth c T locs cells slots) (hx : p.tables.exec = Jvm.exec) (hlk : meth.locks = false) {pc : Nat} {Ls : Array Slot} (hret : meth.sig.returnType = none) (hd : decode c.code pc = .ok (.return_, 1)) (eT : T.heap = h) (hc : cells ≤ kc) (hs : slots ≤ ks)
    (hq : Q none h locs) : Gl p e below s Q kc ks T (mkF m pc Ls []) := by
  refine Gl.ret X hlk none (fun _ => rfl) eT hc hs (fun fs hl => ?_) hq
  exact X.returnOut hx hret hd hl
end OwnKit

section OwnArr
variable {p : Program} {l : Launch} {e : Env} {R : Room} {s : State} {m : MethodId} {args : Array Value} {below : List Frame} {meth : Method} {c : Code} {T : State} {locs : List Loc} {cells slots : Nat} {Z : State} {h : Heap} {a : Addr} {k : ClassId} {z j x : Int32} {vs : List Value} {dv v : Value} {g : JFrame} {rest : List Value}
theorem own_ldB (X : Stand p l e R s m args below meth c T locs cells slots) (hx : p.tables.exec = Jvm.exec) (hZ : Z.Warmed39 s.vm) (eT : T.heap = h) (F : Arv Z h a k .byte z vs dv) (hj : ¬ j < 0 ∧ j < z) (u : vs.getD j.toNatClampNeg dv = v) (hg : g.method = m) (hs : g.stack = .int j :: .ref a :: rest) (hd : decode c.code g.pc = .ok (.baload, 1)) :
    ∀ t, Steps p.tables e below (T.setTop { g with pc := g.pc + 1, stack := v :: rest }) t → Steps p.tables e below (T.setTop g) t := by
  obtain ⟨cl, A, q1, S, q3, H, G⟩ := F
  have hin := inb_of S hj
  intro t kk
  exact X.baloadBytes hx (by rw [eT]; exact A.1) (State.isArrayOf_alike hZ.alike A.2.1) A.2.2 hin (Has.at H hin u) hg hs hd t kk
theorem own_ldC (X : Stand p l e R s m args below meth c T locs cells slots) (hx : p.tables.exec = Jvm.exec) (hZ : Z.Warmed39 s.vm) (eT : T.heap = h) (F : Arv Z h a k .char z vs dv) (hj : ¬ j < 0 ∧ j < z) (u : vs.getD j.toNatClampNeg dv = v) (hg : g.method = m) (hs : g.stack = .int j :: .ref a :: rest) (hd : decode c.code g.pc = .ok (.caload, 1)) :
    ∀ t, Steps p.tables e below (T.setTop { g with pc := g.pc + 1, stack := v :: rest }) t → Steps p.tables e below (T.setTop g) t := by
  obtain ⟨cl, A, q1, S, q3, H, G⟩ := F
  have hin := inb_of S hj
  intro t kk
  exact X.caload hx (by rw [eT]; exact A.1) (State.isArrayOf_alike hZ.alike A.2.1) A.2.2 hin (Has.at H hin u) hg hs hd t kk
theorem own_len {ty : FieldType} (X : Stand p l e R s m args below meth c T locs cells slots) (hx : p.tables.exec = Jvm.exec) (hZ : Z.Warmed39 s.vm) (eT : T.heap = h) (F : Arv Z h a k ty z vs dv) (hg : g.method = m) (hs : g.stack = .ref a :: rest) (hd : decode c.code g.pc = .ok (.arraylength, 1)) :
    ∀ t, Steps p.tables e below (T.setTop { g with pc := g.pc + 1, stack := .int z :: rest }) t → Steps p.tables e below (T.setTop g) t := by
  obtain ⟨cl, A, q1, S, q3, H, G⟩ := F
  intro t kk
  exact X.arraylength hx (by rw [eT]; exact A.1) (State.isArrayOf_alike hZ.alike A.2.1) hg hs hd t (by rw [len_of S q3]; exact kk)
theorem own_stB (X : Stand p l e R s m args below meth c T locs cells slots) (hx : p.tables.exec = Jvm.exec) (hZ : Z.Warmed39 s.vm) (eT : T.heap = h) (F : Arv Z h a k .byte z vs dv) (hj : ¬ j < 0 ∧ j < z) (i : Nat) (hi : j.toNatClampNeg = i) (hl : i < vs.length) (hg : g.method = m) (hs : g.stack = .int x :: .int j :: .ref a :: rest) (hd : decode c.code g.pc = .ok (.bastore, 1)) :
    ∃ T' h' y, Stand p l e R s m args below meth c T' (locs ++ [⟨a, j.toNatClampNeg⟩]) cells slots ∧ T'.heap = h' ∧ Wr h h' a j.toNatClampNeg (.int y) ∧ y = nar .byte x ∧ Arv Z h' a k .byte z (vs.set i (.int y)) dv ∧
      ∀ t, Steps p.tables e below (T'.setTop { g with pc := g.pc + 1, stack := rest }) t → Steps p.tables e below (T.setTop g) t := by
  obtain ⟨cl, A, q1, S, q3, H, G⟩ := F
  obtain ⟨T', h', X', e', W', st'⟩ := stB X hx hZ eT A (inb_of S hj) hg hs hd
  exact ⟨T', h', _, X', e', W', rfl, Arv.set A q1 S q3 H G (fits_nar_byte _) W' i hi hl, st'⟩
theorem own_stC (X : Stand p l e R s m args below meth c T locs cells slots) (hx : p.tables.exec = Jvm.exec) (hZ : Z.Warmed39 s.vm) (eT : T.heap = h) (F : Arv Z h a k .char z vs dv) (hj : ¬ j < 0 ∧ j < z) (i : Nat) (hi : j.toNatClampNeg = i) (hl : i < vs.length) (hg : g.method = m) (hs : g.stack = .int x :: .int j :: .ref a :: rest) (hd : decode c.code g.pc = .ok (.castore, 1)) :
    ∃ T' h' y, Stand p l e R s m args below meth c T' (locs ++ [⟨a, j.toNatClampNeg⟩]) cells slots ∧ T'.heap = h' ∧ Wr h h' a j.toNatClampNeg (.int y) ∧ y = nar .char x ∧ Arv Z h' a k .char z (vs.set i (.int y)) dv ∧
      ∀ t, Steps p.tables e below (T'.setTop { g with pc := g.pc + 1, stack := rest }) t → Steps p.tables e below (T.setTop g) t := by
  obtain ⟨cl, A, q1, S, q3, H, G⟩ := F
  obtain ⟨T', h', X', e', W', st'⟩ := stC X hx hZ eT A (inb_of S hj) hg hs hd
  exact ⟨T', h', _, X', e', W', rfl, Arv.set A q1 S q3 H G (fits_nar_char _) W' i hi hl, st'⟩
theorem own_stI (X : Stand p l e R s m args below meth c T locs cells slots) (hx : p.tables.exec = Jvm.exec) (hZ : Z.Warmed39 s.vm) (eT : T.heap = h) (F : Arv Z h a k .int z vs dv) (hj : ¬ j < 0 ∧ j < z) (i : Nat) (hi : j.toNatClampNeg = i) (hl : i < vs.length) (hg : g.method = m) (hs : g.stack = .int x :: .int j :: .ref a :: rest) (hd : decode c.code g.pc = .ok (.iastore, 1)) :
    ∃ T' h', Stand p l e R s m args below meth c T' (locs ++ [⟨a, j.toNatClampNeg⟩]) cells slots ∧ T'.heap = h' ∧ Wr h h' a j.toNatClampNeg (.int x) ∧ Arv Z h' a k .int z (vs.set i (.int x)) dv ∧
      ∀ t, Steps p.tables e below (T'.setTop { g with pc := g.pc + 1, stack := rest }) t → Steps p.tables e below (T.setTop g) t := by
  obtain ⟨cl, A, q1, S, q3, H, G⟩ := F
  obtain ⟨T', h', X', e', W', st'⟩ := stI X hx hZ eT A (inb_of S hj) hg hs hd
  exact ⟨T', h', X', e', W', Arv.set A q1 S q3 H G rfl W' i hi hl, st'⟩
end OwnArr

theorem own_z0 : nar .boolean (0 : Int32) = 0 := by decide
theorem own_z1 : nar .boolean (1 : Int32) = 1 := by decide
theorem own_nn (x : Int32) : 0 ≤ (x &&& (2147483647 : Int32)).toInt := by
  rw [c_mask x 2147483647 31 (by decide) (by decide)]
  exact Int.emod_nonneg _ (by decide)
theorem own_lt {x y : Int32} (h : x.toInt < y.toInt) : x < y := Int32.lt_iff_toInt_lt.mpr h
theorem own_nlt {x y : Int32} (h : y.toInt ≤ x.toInt) : ¬ x < y := fun q => by
  have := Int32.lt_iff_toInt_lt.mp q; omega
theorem own_eq {x y : Int32} (h : x.toInt = y.toInt) : x = y := Int32.toInt_inj.mp h
theorem own_ltI {x y : Int32} (h : x < y) : x.toInt < y.toInt := Int32.lt_iff_toInt_lt.mp h
theorem own_nltI {x y : Int32} (h : ¬ x < y) : y.toInt ≤ x.toInt := by
  rcases Int.lt_or_le x.toInt y.toInt with q | q
  · exact absurd (own_lt q) h
  · exact q
theorem own_rem {x y : Int32} (hx : 0 ≤ x.toInt) (hy : 0 < y.toInt) : 0 ≤ (x % y).toInt ∧ (x % y).toInt < y.toInt := by
  have h := (c_irem x y y.toInt rfl).1 hx
  rw [h]; exact ⟨Int.emod_nonneg _ (by omega), Int.emod_lt_of_pos _ hy⟩
theorem own_add {x y : Int32} (h1 : -2147483648 ≤ x.toInt + y.toInt) (h2 : x.toInt + y.toInt < 2147483648) : (x + y).toInt = x.toInt + y.toInt := by
  have a := c_iadd x y; have b := (x + y).toInt_lt; have c := (x + y).le_toInt; omega
theorem own_sub {x y : Int32} (h1 : -2147483648 ≤ x.toInt - y.toInt) (h2 : x.toInt - y.toInt < 2147483648) : (x - y).toInt = x.toInt - y.toInt := by
  have a := c_isub x y; have b := (x - y).toInt_lt; have c := (x - y).le_toInt; omega
theorem own_and (x : Int32) (m : Int32) (k : Nat) (hk : k ≤ 31) (hm : m.toBitVec.toNat = 2 ^ k - 1) : 0 ≤ (x &&& m).toInt ∧ (x &&& m).toInt ≤ m.toInt ∧ (x &&& m).toInt = x.toInt % (2 ^ k : Nat) := by
  have h := c_mask x m k hk hm
  have hm0 : 0 ≤ m.toInt := by
    have e : m.toInt = m.toBitVec.toInt := rfl
    have q : 2 ^ k ≤ 2 ^ 31 := Nat.pow_le_pow_right (by decide) hk
    have l := m.toBitVec.isLt
    rw [e, BitVec.toInt_eq_toNat_cond, hm]; split <;> omega
  exact ⟨(c_and x m hm0).1, (c_and x m hm0).2, h⟩
def own_ul (z : Int32) : Int64 := z.toInt64 &&& (4294967295 : Int64)
def own_t1 (m k x t : Int32) : Int32 := if (x &&& m) = (0 : Int32) then t else (t ^^^ k)
def own_tb (x : Int32) : Int32 := (own_t1 (128 : Int32) (37256 : Int32) x (own_t1 (64 : Int32) (18628 : Int32) x (own_t1 (32 : Int32) (9314 : Int32) x (own_t1 (16 : Int32) (4657 : Int32) x (own_t1 (8 : Int32) (33032 : Int32) x (own_t1 (4 : Int32) (16516 : Int32) x (own_t1 (2 : Int32) (8258 : Int32) x (own_t1 (1 : Int32) (4129 : Int32) x (0 : Int32)))))))))
def own_cl (crc b : Int32) : Int32 := (crc <<< ((8 : Int32) &&& 31)) ^^^ own_tb (((XT.ushr crc (8 : Int32)) &&& (255 : Int32)) ^^^ (b &&& (255 : Int32)))
def own_ci (x : Int32) : Int32 := if (x &&& (32768 : Int32)) = (0 : Int32) then (x <<< ((1 : Int32) &&& 31)) else ((x <<< ((1 : Int32) &&& 31)) ^^^ (4129 : Int32))
def own_it : Nat → Int32 → Int32
  | 0, x => x
  | k + 1, x => own_it k (own_ci x)
def own_ix (crc b : Int32) : Int32 := ((XT.ushr crc (8 : Int32)) ^^^ b) &&& (255 : Int32)
def own_cs (crc b : Int32) : Int32 := (crc <<< ((8 : Int32) &&& 31)) ^^^ ((own_it 8 (own_ix crc b <<< ((8 : Int32) &&& 31))) &&& (65535 : Int32))
def own_crc (ys : List Int32) (n : Nat) : Int64 := own_ul (List.foldl own_cs 0 (ys.take n))
theorem own_and_xor (a b c : Int32) : (a ^^^ b) &&& c = (a &&& c) ^^^ (b &&& c) := by
  apply Int32.toBitVec_inj.mp
  rw [Int32.toBitVec_and, Int32.toBitVec_xor, Int32.toBitVec_xor, Int32.toBitVec_and, Int32.toBitVec_and]
  apply BitVec.eq_of_getLsbD_eq
  intro i hi
  simp only [BitVec.getLsbD_xor, BitVec.getLsbD_and]
  cases a.toBitVec.getLsbD i <;> cases b.toBitVec.getLsbD i <;> cases c.toBitVec.getLsbD i <;> rfl
theorem own_256 : ∀ k : Fin 256, (own_it 8 ((Int32.ofNat k.1) <<< ((8 : Int32) &&& 31))) &&& (65535 : Int32) = own_tb (Int32.ofNat k.1) := by decide +kernel
theorem own_ix256 (crc b : Int32) : ∃ k : Fin 256, own_ix crc b = Int32.ofNat k.1 := by
  obtain ⟨h1, h2, -⟩ := own_and ((XT.ushr crc (8 : Int32)) ^^^ b) 255 8 (by decide) (by decide)
  have t : (255 : Int32).toInt = 255 := by decide
  refine ⟨⟨(own_ix crc b).toInt.toNat, by show (own_ix crc b).toInt.toNat < 256; unfold own_ix; omega⟩, ?_⟩
  show own_ix crc b = Int32.ofNat (own_ix crc b).toInt.toNat
  rw [← Int32.ofInt_eq_ofNat, Int.toNat_of_nonneg (by unfold own_ix; exact h1), Int32.ofInt_toInt]
theorem own_cs_eq : own_cs = own_cl := by
  funext crc b
  unfold own_cs own_cl
  obtain ⟨k, hk⟩ := own_ix256 crc b
  rw [hk, own_256 k, ← hk]
  unfold own_ix
  rw [own_and_xor]
theorem own_nat {i : Nat} (h : i ≤ 16) : (Int32.ofNat i).toInt = i := by
  have q : ∀ k : Fin 17, (Int32.ofNat k.1).toInt = k.1 := by decide
  exact q ⟨i, by omega⟩
theorem own_inc (i : Nat) : Int32.ofNat i + (1 : Int32) = Int32.ofNat (i + 1) := by rw [Int32.ofNat_add]; rfl
theorem own_il {i n : Nat} {p z : Int32} (hp : p = z) (hz : z = Int32.ofNat n) (h : i < n) (hn : n ≤ 16) : Int32.ofNat i < p := by
  subst hp; subst hz
  exact own_lt (by rw [own_nat hn, own_nat (by omega)]; omega)
theorem own_inl {i n : Nat} {p : Int32} (hz : p = Int32.ofNat n) (h : n ≤ i) (hn : i ≤ 16) : ¬ Int32.ofNat i < p := by
  subst hz
  exact own_nlt (by rw [own_nat hn, own_nat (by omega)]; omega)
theorem own_get {i : Nat} (ys : List Int32) (hi : i ≤ 16) : (ys.map Value.int).getD (Int32.ofNat i).toNatClampNeg (.int (0 : Int32)) = .int (ys.getD i 0) := by
  have e : (Int32.ofNat i).toNatClampNeg = i := by
    simp only [Int32.toNatClampNeg, own_nat hi]; rfl
  rw [e, List.getD_eq_getElem?_getD, List.getD_eq_getElem?_getD, List.getElem?_map]
  cases ys[i]? <;> rfl
theorem own_ge0 {i : Nat} (hi : i ≤ 16) : ¬ Int32.ofNat i < 0 := own_nlt (by rw [own_nat hi]; show (0 : Int) ≤ _; omega)
theorem own_turn {ys : List Int32} {i k nn : Nat} {hh H : Int32} (hl : nn ≤ ys.length) (hik : i + (k + 1) = nn) (hf : List.foldl own_cs hh ((ys.drop i).take (k + 1)) = H) : List.foldl own_cs (own_cs hh (ys.getD i 0)) ((ys.drop (i + 1)).take k) = H := by
  have hi : i < ys.length := by omega
  rw [List.drop_eq_getElem_cons hi, List.take_succ_cons, List.foldl_cons] at hf
  have e : ys.getD i 0 = ys[i] := by rw [List.getD_eq_getElem?_getD, List.getElem?_eq_getElem hi]; rfl
  rw [e]; exact hf
theorem own_n {x v : Int32} (e : ((x &&& (2147483647 : Int32)) % (9 : Int32)) = v) : ¬ v < 0 ∧ ¬ 8 < v := by
  have h := own_rem (own_nn x) (y := 9) (by decide)
  rw [e] at h
  have t : (9 : Int32).toInt = 9 := by decide
  have u : (8 : Int32).toInt = 8 := by decide
  exact ⟨own_nlt h.1, own_nlt (by omega)⟩
theorem own_ndn {v a b : Int32} (h : ¬ a < v) (hab : a < b) : ¬ b < v := own_nlt (by have := own_nltI h; have := own_ltI hab; omega)
theorem own_pin {v : Int32} (k j : Int32) (h1 : j < v) (h2 : ¬ k < v) (h3 : k.toInt = j.toInt + 1) : v = k := own_eq (by have := own_ltI h1; have := own_nltI h2; omega)
theorem own_pin0 {v : Int32} (h1 : ¬ v < 0) (h2 : ¬ 0 < v) : v = 0 := own_eq (by have := own_nltI h1; have := own_nltI h2; omega)
theorem d1_0 : decode jdk_33_method_42_code 0 = .ok (.iload_n 0, 1) := by decide +kernel
theorem d1_1 : decode jdk_33_method_42_code 1 = .ok (.i2l, 1) := by decide +kernel
theorem d1_2 : decode jdk_33_method_42_code 2 = .ok (.ldc2_w 262, 3) := by decide +kernel
theorem d1_5 : decode jdk_33_method_42_code 5 = .ok (.land, 1) := by decide +kernel
theorem d1_6 : decode jdk_33_method_42_code 6 = .ok (.lreturn, 1) := by decide +kernel
theorem pn_0 : plainName "java/lang/Integer" = true := by first | (simp [plainName, overriddenIn]; done) | decide +kernel
theorem ef_1 (m : MethodId) (p1 : Int32) : entryFrame m #[(.int p1)] 1 = mkF m 0 #[.val (.int p1)] [] := by first | (simp [entryFrame, mkF, argsToLocals, Value.category]; done) | rfl
def Q1 (Z : State) (p1 : Int32)  (h0 : Heap) (n0 : Nat) (v : Option Value) (h : Heap) (L : List Loc) : Prop := v = some (.long (own_ul p1)) ∧ Fr n0 L ∧ h = h0
set_option maxRecDepth 65536 in
set_option maxHeartbeats 40000000 in
theorem rm1 (l : Launch) (Z : State) (a0 : Array Value) (hw : ∀ d ∈ tables_1, d.before a0 Z = true) (p1 : Int32)  (h0 : Heap) (n0 : Nat) (Z0 : n0 ≤ h0.size)  :
    MetFree l (⟨"java/lang/Integer", "toUnsignedLong", "(I)J"⟩ : MethodName) (head1 [Jvm.Cond.code (⟨"java/lang/Integer", "toUnsignedLong", "(I)J"⟩ : MethodName) jdk_33_method_42_code 1 (some .long)] ({ frames := 0, cells := 0, slots := 0, locals := 0 } : Room)) (fun a U => a = #[(.int p1)] ∧ Z.Warmed39 U.vm ∧ U.heap = h0) (fun _ _ _ _ _ => True) (fun _ U o U' => ∃ v L, o = .returned v ∧ Q1 Z p1  h0 n0 v U'.heap L ∧ FrameEnd U o U' L ({ frames := 0, cells := 0, slots := 0, locals := 0 } : Room).cells ({ frames := 0, cells := 0, slots := 0, locals := 0 } : Room).slots) := by
  refine MetFree.of_bodySF (plainFor_of_name pn_0) hisR ?_
  intro p e s m args below meth c s₁ Bd hml0 hP hK
  obtain ⟨rfl, hZ, hh⟩ := hP
  have hx := Bd.exec
  have hby := Bd.bytes
  have hlk : meth.locks = false := Bd.notSynchronized
  have hml : c.maxLocals = 1 := hml0
  have hown : s.vm.findClass "java/lang/Integer" = some m.cls := findClass_of_methodNamed Bd.named
  have hnm := (name_of_methodNamed Bd.named Bd.method).1
  have X0 : Stand p l e ({ frames := 0, cells := 0, slots := 0, locals := 0 } : Room) s m #[(.int p1)] below meth c s₁ [] 0 0 := Stand.of_body Bd
  have e0 : s₁.heap = h0 := by rw [← hh, Bd.state]; rfl
  have N0 := Fr.nil n0
  show Gl p e below s (Q1 Z p1  h0 n0) 0 0 s₁ (entryFrame m #[(.int p1)] 1)
  rw [ef_1 m p1]
  refine Gl.st (g' := (mkF m 1 #[.val (.int p1)] [(.int p1)])) (fun t k => XS.iloadN X0.here hx rfl (hb hby d1_0) rfl k) ?_
  refine Gl.st (g' := (mkF m 2 #[.val (.int p1)] [(.long (p1.toInt64))])) (fun t k => XS.i2l X0.here hx rfl (hb hby d1_1) rfl k) ?_
  refine Gl.st (g' := (mkF m 5 #[.val (.int p1)] [(.long (4294967295 : Int64)), (.long (p1.toInt64))])) (fun t k => X0.ldc2J hx hown (mvT hZ (hw _ (List.mem_of_getElem? (i := 20) rfl))) rfl (hb hby d1_2) k) ?_
  refine Gl.st (g' := (mkF m 6 #[.val (.int p1)] [(.long ((p1.toInt64) &&& (4294967295 : Int64)))])) (fun t k => XS.land X0.here hx rfl (hb hby d1_5) rfl k) ?_
  refine Gl.retL X0 hx hlk Bd.returns (hb hby d1_6) e0 (by decide) (by decide) ?_
  exact ⟨rfl, N0, rfl⟩
theorem d2_0 : decode method_2_code 0 = .ok (.iconst 0, 1) := by decide +kernel
theorem d2_1 : decode method_2_code 1 = .ok (.istore_n 1, 1) := by decide +kernel
theorem d2_2 : decode method_2_code 2 = .ok (.iload_n 0, 1) := by decide +kernel
theorem d2_3 : decode method_2_code 3 = .ok (.iconst 1, 1) := by decide +kernel
theorem d2_4 : decode method_2_code 4 = .ok (.iand, 1) := by decide +kernel
theorem d2_5 : decode method_2_code 5 = .ok (.ifCond .eq 9, 3) := by decide +kernel
theorem d2_8 : decode method_2_code 8 = .ok (.iload_n 1, 1) := by decide +kernel
theorem d2_9 : decode method_2_code 9 = .ok (.sipush 4129, 3) := by decide +kernel
theorem d2_12 : decode method_2_code 12 = .ok (.ixor, 1) := by decide +kernel
theorem d2_13 : decode method_2_code 13 = .ok (.istore_n 1, 1) := by decide +kernel
theorem d2_14 : decode method_2_code 14 = .ok (.iload_n 0, 1) := by decide +kernel
theorem d2_15 : decode method_2_code 15 = .ok (.iconst 2, 1) := by decide +kernel
theorem d2_16 : decode method_2_code 16 = .ok (.iand, 1) := by decide +kernel
theorem d2_17 : decode method_2_code 17 = .ok (.ifCond .eq 9, 3) := by decide +kernel
theorem d2_20 : decode method_2_code 20 = .ok (.iload_n 1, 1) := by decide +kernel
theorem d2_21 : decode method_2_code 21 = .ok (.sipush 8258, 3) := by decide +kernel
theorem d2_24 : decode method_2_code 24 = .ok (.ixor, 1) := by decide +kernel
theorem d2_25 : decode method_2_code 25 = .ok (.istore_n 1, 1) := by decide +kernel
theorem d2_26 : decode method_2_code 26 = .ok (.iload_n 0, 1) := by decide +kernel
theorem d2_27 : decode method_2_code 27 = .ok (.iconst 4, 1) := by decide +kernel
theorem d2_28 : decode method_2_code 28 = .ok (.iand, 1) := by decide +kernel
theorem d2_29 : decode method_2_code 29 = .ok (.ifCond .eq 9, 3) := by decide +kernel
theorem d2_32 : decode method_2_code 32 = .ok (.iload_n 1, 1) := by decide +kernel
theorem d2_33 : decode method_2_code 33 = .ok (.sipush 16516, 3) := by decide +kernel
theorem d2_36 : decode method_2_code 36 = .ok (.ixor, 1) := by decide +kernel
theorem d2_37 : decode method_2_code 37 = .ok (.istore_n 1, 1) := by decide +kernel
theorem d2_38 : decode method_2_code 38 = .ok (.iload_n 0, 1) := by decide +kernel
theorem d2_39 : decode method_2_code 39 = .ok (.bipush 8, 2) := by decide +kernel
theorem d2_41 : decode method_2_code 41 = .ok (.iand, 1) := by decide +kernel
theorem d2_42 : decode method_2_code 42 = .ok (.ifCond .eq 8, 3) := by decide +kernel
theorem d2_45 : decode method_2_code 45 = .ok (.iload_n 1, 1) := by decide +kernel
theorem d2_46 : decode method_2_code 46 = .ok (.ldc 7, 2) := by decide +kernel
theorem d2_48 : decode method_2_code 48 = .ok (.ixor, 1) := by decide +kernel
theorem d2_49 : decode method_2_code 49 = .ok (.istore_n 1, 1) := by decide +kernel
theorem d2_50 : decode method_2_code 50 = .ok (.iload_n 0, 1) := by decide +kernel
theorem d2_51 : decode method_2_code 51 = .ok (.bipush 16, 2) := by decide +kernel
theorem d2_53 : decode method_2_code 53 = .ok (.iand, 1) := by decide +kernel
theorem d2_54 : decode method_2_code 54 = .ok (.ifCond .eq 9, 3) := by decide +kernel
theorem d2_57 : decode method_2_code 57 = .ok (.iload_n 1, 1) := by decide +kernel
theorem d2_58 : decode method_2_code 58 = .ok (.sipush 4657, 3) := by decide +kernel
theorem d2_61 : decode method_2_code 61 = .ok (.ixor, 1) := by decide +kernel
theorem d2_62 : decode method_2_code 62 = .ok (.istore_n 1, 1) := by decide +kernel
theorem d2_63 : decode method_2_code 63 = .ok (.iload_n 0, 1) := by decide +kernel
theorem d2_64 : decode method_2_code 64 = .ok (.bipush 32, 2) := by decide +kernel
theorem d2_66 : decode method_2_code 66 = .ok (.iand, 1) := by decide +kernel
theorem d2_67 : decode method_2_code 67 = .ok (.ifCond .eq 9, 3) := by decide +kernel
theorem d2_70 : decode method_2_code 70 = .ok (.iload_n 1, 1) := by decide +kernel
theorem d2_71 : decode method_2_code 71 = .ok (.sipush 9314, 3) := by decide +kernel
theorem d2_74 : decode method_2_code 74 = .ok (.ixor, 1) := by decide +kernel
theorem d2_75 : decode method_2_code 75 = .ok (.istore_n 1, 1) := by decide +kernel
theorem d2_76 : decode method_2_code 76 = .ok (.iload_n 0, 1) := by decide +kernel
theorem d2_77 : decode method_2_code 77 = .ok (.bipush 64, 2) := by decide +kernel
theorem d2_79 : decode method_2_code 79 = .ok (.iand, 1) := by decide +kernel
theorem d2_80 : decode method_2_code 80 = .ok (.ifCond .eq 9, 3) := by decide +kernel
theorem d2_83 : decode method_2_code 83 = .ok (.iload_n 1, 1) := by decide +kernel
theorem d2_84 : decode method_2_code 84 = .ok (.sipush 18628, 3) := by decide +kernel
theorem d2_87 : decode method_2_code 87 = .ok (.ixor, 1) := by decide +kernel
theorem d2_88 : decode method_2_code 88 = .ok (.istore_n 1, 1) := by decide +kernel
theorem d2_89 : decode method_2_code 89 = .ok (.iload_n 0, 1) := by decide +kernel
theorem d2_90 : decode method_2_code 90 = .ok (.sipush 128, 3) := by decide +kernel
theorem d2_93 : decode method_2_code 93 = .ok (.iand, 1) := by decide +kernel
theorem d2_94 : decode method_2_code 94 = .ok (.ifCond .eq 8, 3) := by decide +kernel
theorem d2_97 : decode method_2_code 97 = .ok (.iload_n 1, 1) := by decide +kernel
theorem d2_98 : decode method_2_code 98 = .ok (.ldc 8, 2) := by decide +kernel
theorem d2_100 : decode method_2_code 100 = .ok (.ixor, 1) := by decide +kernel
theorem d2_101 : decode method_2_code 101 = .ok (.istore_n 1, 1) := by decide +kernel
theorem d2_102 : decode method_2_code 102 = .ok (.iload_n 1, 1) := by decide +kernel
theorem d2_103 : decode method_2_code 103 = .ok (.ireturn, 1) := by decide +kernel
theorem pn_1 : plainName "keyhalo/KeyHashCrc16PinLaw" = true := by first | (simp [plainName, overriddenIn]; done) | decide +kernel
theorem ef_2 (m : MethodId) (p1 : Int32) : entryFrame m #[(.int p1)] 2 = mkF m 0 #[.val (.int p1), .unset] [] := by first | (simp [entryFrame, mkF, argsToLocals, Value.category]; done) | rfl
def Q2 (Z : State) (p1 : Int32)  (h0 : Heap) (n0 : Nat) (v : Option Value) (h : Heap) (L : List Loc) : Prop := v = some (.int (own_tb p1)) ∧ Fr n0 L ∧ h = h0
set_option maxRecDepth 65536 in
set_option maxHeartbeats 40000000 in
theorem rm2 (l : Launch) (Z : State) (a0 : Array Value) (hw : ∀ d ∈ tables_1, d.before a0 Z = true) (p1 : Int32)  (h0 : Heap) (n0 : Nat) (Z0 : n0 ≤ h0.size)  :
    MetFree l (⟨"keyhalo/KeyHashCrc16PinLaw", "table", "(I)I"⟩ : MethodName) (head1 [Jvm.Cond.code (⟨"keyhalo/KeyHashCrc16PinLaw", "table", "(I)I"⟩ : MethodName) method_2_code 2 (some .int)] ({ frames := 0, cells := 0, slots := 0, locals := 0 } : Room)) (fun a U => a = #[(.int p1)] ∧ Z.Warmed39 U.vm ∧ U.heap = h0) (fun _ _ _ _ _ => True) (fun _ U o U' => ∃ v L, o = .returned v ∧ Q2 Z p1  h0 n0 v U'.heap L ∧ FrameEnd U o U' L ({ frames := 0, cells := 0, slots := 0, locals := 0 } : Room).cells ({ frames := 0, cells := 0, slots := 0, locals := 0 } : Room).slots) := by
  refine MetFree.of_bodySF (plainFor_of_name pn_1) hisR ?_
  intro p e s m args below meth c s₁ Bd hml0 hP hK
  obtain ⟨rfl, hZ, hh⟩ := hP
  have hx := Bd.exec
  have hby := Bd.bytes
  have hlk : meth.locks = false := Bd.notSynchronized
  have hml : c.maxLocals = 2 := hml0
  have hown : s.vm.findClass "keyhalo/KeyHashCrc16PinLaw" = some m.cls := findClass_of_methodNamed Bd.named
  have hnm := (name_of_methodNamed Bd.named Bd.method).1
  have X0 : Stand p l e ({ frames := 0, cells := 0, slots := 0, locals := 0 } : Room) s m #[(.int p1)] below meth c s₁ [] 0 0 := Stand.of_body Bd
  have e0 : s₁.heap = h0 := by rw [← hh, Bd.state]; rfl
  have N0 := Fr.nil n0
  show Gl p e below s (Q2 Z p1  h0 n0) 0 0 s₁ (entryFrame m #[(.int p1)] 2)
  rw [ef_2 m p1]
  refine Gl.st (g' := (mkF m 1 #[.val (.int p1), .unset] [(.int (0 : Int32))])) (fun t k => XT.iconstV X0.here hx rfl (0 : Int32) (hb hby d2_0) rfl k) ?_
  refine Gl.st (g' := (mkF m 2 #[.val (.int p1), .val (.int (0 : Int32))] [])) (fun t k => XS.istoreN X0.here hx rfl (hb hby d2_1) rfl (l' := #[.val (.int p1), .val (.int (0 : Int32))]) rfl k) ?_
  refine Gl.st (g' := (mkF m 3 #[.val (.int p1), .val (.int (0 : Int32))] [(.int p1)])) (fun t k => XS.iloadN X0.here hx rfl (hb hby d2_2) rfl k) ?_
  refine Gl.st (g' := (mkF m 4 #[.val (.int p1), .val (.int (0 : Int32))] [(.int (1 : Int32)), (.int p1)])) (fun t k => XT.iconstV X0.here hx rfl (1 : Int32) (hb hby d2_3) rfl k) ?_
  refine Gl.st (g' := (mkF m 5 #[.val (.int p1), .val (.int (0 : Int32))] [(.int (p1 &&& (1 : Int32)))])) (fun t k => XS.iand X0.here hx rfl (hb hby d2_4) rfl k) ?_
  -- join at 14
  have j1 : ∀ w1 : Int32, w1 = own_t1 (1 : Int32) (4129 : Int32) p1 (0 : Int32) → Gl p e below s (Q2 Z p1  h0 n0) 0 0 s₁ (mkF m 14 #[.val (.int p1), .val (.int w1)] []) := by
    intro w1 hj1
    refine Gl.st (g' := (mkF m 15 #[.val (.int p1), .val (.int w1)] [(.int p1)])) (fun t k => XS.iloadN X0.here hx rfl (hb hby d2_14) rfl k) ?_
    refine Gl.st (g' := (mkF m 16 #[.val (.int p1), .val (.int w1)] [(.int (2 : Int32)), (.int p1)])) (fun t k => XT.iconstV X0.here hx rfl (2 : Int32) (hb hby d2_15) rfl k) ?_
    refine Gl.st (g' := (mkF m 17 #[.val (.int p1), .val (.int w1)] [(.int (p1 &&& (2 : Int32)))])) (fun t k => XS.iand X0.here hx rfl (hb hby d2_16) rfl k) ?_
    -- join at 26
    have j2 : ∀ w2 : Int32, w2 = own_t1 (2 : Int32) (8258 : Int32) p1 w1 → Gl p e below s (Q2 Z p1  h0 n0) 0 0 s₁ (mkF m 26 #[.val (.int p1), .val (.int w2)] []) := by
      intro w2 hj2
      refine Gl.st (g' := (mkF m 27 #[.val (.int p1), .val (.int w2)] [(.int p1)])) (fun t k => XS.iloadN X0.here hx rfl (hb hby d2_26) rfl k) ?_
      refine Gl.st (g' := (mkF m 28 #[.val (.int p1), .val (.int w2)] [(.int (4 : Int32)), (.int p1)])) (fun t k => XT.iconstV X0.here hx rfl (4 : Int32) (hb hby d2_27) rfl k) ?_
      refine Gl.st (g' := (mkF m 29 #[.val (.int p1), .val (.int w2)] [(.int (p1 &&& (4 : Int32)))])) (fun t k => XS.iand X0.here hx rfl (hb hby d2_28) rfl k) ?_
      -- join at 38
      have j3 : ∀ w3 : Int32, w3 = own_t1 (4 : Int32) (16516 : Int32) p1 w2 → Gl p e below s (Q2 Z p1  h0 n0) 0 0 s₁ (mkF m 38 #[.val (.int p1), .val (.int w3)] []) := by
        intro w3 hj3
        refine Gl.st (g' := (mkF m 39 #[.val (.int p1), .val (.int w3)] [(.int p1)])) (fun t k => XS.iloadN X0.here hx rfl (hb hby d2_38) rfl k) ?_
        refine Gl.st (g' := (mkF m 41 #[.val (.int p1), .val (.int w3)] [(.int (8 : Int32)), (.int p1)])) (fun t k => XT.bipushV X0.here hx rfl (8 : Int32) (hb hby d2_39) rfl k) ?_
        refine Gl.st (g' := (mkF m 42 #[.val (.int p1), .val (.int w3)] [(.int (p1 &&& (8 : Int32)))])) (fun t k => XS.iand X0.here hx rfl (hb hby d2_41) rfl k) ?_
        -- join at 50
        have j4 : ∀ w4 : Int32, w4 = own_t1 (8 : Int32) (33032 : Int32) p1 w3 → Gl p e below s (Q2 Z p1  h0 n0) 0 0 s₁ (mkF m 50 #[.val (.int p1), .val (.int w4)] []) := by
          intro w4 hj4
          refine Gl.st (g' := (mkF m 51 #[.val (.int p1), .val (.int w4)] [(.int p1)])) (fun t k => XS.iloadN X0.here hx rfl (hb hby d2_50) rfl k) ?_
          refine Gl.st (g' := (mkF m 53 #[.val (.int p1), .val (.int w4)] [(.int (16 : Int32)), (.int p1)])) (fun t k => XT.bipushV X0.here hx rfl (16 : Int32) (hb hby d2_51) rfl k) ?_
          refine Gl.st (g' := (mkF m 54 #[.val (.int p1), .val (.int w4)] [(.int (p1 &&& (16 : Int32)))])) (fun t k => XS.iand X0.here hx rfl (hb hby d2_53) rfl k) ?_
          -- join at 63
          have j5 : ∀ w5 : Int32, w5 = own_t1 (16 : Int32) (4657 : Int32) p1 w4 → Gl p e below s (Q2 Z p1  h0 n0) 0 0 s₁ (mkF m 63 #[.val (.int p1), .val (.int w5)] []) := by
            intro w5 hj5
            refine Gl.st (g' := (mkF m 64 #[.val (.int p1), .val (.int w5)] [(.int p1)])) (fun t k => XS.iloadN X0.here hx rfl (hb hby d2_63) rfl k) ?_
            refine Gl.st (g' := (mkF m 66 #[.val (.int p1), .val (.int w5)] [(.int (32 : Int32)), (.int p1)])) (fun t k => XT.bipushV X0.here hx rfl (32 : Int32) (hb hby d2_64) rfl k) ?_
            refine Gl.st (g' := (mkF m 67 #[.val (.int p1), .val (.int w5)] [(.int (p1 &&& (32 : Int32)))])) (fun t k => XS.iand X0.here hx rfl (hb hby d2_66) rfl k) ?_
            -- join at 76
            have j6 : ∀ w6 : Int32, w6 = own_t1 (32 : Int32) (9314 : Int32) p1 w5 → Gl p e below s (Q2 Z p1  h0 n0) 0 0 s₁ (mkF m 76 #[.val (.int p1), .val (.int w6)] []) := by
              intro w6 hj6
              refine Gl.st (g' := (mkF m 77 #[.val (.int p1), .val (.int w6)] [(.int p1)])) (fun t k => XS.iloadN X0.here hx rfl (hb hby d2_76) rfl k) ?_
              refine Gl.st (g' := (mkF m 79 #[.val (.int p1), .val (.int w6)] [(.int (64 : Int32)), (.int p1)])) (fun t k => XT.bipushV X0.here hx rfl (64 : Int32) (hb hby d2_77) rfl k) ?_
              refine Gl.st (g' := (mkF m 80 #[.val (.int p1), .val (.int w6)] [(.int (p1 &&& (64 : Int32)))])) (fun t k => XS.iand X0.here hx rfl (hb hby d2_79) rfl k) ?_
              -- join at 89
              have j7 : ∀ w7 : Int32, w7 = own_t1 (64 : Int32) (18628 : Int32) p1 w6 → Gl p e below s (Q2 Z p1  h0 n0) 0 0 s₁ (mkF m 89 #[.val (.int p1), .val (.int w7)] []) := by
                intro w7 hj7
                refine Gl.st (g' := (mkF m 90 #[.val (.int p1), .val (.int w7)] [(.int p1)])) (fun t k => XS.iloadN X0.here hx rfl (hb hby d2_89) rfl k) ?_
                refine Gl.st (g' := (mkF m 93 #[.val (.int p1), .val (.int w7)] [(.int (128 : Int32)), (.int p1)])) (fun t k => XT.sipushV X0.here hx rfl (128 : Int32) (hb hby d2_90) rfl k) ?_
                refine Gl.st (g' := (mkF m 94 #[.val (.int p1), .val (.int w7)] [(.int (p1 &&& (128 : Int32)))])) (fun t k => XS.iand X0.here hx rfl (hb hby d2_93) rfl k) ?_
                -- join at 102
                have j8 : ∀ w8 : Int32, w8 = own_t1 (128 : Int32) (37256 : Int32) p1 w7 → Gl p e below s (Q2 Z p1  h0 n0) 0 0 s₁ (mkF m 102 #[.val (.int p1), .val (.int w8)] []) := by
                  intro w8 hj8
                  refine Gl.st (g' := (mkF m 103 #[.val (.int p1), .val (.int w8)] [(.int w8)])) (fun t k => XS.iloadN X0.here hx rfl (hb hby d2_102) rfl k) ?_
                  refine Gl.retI X0 hx hlk Bd.returns (hb hby d2_103) e0 (by decide) (by decide) ?_
                  subst hj1 hj2 hj3 hj4 hj5 hj6 hj7 hj8
                  exact ⟨rfl, N0, rfl⟩
                by_cases c9 : (p1 &&& (128 : Int32)) = (0 : Int32)
                · skip
                  refine Gl.st (g' := (mkF m 102 #[.val (.int p1), .val (.int w7)] [])) (fun t k => XS.ifYes X0.here hx rfl (pc0 := 94) (pc' := 102) rfl (hb hby d2_94) rfl (XT.i0_eq_t c9) (by decide) (by decide) k) ?_
                  exact j8 _ (by unfold own_t1; rw [if_pos c9])
                · skip
                  refine Gl.st (g' := (mkF m 97 #[.val (.int p1), .val (.int w7)] [])) (fun t k => XS.ifNo X0.here hx rfl (hb hby d2_94) rfl (XT.i0_eq_f c9) k) ?_
                  refine Gl.st (g' := (mkF m 98 #[.val (.int p1), .val (.int w7)] [(.int w7)])) (fun t k => XS.iloadN X0.here hx rfl (hb hby d2_97) rfl k) ?_
                  refine Gl.st (g' := (mkF m 100 #[.val (.int p1), .val (.int w7)] [(.int (37256 : Int32)), (.int w7)])) (fun t k => X0.ldcI hx hown (mvT hZ (hw _ (List.mem_of_getElem? (i := 22) rfl))) rfl (hb hby d2_98) k) ?_
                  refine Gl.st (g' := (mkF m 101 #[.val (.int p1), .val (.int w7)] [(.int (w7 ^^^ (37256 : Int32)))])) (fun t k => XS.ixor X0.here hx rfl (hb hby d2_100) rfl k) ?_
                  refine Gl.st (g' := (mkF m 102 #[.val (.int p1), .val (.int (w7 ^^^ (37256 : Int32)))] [])) (fun t k => XS.istoreN X0.here hx rfl (hb hby d2_101) rfl (l' := #[.val (.int p1), .val (.int (w7 ^^^ (37256 : Int32)))]) rfl k) ?_
                  exact j8 _ (by unfold own_t1; rw [if_neg c9])
              by_cases c10 : (p1 &&& (64 : Int32)) = (0 : Int32)
              · skip
                refine Gl.st (g' := (mkF m 89 #[.val (.int p1), .val (.int w6)] [])) (fun t k => XS.ifYes X0.here hx rfl (pc0 := 80) (pc' := 89) rfl (hb hby d2_80) rfl (XT.i0_eq_t c10) (by decide) (by decide) k) ?_
                exact j7 _ (by unfold own_t1; rw [if_pos c10])
              · skip
                refine Gl.st (g' := (mkF m 83 #[.val (.int p1), .val (.int w6)] [])) (fun t k => XS.ifNo X0.here hx rfl (hb hby d2_80) rfl (XT.i0_eq_f c10) k) ?_
                refine Gl.st (g' := (mkF m 84 #[.val (.int p1), .val (.int w6)] [(.int w6)])) (fun t k => XS.iloadN X0.here hx rfl (hb hby d2_83) rfl k) ?_
                refine Gl.st (g' := (mkF m 87 #[.val (.int p1), .val (.int w6)] [(.int (18628 : Int32)), (.int w6)])) (fun t k => XT.sipushV X0.here hx rfl (18628 : Int32) (hb hby d2_84) rfl k) ?_
                refine Gl.st (g' := (mkF m 88 #[.val (.int p1), .val (.int w6)] [(.int (w6 ^^^ (18628 : Int32)))])) (fun t k => XS.ixor X0.here hx rfl (hb hby d2_87) rfl k) ?_
                refine Gl.st (g' := (mkF m 89 #[.val (.int p1), .val (.int (w6 ^^^ (18628 : Int32)))] [])) (fun t k => XS.istoreN X0.here hx rfl (hb hby d2_88) rfl (l' := #[.val (.int p1), .val (.int (w6 ^^^ (18628 : Int32)))]) rfl k) ?_
                exact j7 _ (by unfold own_t1; rw [if_neg c10])
            by_cases c11 : (p1 &&& (32 : Int32)) = (0 : Int32)
            · skip
              refine Gl.st (g' := (mkF m 76 #[.val (.int p1), .val (.int w5)] [])) (fun t k => XS.ifYes X0.here hx rfl (pc0 := 67) (pc' := 76) rfl (hb hby d2_67) rfl (XT.i0_eq_t c11) (by decide) (by decide) k) ?_
              exact j6 _ (by unfold own_t1; rw [if_pos c11])
            · skip
              refine Gl.st (g' := (mkF m 70 #[.val (.int p1), .val (.int w5)] [])) (fun t k => XS.ifNo X0.here hx rfl (hb hby d2_67) rfl (XT.i0_eq_f c11) k) ?_
              refine Gl.st (g' := (mkF m 71 #[.val (.int p1), .val (.int w5)] [(.int w5)])) (fun t k => XS.iloadN X0.here hx rfl (hb hby d2_70) rfl k) ?_
              refine Gl.st (g' := (mkF m 74 #[.val (.int p1), .val (.int w5)] [(.int (9314 : Int32)), (.int w5)])) (fun t k => XT.sipushV X0.here hx rfl (9314 : Int32) (hb hby d2_71) rfl k) ?_
              refine Gl.st (g' := (mkF m 75 #[.val (.int p1), .val (.int w5)] [(.int (w5 ^^^ (9314 : Int32)))])) (fun t k => XS.ixor X0.here hx rfl (hb hby d2_74) rfl k) ?_
              refine Gl.st (g' := (mkF m 76 #[.val (.int p1), .val (.int (w5 ^^^ (9314 : Int32)))] [])) (fun t k => XS.istoreN X0.here hx rfl (hb hby d2_75) rfl (l' := #[.val (.int p1), .val (.int (w5 ^^^ (9314 : Int32)))]) rfl k) ?_
              exact j6 _ (by unfold own_t1; rw [if_neg c11])
          by_cases c12 : (p1 &&& (16 : Int32)) = (0 : Int32)
          · skip
            refine Gl.st (g' := (mkF m 63 #[.val (.int p1), .val (.int w4)] [])) (fun t k => XS.ifYes X0.here hx rfl (pc0 := 54) (pc' := 63) rfl (hb hby d2_54) rfl (XT.i0_eq_t c12) (by decide) (by decide) k) ?_
            exact j5 _ (by unfold own_t1; rw [if_pos c12])
          · skip
            refine Gl.st (g' := (mkF m 57 #[.val (.int p1), .val (.int w4)] [])) (fun t k => XS.ifNo X0.here hx rfl (hb hby d2_54) rfl (XT.i0_eq_f c12) k) ?_
            refine Gl.st (g' := (mkF m 58 #[.val (.int p1), .val (.int w4)] [(.int w4)])) (fun t k => XS.iloadN X0.here hx rfl (hb hby d2_57) rfl k) ?_
            refine Gl.st (g' := (mkF m 61 #[.val (.int p1), .val (.int w4)] [(.int (4657 : Int32)), (.int w4)])) (fun t k => XT.sipushV X0.here hx rfl (4657 : Int32) (hb hby d2_58) rfl k) ?_
            refine Gl.st (g' := (mkF m 62 #[.val (.int p1), .val (.int w4)] [(.int (w4 ^^^ (4657 : Int32)))])) (fun t k => XS.ixor X0.here hx rfl (hb hby d2_61) rfl k) ?_
            refine Gl.st (g' := (mkF m 63 #[.val (.int p1), .val (.int (w4 ^^^ (4657 : Int32)))] [])) (fun t k => XS.istoreN X0.here hx rfl (hb hby d2_62) rfl (l' := #[.val (.int p1), .val (.int (w4 ^^^ (4657 : Int32)))]) rfl k) ?_
            exact j5 _ (by unfold own_t1; rw [if_neg c12])
        by_cases c13 : (p1 &&& (8 : Int32)) = (0 : Int32)
        · skip
          refine Gl.st (g' := (mkF m 50 #[.val (.int p1), .val (.int w3)] [])) (fun t k => XS.ifYes X0.here hx rfl (pc0 := 42) (pc' := 50) rfl (hb hby d2_42) rfl (XT.i0_eq_t c13) (by decide) (by decide) k) ?_
          exact j4 _ (by unfold own_t1; rw [if_pos c13])
        · skip
          refine Gl.st (g' := (mkF m 45 #[.val (.int p1), .val (.int w3)] [])) (fun t k => XS.ifNo X0.here hx rfl (hb hby d2_42) rfl (XT.i0_eq_f c13) k) ?_
          refine Gl.st (g' := (mkF m 46 #[.val (.int p1), .val (.int w3)] [(.int w3)])) (fun t k => XS.iloadN X0.here hx rfl (hb hby d2_45) rfl k) ?_
          refine Gl.st (g' := (mkF m 48 #[.val (.int p1), .val (.int w3)] [(.int (33032 : Int32)), (.int w3)])) (fun t k => X0.ldcI hx hown (mvT hZ (hw _ (List.mem_of_getElem? (i := 21) rfl))) rfl (hb hby d2_46) k) ?_
          refine Gl.st (g' := (mkF m 49 #[.val (.int p1), .val (.int w3)] [(.int (w3 ^^^ (33032 : Int32)))])) (fun t k => XS.ixor X0.here hx rfl (hb hby d2_48) rfl k) ?_
          refine Gl.st (g' := (mkF m 50 #[.val (.int p1), .val (.int (w3 ^^^ (33032 : Int32)))] [])) (fun t k => XS.istoreN X0.here hx rfl (hb hby d2_49) rfl (l' := #[.val (.int p1), .val (.int (w3 ^^^ (33032 : Int32)))]) rfl k) ?_
          exact j4 _ (by unfold own_t1; rw [if_neg c13])
      by_cases c14 : (p1 &&& (4 : Int32)) = (0 : Int32)
      · skip
        refine Gl.st (g' := (mkF m 38 #[.val (.int p1), .val (.int w2)] [])) (fun t k => XS.ifYes X0.here hx rfl (pc0 := 29) (pc' := 38) rfl (hb hby d2_29) rfl (XT.i0_eq_t c14) (by decide) (by decide) k) ?_
        exact j3 _ (by unfold own_t1; rw [if_pos c14])
      · skip
        refine Gl.st (g' := (mkF m 32 #[.val (.int p1), .val (.int w2)] [])) (fun t k => XS.ifNo X0.here hx rfl (hb hby d2_29) rfl (XT.i0_eq_f c14) k) ?_
        refine Gl.st (g' := (mkF m 33 #[.val (.int p1), .val (.int w2)] [(.int w2)])) (fun t k => XS.iloadN X0.here hx rfl (hb hby d2_32) rfl k) ?_
        refine Gl.st (g' := (mkF m 36 #[.val (.int p1), .val (.int w2)] [(.int (16516 : Int32)), (.int w2)])) (fun t k => XT.sipushV X0.here hx rfl (16516 : Int32) (hb hby d2_33) rfl k) ?_
        refine Gl.st (g' := (mkF m 37 #[.val (.int p1), .val (.int w2)] [(.int (w2 ^^^ (16516 : Int32)))])) (fun t k => XS.ixor X0.here hx rfl (hb hby d2_36) rfl k) ?_
        refine Gl.st (g' := (mkF m 38 #[.val (.int p1), .val (.int (w2 ^^^ (16516 : Int32)))] [])) (fun t k => XS.istoreN X0.here hx rfl (hb hby d2_37) rfl (l' := #[.val (.int p1), .val (.int (w2 ^^^ (16516 : Int32)))]) rfl k) ?_
        exact j3 _ (by unfold own_t1; rw [if_neg c14])
    by_cases c15 : (p1 &&& (2 : Int32)) = (0 : Int32)
    · skip
      refine Gl.st (g' := (mkF m 26 #[.val (.int p1), .val (.int w1)] [])) (fun t k => XS.ifYes X0.here hx rfl (pc0 := 17) (pc' := 26) rfl (hb hby d2_17) rfl (XT.i0_eq_t c15) (by decide) (by decide) k) ?_
      exact j2 _ (by unfold own_t1; rw [if_pos c15])
    · skip
      refine Gl.st (g' := (mkF m 20 #[.val (.int p1), .val (.int w1)] [])) (fun t k => XS.ifNo X0.here hx rfl (hb hby d2_17) rfl (XT.i0_eq_f c15) k) ?_
      refine Gl.st (g' := (mkF m 21 #[.val (.int p1), .val (.int w1)] [(.int w1)])) (fun t k => XS.iloadN X0.here hx rfl (hb hby d2_20) rfl k) ?_
      refine Gl.st (g' := (mkF m 24 #[.val (.int p1), .val (.int w1)] [(.int (8258 : Int32)), (.int w1)])) (fun t k => XT.sipushV X0.here hx rfl (8258 : Int32) (hb hby d2_21) rfl k) ?_
      refine Gl.st (g' := (mkF m 25 #[.val (.int p1), .val (.int w1)] [(.int (w1 ^^^ (8258 : Int32)))])) (fun t k => XS.ixor X0.here hx rfl (hb hby d2_24) rfl k) ?_
      refine Gl.st (g' := (mkF m 26 #[.val (.int p1), .val (.int (w1 ^^^ (8258 : Int32)))] [])) (fun t k => XS.istoreN X0.here hx rfl (hb hby d2_25) rfl (l' := #[.val (.int p1), .val (.int (w1 ^^^ (8258 : Int32)))]) rfl k) ?_
      exact j2 _ (by unfold own_t1; rw [if_neg c15])
  by_cases c16 : (p1 &&& (1 : Int32)) = (0 : Int32)
  · skip
    refine Gl.st (g' := (mkF m 14 #[.val (.int p1), .val (.int (0 : Int32))] [])) (fun t k => XS.ifYes X0.here hx rfl (pc0 := 5) (pc' := 14) rfl (hb hby d2_5) rfl (XT.i0_eq_t c16) (by decide) (by decide) k) ?_
    exact j1 _ (by unfold own_t1; rw [if_pos c16])
  · skip
    refine Gl.st (g' := (mkF m 8 #[.val (.int p1), .val (.int (0 : Int32))] [])) (fun t k => XS.ifNo X0.here hx rfl (hb hby d2_5) rfl (XT.i0_eq_f c16) k) ?_
    refine Gl.st (g' := (mkF m 9 #[.val (.int p1), .val (.int (0 : Int32))] [(.int (0 : Int32))])) (fun t k => XS.iloadN X0.here hx rfl (hb hby d2_8) rfl k) ?_
    refine Gl.st (g' := (mkF m 12 #[.val (.int p1), .val (.int (0 : Int32))] [(.int (4129 : Int32)), (.int (0 : Int32))])) (fun t k => XT.sipushV X0.here hx rfl (4129 : Int32) (hb hby d2_9) rfl k) ?_
    refine Gl.st (g' := (mkF m 13 #[.val (.int p1), .val (.int (0 : Int32))] [(.int ((0 : Int32) ^^^ (4129 : Int32)))])) (fun t k => XS.ixor X0.here hx rfl (hb hby d2_12) rfl k) ?_
    refine Gl.st (g' := (mkF m 14 #[.val (.int p1), .val (.int ((0 : Int32) ^^^ (4129 : Int32)))] [])) (fun t k => XS.istoreN X0.here hx rfl (hb hby d2_13) rfl (l' := #[.val (.int p1), .val (.int ((0 : Int32) ^^^ (4129 : Int32)))]) rfl k) ?_
    exact j1 _ (by unfold own_t1; rw [if_neg c16])
theorem pd_0 : parseMethodDescriptor "(I)J" = some ⟨[.int], some .long⟩ := by decide +kernel
theorem pd_1 : parseMethodDescriptor "(I)I" = some ⟨[.int], some .int⟩ := by decide +kernel
theorem d3_0 : decode method_3_code 0 = .ok (.iload_n 0, 1) := by decide +kernel
theorem d3_1 : decode method_3_code 1 = .ok (.bipush 8, 2) := by decide +kernel
theorem d3_3 : decode method_3_code 3 = .ok (.iushr, 1) := by decide +kernel
theorem d3_4 : decode method_3_code 4 = .ok (.sipush 255, 3) := by decide +kernel
theorem d3_7 : decode method_3_code 7 = .ok (.iand, 1) := by decide +kernel
theorem d3_8 : decode method_3_code 8 = .ok (.iload_n 1, 1) := by decide +kernel
theorem d3_9 : decode method_3_code 9 = .ok (.sipush 255, 3) := by decide +kernel
theorem d3_12 : decode method_3_code 12 = .ok (.iand, 1) := by decide +kernel
theorem d3_13 : decode method_3_code 13 = .ok (.ixor, 1) := by decide +kernel
theorem d3_14 : decode method_3_code 14 = .ok (.istore_n 2, 1) := by decide +kernel
theorem d3_15 : decode method_3_code 15 = .ok (.iload_n 0, 1) := by decide +kernel
theorem d3_16 : decode method_3_code 16 = .ok (.bipush 8, 2) := by decide +kernel
theorem d3_18 : decode method_3_code 18 = .ok (.ishl, 1) := by decide +kernel
theorem d3_19 : decode method_3_code 19 = .ok (.iload_n 2, 1) := by decide +kernel
theorem d3_20 : decode method_3_code 20 = .ok (.invokestatic 9, 3) := by decide +kernel
theorem d3_23 : decode method_3_code 23 = .ok (.ixor, 1) := by decide +kernel
theorem d3_24 : decode method_3_code 24 = .ok (.ireturn, 1) := by decide +kernel
theorem ef_3 (m : MethodId) (p1 : Int32) (p2 : Int32) : entryFrame m #[(.int p1), (.int p2)] 3 = mkF m 0 #[.val (.int p1), .val (.int p2), .unset] [] := by first | (simp [entryFrame, mkF, argsToLocals, Value.category]; done) | rfl
def Q3 (Z : State) (p1 : Int32) (p2 : Int32)  (h0 : Heap) (n0 : Nat) (v : Option Value) (h : Heap) (L : List Loc) : Prop := v = some (.int (own_cl p1 p2)) ∧ Fr n0 L ∧ h = h0
set_option maxRecDepth 65536 in
set_option maxHeartbeats 40000000 in
theorem rm3 (l : Launch) (Z : State) (a0 : Array Value) (hw : ∀ d ∈ tables_1, d.before a0 Z = true) (p1 : Int32) (p2 : Int32)  (h0 : Heap) (n0 : Nat) (Z0 : n0 ≤ h0.size)  :
    MetFree l (⟨"keyhalo/KeyHashCrc16PinLaw", "step", "(IB)I"⟩ : MethodName) (head1 [Jvm.Cond.code (⟨"keyhalo/KeyHashCrc16PinLaw", "step", "(IB)I"⟩ : MethodName) method_3_code 3 (some .int)] ({ frames := 1, cells := 0, slots := 0, locals := 14 } : Room)) (fun a U => a = #[(.int p1), (.int p2)] ∧ Z.Warmed39 U.vm ∧ U.heap = h0) (fun _ _ _ _ _ => True) (fun _ U o U' => ∃ v L, o = .returned v ∧ Q3 Z p1 p2  h0 n0 v U'.heap L ∧ FrameEnd U o U' L ({ frames := 1, cells := 0, slots := 0, locals := 14 } : Room).cells ({ frames := 1, cells := 0, slots := 0, locals := 14 } : Room).slots) := by
  refine MetFree.of_bodySF (plainFor_of_name pn_1) hisR ?_
  intro p e s m args below meth c s₁ Bd hml0 hP hK
  obtain ⟨rfl, hZ, hh⟩ := hP
  have hx := Bd.exec
  have hby := Bd.bytes
  have hlk : meth.locks = false := Bd.notSynchronized
  have hml : c.maxLocals = 3 := hml0
  have hown : s.vm.findClass "keyhalo/KeyHashCrc16PinLaw" = some m.cls := findClass_of_methodNamed Bd.named
  have hnm := (name_of_methodNamed Bd.named Bd.method).1
  have X0 : Stand p l e ({ frames := 1, cells := 0, slots := 0, locals := 14 } : Room) s m #[(.int p1), (.int p2)] below meth c s₁ [] 0 0 := Stand.of_body Bd
  have e0 : s₁.heap = h0 := by rw [← hh, Bd.state]; rfl
  have N0 := Fr.nil n0
  show Gl p e below s (Q3 Z p1 p2  h0 n0) 0 0 s₁ (entryFrame m #[(.int p1), (.int p2)] 3)
  rw [ef_3 m p1 p2]
  refine Gl.st (g' := (mkF m 1 #[.val (.int p1), .val (.int p2), .unset] [(.int p1)])) (fun t k => XS.iloadN X0.here hx rfl (hb hby d3_0) rfl k) ?_
  refine Gl.st (g' := (mkF m 3 #[.val (.int p1), .val (.int p2), .unset] [(.int (8 : Int32)), (.int p1)])) (fun t k => XT.bipushV X0.here hx rfl (8 : Int32) (hb hby d3_1) rfl k) ?_
  refine Gl.st (g' := (mkF m 4 #[.val (.int p1), .val (.int p2), .unset] [(.int (XT.ushr p1 (8 : Int32)))])) (fun t k => XT.iushr X0.here hx rfl (hb hby d3_3) rfl k) ?_
  refine Gl.st (g' := (mkF m 7 #[.val (.int p1), .val (.int p2), .unset] [(.int (255 : Int32)), (.int (XT.ushr p1 (8 : Int32)))])) (fun t k => XT.sipushV X0.here hx rfl (255 : Int32) (hb hby d3_4) rfl k) ?_
  refine Gl.st (g' := (mkF m 8 #[.val (.int p1), .val (.int p2), .unset] [(.int ((XT.ushr p1 (8 : Int32)) &&& (255 : Int32)))])) (fun t k => XS.iand X0.here hx rfl (hb hby d3_7) rfl k) ?_
  refine Gl.st (g' := (mkF m 9 #[.val (.int p1), .val (.int p2), .unset] [(.int p2), (.int ((XT.ushr p1 (8 : Int32)) &&& (255 : Int32)))])) (fun t k => XS.iloadN X0.here hx rfl (hb hby d3_8) rfl k) ?_
  refine Gl.st (g' := (mkF m 12 #[.val (.int p1), .val (.int p2), .unset] [(.int (255 : Int32)), (.int p2), (.int ((XT.ushr p1 (8 : Int32)) &&& (255 : Int32)))])) (fun t k => XT.sipushV X0.here hx rfl (255 : Int32) (hb hby d3_9) rfl k) ?_
  refine Gl.st (g' := (mkF m 13 #[.val (.int p1), .val (.int p2), .unset] [(.int (p2 &&& (255 : Int32))), (.int ((XT.ushr p1 (8 : Int32)) &&& (255 : Int32)))])) (fun t k => XS.iand X0.here hx rfl (hb hby d3_12) rfl k) ?_
  refine Gl.st (g' := (mkF m 14 #[.val (.int p1), .val (.int p2), .unset] [(.int (((XT.ushr p1 (8 : Int32)) &&& (255 : Int32)) ^^^ (p2 &&& (255 : Int32))))])) (fun t k => XS.ixor X0.here hx rfl (hb hby d3_13) rfl k) ?_
  refine Gl.st (g' := (mkF m 15 #[.val (.int p1), .val (.int p2), .val (.int (((XT.ushr p1 (8 : Int32)) &&& (255 : Int32)) ^^^ (p2 &&& (255 : Int32))))] [])) (fun t k => XS.istoreN X0.here hx rfl (hb hby d3_14) rfl (l' := #[.val (.int p1), .val (.int p2), .val (.int (((XT.ushr p1 (8 : Int32)) &&& (255 : Int32)) ^^^ (p2 &&& (255 : Int32))))]) rfl k) ?_
  refine Gl.st (g' := (mkF m 16 #[.val (.int p1), .val (.int p2), .val (.int (((XT.ushr p1 (8 : Int32)) &&& (255 : Int32)) ^^^ (p2 &&& (255 : Int32))))] [(.int p1)])) (fun t k => XS.iloadN X0.here hx rfl (hb hby d3_15) rfl k) ?_
  refine Gl.st (g' := (mkF m 18 #[.val (.int p1), .val (.int p2), .val (.int (((XT.ushr p1 (8 : Int32)) &&& (255 : Int32)) ^^^ (p2 &&& (255 : Int32))))] [(.int (8 : Int32)), (.int p1)])) (fun t k => XT.bipushV X0.here hx rfl (8 : Int32) (hb hby d3_16) rfl k) ?_
  refine Gl.st (g' := (mkF m 19 #[.val (.int p1), .val (.int p2), .val (.int (((XT.ushr p1 (8 : Int32)) &&& (255 : Int32)) ^^^ (p2 &&& (255 : Int32))))] [(.int (p1 <<< ((8 : Int32) &&& 31)))])) (fun t k => XS.ishl X0.here hx rfl (hb hby d3_18) rfl k) ?_
  refine Gl.st (g' := (mkF m 20 #[.val (.int p1), .val (.int p2), .val (.int (((XT.ushr p1 (8 : Int32)) &&& (255 : Int32)) ^^^ (p2 &&& (255 : Int32))))] [(.int (((XT.ushr p1 (8 : Int32)) &&& (255 : Int32)) ^^^ (p2 &&& (255 : Int32)))), (.int (p1 <<< ((8 : Int32) &&& 31)))])) (fun t k => XS.iloadN X0.here hx rfl (hb hby d3_19) rfl k) ?_
  obtain ⟨_, _, ⟨T17, L17, k17, n17⟩, -, X17, ⟨Lc17, hQ17, l17, y17, z17⟩, st17⟩ := Jvm.LawKit.callS X0 hx (y := (⟨"keyhalo/KeyHashCrc16PinLaw", "table", "(I)I"⟩ : MethodName)) hown (mvT hZ (hw _ (List.mem_of_getElem? (i := 6) rfl))) (mvT hZ (hw _ (List.mem_of_getElem? (i := 7) rfl))) (mvT hZ (hw _ (List.mem_of_getElem? (i := 4) rfl))) (mvT hZ (hw _ (List.mem_of_getElem? (i := 8) rfl))) (by decide) (backOf (W := 1) (rm2 l Z a0 hw (((XT.ushr p1 (8 : Int32)) &&& (255 : Int32)) ^^^ (p2 &&& (255 : Int32)))  h0 n0 Z0 ) hZ (hw _ (List.mem_of_getElem? (i := 8) rfl)) (hw _ (List.mem_of_getElem? (i := 4) rfl)) (by decide) (by decide)) (g := (mkF m 20 #[.val (.int p1), .val (.int p2), .val (.int (((XT.ushr p1 (8 : Int32)) &&& (255 : Int32)) ^^^ (p2 &&& (255 : Int32))))] [(.int (((XT.ushr p1 (8 : Int32)) &&& (255 : Int32)) ^^^ (p2 &&& (255 : Int32)))), (.int (p1 <<< ((8 : Int32) &&& 31)))])) rfl (by rw [hml]; rfl) (argsL := [(.int (((XT.ushr p1 (8 : Int32)) &&& (255 : Int32)) ^^^ (p2 &&& (255 : Int32))))]) (rest := [(.int (p1 <<< ((8 : Int32) &&& 31)))]) (lenOf pd_1 rfl) rfl (by show 2 * 0 + _ ≤ _; exact Nat.le_of_eq rfl) (hb hby d3_20) (fun _ _ => ⟨rfl, e0, (by decide : 0 + 0 ≤ _), (by decide : 0 + 0 ≤ _)⟩)
  dsimp only [Pt.U, Pt.locs, Pt.cells, Pt.slots] at X17 l17 y17 z17 st17 hQ17
  subst l17 y17 z17
  obtain ⟨rfl, Nq17, e17⟩ := hQ17
  have N17 := Fr.app N0 Nq17
  refine Gl.st (g' := (mkF m 23 #[.val (.int p1), .val (.int p2), .val (.int (((XT.ushr p1 (8 : Int32)) &&& (255 : Int32)) ^^^ (p2 &&& (255 : Int32))))] [(.int (own_tb (((XT.ushr p1 (8 : Int32)) &&& (255 : Int32)) ^^^ (p2 &&& (255 : Int32))))), (.int (p1 <<< ((8 : Int32) &&& 31)))])) st17 ?_
  refine Gl.st (g' := (mkF m 24 #[.val (.int p1), .val (.int p2), .val (.int (((XT.ushr p1 (8 : Int32)) &&& (255 : Int32)) ^^^ (p2 &&& (255 : Int32))))] [(.int ((p1 <<< ((8 : Int32) &&& 31)) ^^^ (own_tb (((XT.ushr p1 (8 : Int32)) &&& (255 : Int32)) ^^^ (p2 &&& (255 : Int32))))))])) (fun t k => XS.ixor X17.here hx rfl (hb hby d3_23) rfl k) ?_
  refine Gl.retI X17 hx hlk Bd.returns (hb hby d3_24) e17 (by decide) (by decide) ?_
  exact ⟨rfl, N17, rfl⟩
theorem pd_2 : parseMethodDescriptor "(IB)I" = some ⟨[.int, .byte], some .int⟩ := by decide +kernel
theorem d4_0 : decode prog_4_method_6_code 0 = .ok (.iconst 0, 1) := by decide +kernel
theorem d4_1 : decode prog_4_method_6_code 1 = .ok (.istore_n 2, 1) := by decide +kernel
theorem d4_2 : decode prog_4_method_6_code 2 = .ok (.iconst 0, 1) := by decide +kernel
theorem d4_3 : decode prog_4_method_6_code 3 = .ok (.istore_n 3, 1) := by decide +kernel
theorem d4_4 : decode prog_4_method_6_code 4 = .ok (.iload_n 3, 1) := by decide +kernel
theorem d4_5 : decode prog_4_method_6_code 5 = .ok (.iload_n 1, 1) := by decide +kernel
theorem d4_6 : decode prog_4_method_6_code 6 = .ok (.if_icmp .ge 82, 3) := by decide +kernel
theorem d4_9 : decode prog_4_method_6_code 9 = .ok (.iload_n 2, 1) := by decide +kernel
theorem d4_10 : decode prog_4_method_6_code 10 = .ok (.bipush 8, 2) := by decide +kernel
theorem d4_12 : decode prog_4_method_6_code 12 = .ok (.iushr, 1) := by decide +kernel
theorem d4_13 : decode prog_4_method_6_code 13 = .ok (.aload_n 0, 1) := by decide +kernel
theorem d4_14 : decode prog_4_method_6_code 14 = .ok (.iload_n 3, 1) := by decide +kernel
theorem d4_15 : decode prog_4_method_6_code 15 = .ok (.baload, 1) := by decide +kernel
theorem d4_16 : decode prog_4_method_6_code 16 = .ok (.ixor, 1) := by decide +kernel
theorem d4_17 : decode prog_4_method_6_code 17 = .ok (.sipush 255, 3) := by decide +kernel
theorem d4_20 : decode prog_4_method_6_code 20 = .ok (.iand, 1) := by decide +kernel
theorem d4_21 : decode prog_4_method_6_code 21 = .ok (.istore 4, 2) := by decide +kernel
theorem d4_23 : decode prog_4_method_6_code 23 = .ok (.iload 4, 2) := by decide +kernel
theorem d4_25 : decode prog_4_method_6_code 25 = .ok (.bipush 8, 2) := by decide +kernel
theorem d4_27 : decode prog_4_method_6_code 27 = .ok (.ishl, 1) := by decide +kernel
theorem d4_28 : decode prog_4_method_6_code 28 = .ok (.istore 4, 2) := by decide +kernel
theorem d4_30 : decode prog_4_method_6_code 30 = .ok (.iconst 0, 1) := by decide +kernel
theorem d4_31 : decode prog_4_method_6_code 31 = .ok (.istore 5, 2) := by decide +kernel
theorem d4_33 : decode prog_4_method_6_code 33 = .ok (.iload 5, 2) := by decide +kernel
theorem d4_35 : decode prog_4_method_6_code 35 = .ok (.bipush 8, 2) := by decide +kernel
theorem d4_37 : decode prog_4_method_6_code 37 = .ok (.if_icmp .ge 34, 3) := by decide +kernel
theorem d4_40 : decode prog_4_method_6_code 40 = .ok (.iload 4, 2) := by decide +kernel
theorem d4_42 : decode prog_4_method_6_code 42 = .ok (.ldc 46, 2) := by decide +kernel
theorem d4_44 : decode prog_4_method_6_code 44 = .ok (.iand, 1) := by decide +kernel
theorem d4_45 : decode prog_4_method_6_code 45 = .ok (.ifCond .eq 14, 3) := by decide +kernel
theorem d4_48 : decode prog_4_method_6_code 48 = .ok (.iload 4, 2) := by decide +kernel
theorem d4_50 : decode prog_4_method_6_code 50 = .ok (.iconst 1, 1) := by decide +kernel
theorem d4_51 : decode prog_4_method_6_code 51 = .ok (.ishl, 1) := by decide +kernel
theorem d4_52 : decode prog_4_method_6_code 52 = .ok (.sipush 4129, 3) := by decide +kernel
theorem d4_55 : decode prog_4_method_6_code 55 = .ok (.ixor, 1) := by decide +kernel
theorem d4_56 : decode prog_4_method_6_code 56 = .ok (.goto 7, 3) := by decide +kernel
theorem d4_59 : decode prog_4_method_6_code 59 = .ok (.iload 4, 2) := by decide +kernel
theorem d4_61 : decode prog_4_method_6_code 61 = .ok (.iconst 1, 1) := by decide +kernel
theorem d4_62 : decode prog_4_method_6_code 62 = .ok (.ishl, 1) := by decide +kernel
theorem d4_63 : decode prog_4_method_6_code 63 = .ok (.istore 4, 2) := by decide +kernel
theorem d4_65 : decode prog_4_method_6_code 65 = .ok (.iinc 5 1, 3) := by decide +kernel
theorem d4_68 : decode prog_4_method_6_code 68 = .ok (.goto (-35), 3) := by decide +kernel
theorem d4_71 : decode prog_4_method_6_code 71 = .ok (.iload_n 2, 1) := by decide +kernel
theorem d4_72 : decode prog_4_method_6_code 72 = .ok (.bipush 8, 2) := by decide +kernel
theorem d4_74 : decode prog_4_method_6_code 74 = .ok (.ishl, 1) := by decide +kernel
theorem d4_75 : decode prog_4_method_6_code 75 = .ok (.iload 4, 2) := by decide +kernel
theorem d4_77 : decode prog_4_method_6_code 77 = .ok (.ldc 47, 2) := by decide +kernel
theorem d4_79 : decode prog_4_method_6_code 79 = .ok (.iand, 1) := by decide +kernel
theorem d4_80 : decode prog_4_method_6_code 80 = .ok (.ixor, 1) := by decide +kernel
theorem d4_81 : decode prog_4_method_6_code 81 = .ok (.istore_n 2, 1) := by decide +kernel
theorem d4_82 : decode prog_4_method_6_code 82 = .ok (.iinc 3 1, 3) := by decide +kernel
theorem d4_85 : decode prog_4_method_6_code 85 = .ok (.goto (-81), 3) := by decide +kernel
theorem d4_88 : decode prog_4_method_6_code 88 = .ok (.iload_n 2, 1) := by decide +kernel
theorem d4_89 : decode prog_4_method_6_code 89 = .ok (.invokestatic 19, 3) := by decide +kernel
theorem d4_92 : decode prog_4_method_6_code 92 = .ok (.lreturn, 1) := by decide +kernel
theorem pn_2 : plainName "keyhalo/KeyHash" = true := by first | (simp [plainName, overriddenIn]; done) | decide +kernel
theorem ef_4 (m : MethodId) (p1 : Addr) (p2 : Int32) : entryFrame m #[(.ref p1), (.int p2)] 6 = mkF m 0 #[.val (.ref p1), .val (.int p2), .unset, .unset, .unset, .unset] [] := by first | (simp [entryFrame, mkF, argsToLocals, Value.category]; done) | rfl
def Q4 (Z : State) (p1 : Addr) (p2 : Int32) (ys : List Int32) (nn : Nat) (kA : ClassId) (zz : Int32) (h0 : Heap) (n0 : Nat) (v : Option Value) (h : Heap) (L : List Loc) : Prop := v = some (.long (own_crc ys nn)) ∧ Fr n0 L ∧ h = h0
set_option maxRecDepth 65536 in
set_option maxHeartbeats 40000000 in
theorem rm4 (l : Launch) (Z : State) (a0 : Array Value) (hw : ∀ d ∈ tables_1, d.before a0 Z = true) (p1 : Addr) (p2 : Int32) (ys : List Int32) (nn : Nat) (kA : ClassId) (zz : Int32) (h0 : Heap) (n0 : Nat) (Z0 : n0 ≤ h0.size) (F : Arv Z h0 p1 kA .byte zz (ys.map Value.int) (.int (0 : Int32))) (hn : p2 = Int32.ofNat nn) (hl : nn ≤ ys.length) (hz : zz = Int32.ofNat ys.length) (hs : ys.length ≤ 16) :
    MetFree l (⟨"keyhalo/KeyHash", "crc16", "([BI)J"⟩ : MethodName) (head1 [Jvm.Cond.code (⟨"keyhalo/KeyHash", "crc16", "([BI)J"⟩ : MethodName) prog_4_method_6_code 6 (some .long)] ({ frames := 1, cells := 0, slots := 0, locals := 12 } : Room)) (fun a U => a = #[(.ref p1), (.int p2)] ∧ Z.Warmed39 U.vm ∧ U.heap = h0) (fun _ _ _ _ _ => True) (fun _ U o U' => ∃ v L, o = .returned v ∧ Q4 Z p1 p2 ys nn kA zz h0 n0 v U'.heap L ∧ FrameEnd U o U' L ({ frames := 1, cells := 0, slots := 0, locals := 12 } : Room).cells ({ frames := 1, cells := 0, slots := 0, locals := 12 } : Room).slots) := by
  refine MetFree.of_bodySF (plainFor_of_name pn_2) hisR ?_
  intro p e s m args below meth c s₁ Bd hml0 hP hK
  obtain ⟨rfl, hZ, hh⟩ := hP
  have hx := Bd.exec
  have hby := Bd.bytes
  have hlk : meth.locks = false := Bd.notSynchronized
  have hml : c.maxLocals = 6 := hml0
  have hown : s.vm.findClass "keyhalo/KeyHash" = some m.cls := findClass_of_methodNamed Bd.named
  have hnm := (name_of_methodNamed Bd.named Bd.method).1
  have X0 : Stand p l e ({ frames := 1, cells := 0, slots := 0, locals := 12 } : Room) s m #[(.ref p1), (.int p2)] below meth c s₁ [] 0 0 := Stand.of_body Bd
  have e0 : s₁.heap = h0 := by rw [← hh, Bd.state]; rfl
  have N0 := Fr.nil n0
  show Gl p e below s (Q4 Z p1 p2 ys nn kA zz h0 n0) 0 0 s₁ (entryFrame m #[(.ref p1), (.int p2)] 6)
  rw [ef_4 m p1 p2]
  refine Gl.st (g' := (mkF m 1 #[.val (.ref p1), .val (.int p2), .unset, .unset, .unset, .unset] [(.int (0 : Int32))])) (fun t k => XT.iconstV X0.here hx rfl (0 : Int32) (hb hby d4_0) rfl k) ?_
  refine Gl.st (g' := (mkF m 2 #[.val (.ref p1), .val (.int p2), .val (.int (0 : Int32)), .unset, .unset, .unset] [])) (fun t k => XS.istoreN X0.here hx rfl (hb hby d4_1) rfl (l' := #[.val (.ref p1), .val (.int p2), .val (.int (0 : Int32)), .unset, .unset, .unset]) rfl k) ?_
  refine Gl.st (g' := (mkF m 3 #[.val (.ref p1), .val (.int p2), .val (.int (0 : Int32)), .unset, .unset, .unset] [(.int (0 : Int32))])) (fun t k => XT.iconstV X0.here hx rfl (0 : Int32) (hb hby d4_2) rfl k) ?_
  refine Gl.st (g' := (mkF m 4 #[.val (.ref p1), .val (.int p2), .val (.int (0 : Int32)), .val (.int (0 : Int32)), .unset, .unset] [])) (fun t k => XS.istoreN X0.here hx rfl (hb hby d4_3) rfl (l' := #[.val (.ref p1), .val (.int p2), .val (.int (0 : Int32)), .val (.int (0 : Int32)), .unset, .unset]) rfl k) ?_
  have loop : ∀ (k i : Nat) (hh : Int32) (s4 s5 : Slot), (s4 = .unset ∨ ∃ w : Value, s4 = .val w ∧ w.category = 1) → (s5 = .unset ∨ ∃ w : Value, s5 = .val w ∧ w.category = 1) → i + k = nn → List.foldl own_cs hh ((ys.drop i).take k) = List.foldl own_cs 0 (ys.take nn) → Gl p e below s (Q4 Z p1 p2 ys nn kA zz h0 n0) 0 0 s₁ (mkF m 4 #[.val (.ref p1), .val (.int p2), .val (.int hh), .val (.int (Int32.ofNat i)), s4, s5] []) := by
    intro k
    induction k with
    | zero =>
      intro i hh s4 s5 hs4 hs5 hik hf
      have hi : i = nn := by omega
      have hf0 : hh = List.foldl own_cs 0 (ys.take nn) := hf
      refine Gl.st (g' := (mkF m 5 #[.val (.ref p1), .val (.int p2), .val (.int hh), .val (.int (Int32.ofNat i)), s4, s5] [(.int (Int32.ofNat i))])) (fun t k => XS.iloadN X0.here hx rfl (hb hby d4_4) rfl k) ?_
      refine Gl.st (g' := (mkF m 6 #[.val (.ref p1), .val (.int p2), .val (.int hh), .val (.int (Int32.ofNat i)), s4, s5] [(.int p2), (.int (Int32.ofNat i))])) (fun t k => XS.iloadN X0.here hx rfl (hb hby d4_5) rfl k) ?_
      refine Gl.st (g' := (mkF m 88 #[.val (.ref p1), .val (.int p2), .val (.int hh), .val (.int (Int32.ofNat i)), s4, s5] [])) (fun t k => XS.icmpYes X0.here hx rfl (pc0 := 6) (pc' := 88) rfl (hb hby d4_6) rfl (XT.ii_ge_t (own_inl hn (by omega) (by omega))) (by decide) (by decide) k) ?_
      refine Gl.st (g' := (mkF m 89 #[.val (.ref p1), .val (.int p2), .val (.int hh), .val (.int (Int32.ofNat i)), s4, s5] [(.int hh)])) (fun t k => XS.iloadN X0.here hx rfl (hb hby d4_88) rfl k) ?_
      obtain ⟨_, _, ⟨T18, L18, k18, n18⟩, -, X18, ⟨Lc18, hQ18, l18, y18, z18⟩, st18⟩ := Jvm.LawKit.callS X0 hx (y := (⟨"java/lang/Integer", "toUnsignedLong", "(I)J"⟩ : MethodName)) hown (mvT hZ (hw _ (List.mem_of_getElem? (i := 16) rfl))) (mvT hZ (hw _ (List.mem_of_getElem? (i := 17) rfl))) (mvT hZ (hw _ (List.mem_of_getElem? (i := 18) rfl))) (mvT hZ (hw _ (List.mem_of_getElem? (i := 19) rfl))) (by decide) (backOf (W := 0) (rm1 l Z a0 hw hh  h0 n0 Z0 ) hZ (hw _ (List.mem_of_getElem? (i := 19) rfl)) (hw _ (List.mem_of_getElem? (i := 18) rfl)) (by decide) (by decide)) (g := (mkF m 89 #[.val (.ref p1), .val (.int p2), .val (.int hh), .val (.int (Int32.ofNat i)), s4, s5] [(.int hh)])) rfl (by rw [hml]; rfl) (argsL := [(.int hh)]) (rest := []) (lenOf pd_0 rfl) rfl (by show 2 * 0 + _ ≤ _; exact Nat.le_of_eq rfl) (hb hby d4_89) (fun _ _ => ⟨rfl, e0, (by decide : 0 + 0 ≤ _), (by decide : 0 + 0 ≤ _)⟩)
      dsimp only [Pt.U, Pt.locs, Pt.cells, Pt.slots] at X18 l18 y18 z18 st18 hQ18
      subst l18 y18 z18
      obtain ⟨rfl, Nq18, e18⟩ := hQ18
      have N18 := Fr.app N0 Nq18
      refine Gl.st (g' := (mkF m 92 #[.val (.ref p1), .val (.int p2), .val (.int hh), .val (.int (Int32.ofNat i)), s4, s5] [(.long (own_ul hh))])) st18 ?_
      refine Gl.retL X18 hx hlk Bd.returns (hb hby d4_92) e18 (by decide) (by decide) ?_
      exact ⟨by rw [hf0]; rfl, N18, rfl⟩
    | succ k ih =>
      intro i hh s4 s5 hs4 hs5 hik hf
      refine Gl.st (g' := (mkF m 5 #[.val (.ref p1), .val (.int p2), .val (.int hh), .val (.int (Int32.ofNat i)), s4, s5] [(.int (Int32.ofNat i))])) (fun t k => XS.iloadN X0.here hx rfl (hb hby d4_4) rfl k) ?_
      refine Gl.st (g' := (mkF m 6 #[.val (.ref p1), .val (.int p2), .val (.int hh), .val (.int (Int32.ofNat i)), s4, s5] [(.int p2), (.int (Int32.ofNat i))])) (fun t k => XS.iloadN X0.here hx rfl (hb hby d4_5) rfl k) ?_
      refine Gl.st (g' := (mkF m 9 #[.val (.ref p1), .val (.int p2), .val (.int hh), .val (.int (Int32.ofNat i)), s4, s5] [])) (fun t k => XS.icmpNo X0.here hx rfl (hb hby d4_6) rfl (XT.ii_ge_f (own_il rfl hn (by omega) (by omega))) k) ?_
      refine Gl.st (g' := (mkF m 10 #[.val (.ref p1), .val (.int p2), .val (.int hh), .val (.int (Int32.ofNat i)), s4, s5] [(.int hh)])) (fun t k => XS.iloadN X0.here hx rfl (hb hby d4_9) rfl k) ?_
      refine Gl.st (g' := (mkF m 12 #[.val (.ref p1), .val (.int p2), .val (.int hh), .val (.int (Int32.ofNat i)), s4, s5] [(.int (8 : Int32)), (.int hh)])) (fun t k => XT.bipushV X0.here hx rfl (8 : Int32) (hb hby d4_10) rfl k) ?_
      refine Gl.st (g' := (mkF m 13 #[.val (.ref p1), .val (.int p2), .val (.int hh), .val (.int (Int32.ofNat i)), s4, s5] [(.int (XT.ushr hh (8 : Int32)))])) (fun t k => XT.iushr X0.here hx rfl (hb hby d4_12) rfl k) ?_
      refine Gl.st (g' := (mkF m 14 #[.val (.ref p1), .val (.int p2), .val (.int hh), .val (.int (Int32.ofNat i)), s4, s5] [(.ref p1), (.int (XT.ushr hh (8 : Int32)))])) (fun t k => XS.aloadN X0.here hx rfl (hb hby d4_13) rfl rfl k) ?_
      refine Gl.st (g' := (mkF m 15 #[.val (.ref p1), .val (.int p2), .val (.int hh), .val (.int (Int32.ofNat i)), s4, s5] [(.int (Int32.ofNat i)), (.ref p1), (.int (XT.ushr hh (8 : Int32)))])) (fun t k => XS.iloadN X0.here hx rfl (hb hby d4_14) rfl k) ?_
      refine Gl.st (g' := (mkF m 16 #[.val (.ref p1), .val (.int p2), .val (.int hh), .val (.int (Int32.ofNat i)), s4, s5] [(.int (ys.getD i 0)), (.int (XT.ushr hh (8 : Int32)))])) (own_ldB X0 hx hZ e0 F (j := (Int32.ofNat i)) (v := (.int (ys.getD i 0))) ⟨own_ge0 (by omega), own_il rfl hz (by omega) hs⟩ (own_get ys (by omega)) (g := (mkF m 15 #[.val (.ref p1), .val (.int p2), .val (.int hh), .val (.int (Int32.ofNat i)), s4, s5] [(.int (Int32.ofNat i)), (.ref p1), (.int (XT.ushr hh (8 : Int32)))])) rfl rfl (hb hby d4_15)) ?_
      refine Gl.st (g' := (mkF m 17 #[.val (.ref p1), .val (.int p2), .val (.int hh), .val (.int (Int32.ofNat i)), s4, s5] [(.int ((XT.ushr hh (8 : Int32)) ^^^ (ys.getD i 0)))])) (fun t k => XS.ixor X0.here hx rfl (hb hby d4_16) rfl k) ?_
      refine Gl.st (g' := (mkF m 20 #[.val (.ref p1), .val (.int p2), .val (.int hh), .val (.int (Int32.ofNat i)), s4, s5] [(.int (255 : Int32)), (.int ((XT.ushr hh (8 : Int32)) ^^^ (ys.getD i 0)))])) (fun t k => XT.sipushV X0.here hx rfl (255 : Int32) (hb hby d4_17) rfl k) ?_
      refine Gl.st (g' := (mkF m 21 #[.val (.ref p1), .val (.int p2), .val (.int hh), .val (.int (Int32.ofNat i)), s4, s5] [(.int (((XT.ushr hh (8 : Int32)) ^^^ (ys.getD i 0)) &&& (255 : Int32)))])) (fun t k => XS.iand X0.here hx rfl (hb hby d4_20) rfl k) ?_
      refine Gl.st (g' := (mkF m 23 #[.val (.ref p1), .val (.int p2), .val (.int hh), .val (.int (Int32.ofNat i)), .val (.int (((XT.ushr hh (8 : Int32)) ^^^ (ys.getD i 0)) &&& (255 : Int32))), s5] [])) (fun t k => XS.istoreS X0.here hx rfl (hb hby d4_21) rfl rfl hs4 k) ?_
      refine Gl.st (g' := (mkF m 25 #[.val (.ref p1), .val (.int p2), .val (.int hh), .val (.int (Int32.ofNat i)), .val (.int (((XT.ushr hh (8 : Int32)) ^^^ (ys.getD i 0)) &&& (255 : Int32))), s5] [(.int (((XT.ushr hh (8 : Int32)) ^^^ (ys.getD i 0)) &&& (255 : Int32)))])) (fun t k => XS.iload X0.here hx rfl (hb hby d4_23) rfl k) ?_
      refine Gl.st (g' := (mkF m 27 #[.val (.ref p1), .val (.int p2), .val (.int hh), .val (.int (Int32.ofNat i)), .val (.int (((XT.ushr hh (8 : Int32)) ^^^ (ys.getD i 0)) &&& (255 : Int32))), s5] [(.int (8 : Int32)), (.int (((XT.ushr hh (8 : Int32)) ^^^ (ys.getD i 0)) &&& (255 : Int32)))])) (fun t k => XT.bipushV X0.here hx rfl (8 : Int32) (hb hby d4_25) rfl k) ?_
      refine Gl.st (g' := (mkF m 28 #[.val (.ref p1), .val (.int p2), .val (.int hh), .val (.int (Int32.ofNat i)), .val (.int (((XT.ushr hh (8 : Int32)) ^^^ (ys.getD i 0)) &&& (255 : Int32))), s5] [(.int ((((XT.ushr hh (8 : Int32)) ^^^ (ys.getD i 0)) &&& (255 : Int32)) <<< ((8 : Int32) &&& 31)))])) (fun t k => XS.ishl X0.here hx rfl (hb hby d4_27) rfl k) ?_
      refine Gl.st (g' := (mkF m 30 #[.val (.ref p1), .val (.int p2), .val (.int hh), .val (.int (Int32.ofNat i)), .val (.int ((((XT.ushr hh (8 : Int32)) ^^^ (ys.getD i 0)) &&& (255 : Int32)) <<< ((8 : Int32) &&& 31))), s5] [])) (fun t k => XS.istore X0.here hx rfl (hb hby d4_28) rfl (l' := #[.val (.ref p1), .val (.int p2), .val (.int hh), .val (.int (Int32.ofNat i)), .val (.int ((((XT.ushr hh (8 : Int32)) ^^^ (ys.getD i 0)) &&& (255 : Int32)) <<< ((8 : Int32) &&& 31))), s5]) rfl k) ?_
      refine Gl.st (g' := (mkF m 31 #[.val (.ref p1), .val (.int p2), .val (.int hh), .val (.int (Int32.ofNat i)), .val (.int ((((XT.ushr hh (8 : Int32)) ^^^ (ys.getD i 0)) &&& (255 : Int32)) <<< ((8 : Int32) &&& 31))), s5] [(.int (0 : Int32))])) (fun t k => XT.iconstV X0.here hx rfl (0 : Int32) (hb hby d4_30) rfl k) ?_
      refine Gl.st (g' := (mkF m 33 #[.val (.ref p1), .val (.int p2), .val (.int hh), .val (.int (Int32.ofNat i)), .val (.int ((((XT.ushr hh (8 : Int32)) ^^^ (ys.getD i 0)) &&& (255 : Int32)) <<< ((8 : Int32) &&& 31))), .val (.int (0 : Int32))] [])) (fun t k => XS.istoreS X0.here hx rfl (hb hby d4_31) rfl rfl hs5 k) ?_
      have inner : ∀ (q j : Nat) (xx : Int32), j + q = 8 → own_it q xx = own_it 8 ((((XT.ushr hh (8 : Int32)) ^^^ (ys.getD i 0)) &&& (255 : Int32)) <<< ((8 : Int32) &&& 31)) → Gl p e below s (Q4 Z p1 p2 ys nn kA zz h0 n0) 0 0 s₁ (mkF m 33 #[.val (.ref p1), .val (.int p2), .val (.int hh), .val (.int (Int32.ofNat i)), .val (.int xx), .val (.int (Int32.ofNat j))] []) := by
        intro q
        induction q with
        | zero =>
          intro j xx hjq hit
          have hxx : xx = own_it 8 ((((XT.ushr hh (8 : Int32)) ^^^ (ys.getD i 0)) &&& (255 : Int32)) <<< ((8 : Int32) &&& 31)) := hit
          refine Gl.st (g' := (mkF m 35 #[.val (.ref p1), .val (.int p2), .val (.int hh), .val (.int (Int32.ofNat i)), .val (.int xx), .val (.int (Int32.ofNat j))] [(.int (Int32.ofNat j))])) (fun t k => XS.iload X0.here hx rfl (hb hby d4_33) rfl k) ?_
          refine Gl.st (g' := (mkF m 37 #[.val (.ref p1), .val (.int p2), .val (.int hh), .val (.int (Int32.ofNat i)), .val (.int xx), .val (.int (Int32.ofNat j))] [(.int (8 : Int32)), (.int (Int32.ofNat j))])) (fun t k => XT.bipushV X0.here hx rfl (8 : Int32) (hb hby d4_35) rfl k) ?_
          refine Gl.st (g' := (mkF m 71 #[.val (.ref p1), .val (.int p2), .val (.int hh), .val (.int (Int32.ofNat i)), .val (.int xx), .val (.int (Int32.ofNat j))] [])) (fun t k => XS.icmpYes X0.here hx rfl (pc0 := 37) (pc' := 71) rfl (hb hby d4_37) rfl (XT.ii_ge_t (own_inl (n := 8) rfl (by omega) (by omega))) (by decide) (by decide) k) ?_
          rw [hxx]
          refine Gl.st (g' := (mkF m 72 #[.val (.ref p1), .val (.int p2), .val (.int hh), .val (.int (Int32.ofNat i)), .val (.int (own_it 8 ((((XT.ushr hh (8 : Int32)) ^^^ (ys.getD i 0)) &&& (255 : Int32)) <<< ((8 : Int32) &&& 31)))), .val (.int (Int32.ofNat j))] [(.int hh)])) (fun t k => XS.iloadN X0.here hx rfl (hb hby d4_71) rfl k) ?_
          refine Gl.st (g' := (mkF m 74 #[.val (.ref p1), .val (.int p2), .val (.int hh), .val (.int (Int32.ofNat i)), .val (.int (own_it 8 ((((XT.ushr hh (8 : Int32)) ^^^ (ys.getD i 0)) &&& (255 : Int32)) <<< ((8 : Int32) &&& 31)))), .val (.int (Int32.ofNat j))] [(.int (8 : Int32)), (.int hh)])) (fun t k => XT.bipushV X0.here hx rfl (8 : Int32) (hb hby d4_72) rfl k) ?_
          refine Gl.st (g' := (mkF m 75 #[.val (.ref p1), .val (.int p2), .val (.int hh), .val (.int (Int32.ofNat i)), .val (.int (own_it 8 ((((XT.ushr hh (8 : Int32)) ^^^ (ys.getD i 0)) &&& (255 : Int32)) <<< ((8 : Int32) &&& 31)))), .val (.int (Int32.ofNat j))] [(.int (hh <<< ((8 : Int32) &&& 31)))])) (fun t k => XS.ishl X0.here hx rfl (hb hby d4_74) rfl k) ?_
          refine Gl.st (g' := (mkF m 77 #[.val (.ref p1), .val (.int p2), .val (.int hh), .val (.int (Int32.ofNat i)), .val (.int (own_it 8 ((((XT.ushr hh (8 : Int32)) ^^^ (ys.getD i 0)) &&& (255 : Int32)) <<< ((8 : Int32) &&& 31)))), .val (.int (Int32.ofNat j))] [(.int (own_it 8 ((((XT.ushr hh (8 : Int32)) ^^^ (ys.getD i 0)) &&& (255 : Int32)) <<< ((8 : Int32) &&& 31)))), (.int (hh <<< ((8 : Int32) &&& 31)))])) (fun t k => XS.iload X0.here hx rfl (hb hby d4_75) rfl k) ?_
          refine Gl.st (g' := (mkF m 79 #[.val (.ref p1), .val (.int p2), .val (.int hh), .val (.int (Int32.ofNat i)), .val (.int (own_it 8 ((((XT.ushr hh (8 : Int32)) ^^^ (ys.getD i 0)) &&& (255 : Int32)) <<< ((8 : Int32) &&& 31)))), .val (.int (Int32.ofNat j))] [(.int (65535 : Int32)), (.int (own_it 8 ((((XT.ushr hh (8 : Int32)) ^^^ (ys.getD i 0)) &&& (255 : Int32)) <<< ((8 : Int32) &&& 31)))), (.int (hh <<< ((8 : Int32) &&& 31)))])) (fun t k => X0.ldcI hx hown (mvT hZ (hw _ (List.mem_of_getElem? (i := 15) rfl))) rfl (hb hby d4_77) k) ?_
          refine Gl.st (g' := (mkF m 80 #[.val (.ref p1), .val (.int p2), .val (.int hh), .val (.int (Int32.ofNat i)), .val (.int (own_it 8 ((((XT.ushr hh (8 : Int32)) ^^^ (ys.getD i 0)) &&& (255 : Int32)) <<< ((8 : Int32) &&& 31)))), .val (.int (Int32.ofNat j))] [(.int ((own_it 8 ((((XT.ushr hh (8 : Int32)) ^^^ (ys.getD i 0)) &&& (255 : Int32)) <<< ((8 : Int32) &&& 31))) &&& (65535 : Int32))), (.int (hh <<< ((8 : Int32) &&& 31)))])) (fun t k => XS.iand X0.here hx rfl (hb hby d4_79) rfl k) ?_
          refine Gl.st (g' := (mkF m 81 #[.val (.ref p1), .val (.int p2), .val (.int hh), .val (.int (Int32.ofNat i)), .val (.int (own_it 8 ((((XT.ushr hh (8 : Int32)) ^^^ (ys.getD i 0)) &&& (255 : Int32)) <<< ((8 : Int32) &&& 31)))), .val (.int (Int32.ofNat j))] [(.int ((hh <<< ((8 : Int32) &&& 31)) ^^^ ((own_it 8 ((((XT.ushr hh (8 : Int32)) ^^^ (ys.getD i 0)) &&& (255 : Int32)) <<< ((8 : Int32) &&& 31))) &&& (65535 : Int32))))])) (fun t k => XS.ixor X0.here hx rfl (hb hby d4_80) rfl k) ?_
          refine Gl.st (g' := (mkF m 82 #[.val (.ref p1), .val (.int p2), .val (.int ((hh <<< ((8 : Int32) &&& 31)) ^^^ ((own_it 8 ((((XT.ushr hh (8 : Int32)) ^^^ (ys.getD i 0)) &&& (255 : Int32)) <<< ((8 : Int32) &&& 31))) &&& (65535 : Int32)))), .val (.int (Int32.ofNat i)), .val (.int (own_it 8 ((((XT.ushr hh (8 : Int32)) ^^^ (ys.getD i 0)) &&& (255 : Int32)) <<< ((8 : Int32) &&& 31)))), .val (.int (Int32.ofNat j))] [])) (fun t k => XS.istoreN X0.here hx rfl (hb hby d4_81) rfl (l' := #[.val (.ref p1), .val (.int p2), .val (.int ((hh <<< ((8 : Int32) &&& 31)) ^^^ ((own_it 8 ((((XT.ushr hh (8 : Int32)) ^^^ (ys.getD i 0)) &&& (255 : Int32)) <<< ((8 : Int32) &&& 31))) &&& (65535 : Int32)))), .val (.int (Int32.ofNat i)), .val (.int (own_it 8 ((((XT.ushr hh (8 : Int32)) ^^^ (ys.getD i 0)) &&& (255 : Int32)) <<< ((8 : Int32) &&& 31)))), .val (.int (Int32.ofNat j))]) rfl k) ?_
          refine Gl.st (g' := (mkF m 85 #[.val (.ref p1), .val (.int p2), .val (.int ((hh <<< ((8 : Int32) &&& 31)) ^^^ ((own_it 8 ((((XT.ushr hh (8 : Int32)) ^^^ (ys.getD i 0)) &&& (255 : Int32)) <<< ((8 : Int32) &&& 31))) &&& (65535 : Int32)))), .val (.int ((Int32.ofNat i) + (1 : Int32))), .val (.int (own_it 8 ((((XT.ushr hh (8 : Int32)) ^^^ (ys.getD i 0)) &&& (255 : Int32)) <<< ((8 : Int32) &&& 31)))), .val (.int (Int32.ofNat j))] [])) (fun t k => XT.iincV X0.here hx rfl (1 : Int32) (hb hby d4_82) rfl rfl rfl k) ?_
          refine Gl.st (g' := (mkF m 4 #[.val (.ref p1), .val (.int p2), .val (.int ((hh <<< ((8 : Int32) &&& 31)) ^^^ ((own_it 8 ((((XT.ushr hh (8 : Int32)) ^^^ (ys.getD i 0)) &&& (255 : Int32)) <<< ((8 : Int32) &&& 31))) &&& (65535 : Int32)))), .val (.int ((Int32.ofNat i) + (1 : Int32))), .val (.int (own_it 8 ((((XT.ushr hh (8 : Int32)) ^^^ (ys.getD i 0)) &&& (255 : Int32)) <<< ((8 : Int32) &&& 31)))), .val (.int (Int32.ofNat j))] [])) (fun t k => XS.goto X0.here hx rfl (pc0 := 85) (pc' := 4) rfl (hb hby d4_85) (by decide) (by decide) k) ?_
          rw [own_inc i]
          exact ih (i + 1) _ _ _ (Or.inr ⟨_, rfl, rfl⟩) (Or.inr ⟨_, rfl, rfl⟩) (by omega) (own_turn hl hik hf)
        | succ q jh =>
          intro j xx hjq hit
          refine Gl.st (g' := (mkF m 35 #[.val (.ref p1), .val (.int p2), .val (.int hh), .val (.int (Int32.ofNat i)), .val (.int xx), .val (.int (Int32.ofNat j))] [(.int (Int32.ofNat j))])) (fun t k => XS.iload X0.here hx rfl (hb hby d4_33) rfl k) ?_
          refine Gl.st (g' := (mkF m 37 #[.val (.ref p1), .val (.int p2), .val (.int hh), .val (.int (Int32.ofNat i)), .val (.int xx), .val (.int (Int32.ofNat j))] [(.int (8 : Int32)), (.int (Int32.ofNat j))])) (fun t k => XT.bipushV X0.here hx rfl (8 : Int32) (hb hby d4_35) rfl k) ?_
          refine Gl.st (g' := (mkF m 40 #[.val (.ref p1), .val (.int p2), .val (.int hh), .val (.int (Int32.ofNat i)), .val (.int xx), .val (.int (Int32.ofNat j))] [])) (fun t k => XS.icmpNo X0.here hx rfl (hb hby d4_37) rfl (XT.ii_ge_f (own_il rfl (n := 8) rfl (by omega) (by omega))) k) ?_
          refine Gl.st (g' := (mkF m 42 #[.val (.ref p1), .val (.int p2), .val (.int hh), .val (.int (Int32.ofNat i)), .val (.int xx), .val (.int (Int32.ofNat j))] [(.int xx)])) (fun t k => XS.iload X0.here hx rfl (hb hby d4_40) rfl k) ?_
          refine Gl.st (g' := (mkF m 44 #[.val (.ref p1), .val (.int p2), .val (.int hh), .val (.int (Int32.ofNat i)), .val (.int xx), .val (.int (Int32.ofNat j))] [(.int (32768 : Int32)), (.int xx)])) (fun t k => X0.ldcI hx hown (mvT hZ (hw _ (List.mem_of_getElem? (i := 14) rfl))) rfl (hb hby d4_42) k) ?_
          refine Gl.st (g' := (mkF m 45 #[.val (.ref p1), .val (.int p2), .val (.int hh), .val (.int (Int32.ofNat i)), .val (.int xx), .val (.int (Int32.ofNat j))] [(.int (xx &&& (32768 : Int32)))])) (fun t k => XS.iand X0.here hx rfl (hb hby d4_44) rfl k) ?_
          by_cases c19 : (xx &&& (32768 : Int32)) = (0 : Int32)
          · skip
            refine Gl.st (g' := (mkF m 59 #[.val (.ref p1), .val (.int p2), .val (.int hh), .val (.int (Int32.ofNat i)), .val (.int xx), .val (.int (Int32.ofNat j))] [])) (fun t k => XS.ifYes X0.here hx rfl (pc0 := 45) (pc' := 59) rfl (hb hby d4_45) rfl (XT.i0_eq_t c19) (by decide) (by decide) k) ?_
            refine Gl.st (g' := (mkF m 61 #[.val (.ref p1), .val (.int p2), .val (.int hh), .val (.int (Int32.ofNat i)), .val (.int xx), .val (.int (Int32.ofNat j))] [(.int xx)])) (fun t k => XS.iload X0.here hx rfl (hb hby d4_59) rfl k) ?_
            refine Gl.st (g' := (mkF m 62 #[.val (.ref p1), .val (.int p2), .val (.int hh), .val (.int (Int32.ofNat i)), .val (.int xx), .val (.int (Int32.ofNat j))] [(.int (1 : Int32)), (.int xx)])) (fun t k => XT.iconstV X0.here hx rfl (1 : Int32) (hb hby d4_61) rfl k) ?_
            refine Gl.st (g' := (mkF m 63 #[.val (.ref p1), .val (.int p2), .val (.int hh), .val (.int (Int32.ofNat i)), .val (.int xx), .val (.int (Int32.ofNat j))] [(.int (xx <<< ((1 : Int32) &&& 31)))])) (fun t k => XS.ishl X0.here hx rfl (hb hby d4_62) rfl k) ?_
            refine Gl.st (g' := (mkF m 65 #[.val (.ref p1), .val (.int p2), .val (.int hh), .val (.int (Int32.ofNat i)), .val (.int (xx <<< ((1 : Int32) &&& 31))), .val (.int (Int32.ofNat j))] [])) (fun t k => XS.istore X0.here hx rfl (hb hby d4_63) rfl (l' := #[.val (.ref p1), .val (.int p2), .val (.int hh), .val (.int (Int32.ofNat i)), .val (.int (xx <<< ((1 : Int32) &&& 31))), .val (.int (Int32.ofNat j))]) rfl k) ?_
            refine Gl.st (g' := (mkF m 68 #[.val (.ref p1), .val (.int p2), .val (.int hh), .val (.int (Int32.ofNat i)), .val (.int (xx <<< ((1 : Int32) &&& 31))), .val (.int ((Int32.ofNat j) + (1 : Int32)))] [])) (fun t k => XT.iincV X0.here hx rfl (1 : Int32) (hb hby d4_65) rfl rfl rfl k) ?_
            refine Gl.st (g' := (mkF m 33 #[.val (.ref p1), .val (.int p2), .val (.int hh), .val (.int (Int32.ofNat i)), .val (.int (xx <<< ((1 : Int32) &&& 31))), .val (.int ((Int32.ofNat j) + (1 : Int32)))] [])) (fun t k => XS.goto X0.here hx rfl (pc0 := 68) (pc' := 33) rfl (hb hby d4_68) (by decide) (by decide) k) ?_
            rw [own_inc j]
            exact jh (j + 1) _ (by omega) (by rw [← hit]; show own_it q _ = own_it q (own_ci xx); unfold own_ci; rw [if_pos c19])
          · skip
            refine Gl.st (g' := (mkF m 48 #[.val (.ref p1), .val (.int p2), .val (.int hh), .val (.int (Int32.ofNat i)), .val (.int xx), .val (.int (Int32.ofNat j))] [])) (fun t k => XS.ifNo X0.here hx rfl (hb hby d4_45) rfl (XT.i0_eq_f c19) k) ?_
            refine Gl.st (g' := (mkF m 50 #[.val (.ref p1), .val (.int p2), .val (.int hh), .val (.int (Int32.ofNat i)), .val (.int xx), .val (.int (Int32.ofNat j))] [(.int xx)])) (fun t k => XS.iload X0.here hx rfl (hb hby d4_48) rfl k) ?_
            refine Gl.st (g' := (mkF m 51 #[.val (.ref p1), .val (.int p2), .val (.int hh), .val (.int (Int32.ofNat i)), .val (.int xx), .val (.int (Int32.ofNat j))] [(.int (1 : Int32)), (.int xx)])) (fun t k => XT.iconstV X0.here hx rfl (1 : Int32) (hb hby d4_50) rfl k) ?_
            refine Gl.st (g' := (mkF m 52 #[.val (.ref p1), .val (.int p2), .val (.int hh), .val (.int (Int32.ofNat i)), .val (.int xx), .val (.int (Int32.ofNat j))] [(.int (xx <<< ((1 : Int32) &&& 31)))])) (fun t k => XS.ishl X0.here hx rfl (hb hby d4_51) rfl k) ?_
            refine Gl.st (g' := (mkF m 55 #[.val (.ref p1), .val (.int p2), .val (.int hh), .val (.int (Int32.ofNat i)), .val (.int xx), .val (.int (Int32.ofNat j))] [(.int (4129 : Int32)), (.int (xx <<< ((1 : Int32) &&& 31)))])) (fun t k => XT.sipushV X0.here hx rfl (4129 : Int32) (hb hby d4_52) rfl k) ?_
            refine Gl.st (g' := (mkF m 56 #[.val (.ref p1), .val (.int p2), .val (.int hh), .val (.int (Int32.ofNat i)), .val (.int xx), .val (.int (Int32.ofNat j))] [(.int ((xx <<< ((1 : Int32) &&& 31)) ^^^ (4129 : Int32)))])) (fun t k => XS.ixor X0.here hx rfl (hb hby d4_55) rfl k) ?_
            refine Gl.st (g' := (mkF m 63 #[.val (.ref p1), .val (.int p2), .val (.int hh), .val (.int (Int32.ofNat i)), .val (.int xx), .val (.int (Int32.ofNat j))] [(.int ((xx <<< ((1 : Int32) &&& 31)) ^^^ (4129 : Int32)))])) (fun t k => XS.goto X0.here hx rfl (pc0 := 56) (pc' := 63) rfl (hb hby d4_56) (by decide) (by decide) k) ?_
            refine Gl.st (g' := (mkF m 65 #[.val (.ref p1), .val (.int p2), .val (.int hh), .val (.int (Int32.ofNat i)), .val (.int ((xx <<< ((1 : Int32) &&& 31)) ^^^ (4129 : Int32))), .val (.int (Int32.ofNat j))] [])) (fun t k => XS.istore X0.here hx rfl (hb hby d4_63) rfl (l' := #[.val (.ref p1), .val (.int p2), .val (.int hh), .val (.int (Int32.ofNat i)), .val (.int ((xx <<< ((1 : Int32) &&& 31)) ^^^ (4129 : Int32))), .val (.int (Int32.ofNat j))]) rfl k) ?_
            refine Gl.st (g' := (mkF m 68 #[.val (.ref p1), .val (.int p2), .val (.int hh), .val (.int (Int32.ofNat i)), .val (.int ((xx <<< ((1 : Int32) &&& 31)) ^^^ (4129 : Int32))), .val (.int ((Int32.ofNat j) + (1 : Int32)))] [])) (fun t k => XT.iincV X0.here hx rfl (1 : Int32) (hb hby d4_65) rfl rfl rfl k) ?_
            refine Gl.st (g' := (mkF m 33 #[.val (.ref p1), .val (.int p2), .val (.int hh), .val (.int (Int32.ofNat i)), .val (.int ((xx <<< ((1 : Int32) &&& 31)) ^^^ (4129 : Int32))), .val (.int ((Int32.ofNat j) + (1 : Int32)))] [])) (fun t k => XS.goto X0.here hx rfl (pc0 := 68) (pc' := 33) rfl (hb hby d4_68) (by decide) (by decide) k) ?_
            rw [own_inc j]
            exact jh (j + 1) _ (by omega) (by rw [← hit]; show own_it q _ = own_it q (own_ci xx); unfold own_ci; rw [if_neg c19])
      exact inner 8 0 _ (by omega) rfl
  exact loop nn 0 0 _ _ (Or.inl rfl) (Or.inl rfl) (by omega) (by simp)
theorem pd_3 : parseMethodDescriptor "([BI)J" = some ⟨[(.array .byte), .int], some .long⟩ := by decide +kernel
theorem ef_0 (m : MethodId) (p1 : Int64) (p2 : Int32) : entryFrame m #[(.long p1), (.int p2)] maxLocals = mkF m 0 #[.val (.long p1), .second, .val (.int p2), .unset, .unset, .unset, .unset, .unset] [] := by first | (simp [entryFrame, mkF, argsToLocals, Value.category, maxLocals]; done) | rfl
def Q0 (Z : State) (p1 : Int64) (p2 : Int32)  (h0 : Heap) (n0 : Nat) (v : Option Value) (h : Heap) (L : List Loc) : Prop := v = some (.int 1) ∧ Fr n0 L
set_option maxRecDepth 65536 in
set_option maxHeartbeats 40000000 in
theorem rm0 (l : Launch) (Z : State) (a0 : Array Value) (hw : ∀ d ∈ tables_1, d.before a0 Z = true) (ws : List Jvm.Cond) (p1 : Int64) (p2 : Int32)  (h0 : Heap) (n0 : Nat) (Z0 : n0 ≤ h0.size)  :
    MetFree l x (head1 (Jvm.Cond.code x code maxLocals ret :: ws) room_1) (fun a U => a = #[(.long p1), (.int p2)] ∧ Z.Warmed39 U.vm ∧ U.heap = h0) (fun _ _ _ _ _ => True) (fun _ U o U' => ∃ v L, o = .returned v ∧ Q0 Z p1 p2  h0 n0 v U'.heap L ∧ FrameEnd U o U' L 16 128) := by
  refine MetFree.of_bodySF (plainFor_of_name pn_1) hisR ?_
  intro p e s m args below meth c s₁ Bd hml0 hP hK
  obtain ⟨rfl, hZ, hh⟩ := hP
  have hx := Bd.exec
  have hby := Bd.bytes
  have hlk : meth.locks = false := Bd.notSynchronized
  have hml : c.maxLocals = 8 := hml0
  have hown : s.vm.findClass "keyhalo/KeyHashCrc16PinLaw" = some m.cls := findClass_of_methodNamed Bd.named
  have hnm := (name_of_methodNamed Bd.named Bd.method).1
  have X0 : Stand p l e room_1 s m #[(.long p1), (.int p2)] below meth c s₁ [] 0 0 := Stand.of_body Bd
  have e0 : s₁.heap = h0 := by rw [← hh, Bd.state]; rfl
  have N0 := Fr.nil n0
  show Gl p e below s (Q0 Z p1 p2  h0 n0) 16 128 s₁ (entryFrame m #[(.long p1), (.int p2)] maxLocals)
  rw [ef_0 m p1 p2]
  refine Gl.st (g' := (mkF m 2 #[.val (.long p1), .second, .val (.int p2), .unset, .unset, .unset, .unset, .unset] [(.int (8 : Int32))])) (fun t k => XT.bipushV X0.here hx rfl (8 : Int32) (hb hby at_0) rfl k) ?_
  obtain ⟨T20, h20, cA20, X20, e20, E20, A20, st20⟩ := newP X0 hx hZ (hw _ (List.mem_of_getElem? (i := 0) rfl)) e0 (g := (mkF m 2 #[.val (.long p1), .second, .val (.int p2), .unset, .unset, .unset, .unset, .unset] [(.int (8 : Int32))])) rfl (hb hby at_2) rfl (by decide) (cap := 8) (by decide) (by decide) (by decide) (by decide)
  obtain ⟨a20, g20⟩ : ∃ z, z = h0.size := ⟨_, rfl⟩
  have ge20 : n0 ≤ a20 := Nat.le_trans Z0 (Nat.le_of_eq g20.symm)
  rw [← g20] at A20 st20
  have Z20 : n0 ≤ h20.size := Nat.le_trans Z0 E20.1
  have V20 : Arv Z h20 a20 cA20 .byte (8 : Int32) [(.int (0 : Int32)), (.int (0 : Int32)), (.int (0 : Int32)), (.int (0 : Int32)), (.int (0 : Int32)), (.int (0 : Int32)), (.int (0 : Int32)), (.int (0 : Int32))] (.int (0 : Int32)) := (Arv.new A20 (by decide)).pad (pad_rep [] _ 8)
  refine Gl.st (g' := (mkF m 4 #[.val (.long p1), .second, .val (.int p2), .unset, .unset, .unset, .unset, .unset] [(.ref a20)])) st20 ?_
  refine Gl.st (g' := (mkF m 5 #[.val (.long p1), .second, .val (.int p2), .val (.ref a20), .unset, .unset, .unset, .unset] [])) (fun t k => XS.astoreN X20.here hx rfl (hb hby at_4) rfl rfl (l' := #[.val (.long p1), .second, .val (.int p2), .val (.ref a20), .unset, .unset, .unset, .unset]) rfl k) ?_
  refine Gl.st (g' := (mkF m 6 #[.val (.long p1), .second, .val (.int p2), .val (.ref a20), .unset, .unset, .unset, .unset] [(.ref a20)])) (fun t k => XS.aloadN X20.here hx rfl (hb hby at_5) rfl rfl k) ?_
  refine Gl.st (g' := (mkF m 7 #[.val (.long p1), .second, .val (.int p2), .val (.ref a20), .unset, .unset, .unset, .unset] [(.int (0 : Int32)), (.ref a20)])) (fun t k => XT.iconstV X20.here hx rfl (0 : Int32) (hb hby at_6) rfl k) ?_
  refine Gl.st (g' := (mkF m 8 #[.val (.long p1), .second, .val (.int p2), .val (.ref a20), .unset, .unset, .unset, .unset] [(.long p1), (.int (0 : Int32)), (.ref a20)])) (fun t k => XS.lloadN X20.here hx rfl (hb hby at_7) rfl k) ?_
  refine Gl.st (g' := (mkF m 9 #[.val (.long p1), .second, .val (.int p2), .val (.ref a20), .unset, .unset, .unset, .unset] [(.int (p1.toInt32)), (.int (0 : Int32)), (.ref a20)])) (fun t k => XS.l2i X20.here hx rfl (hb hby at_8) rfl k) ?_
  refine Gl.st (g' := (mkF m 10 #[.val (.long p1), .second, .val (.int p2), .val (.ref a20), .unset, .unset, .unset, .unset] [(.int ((p1.toInt32).toInt8.toInt32)), (.int (0 : Int32)), (.ref a20)])) (fun t k => XS.i2b X20.here hx rfl (hb hby at_9) rfl k) ?_
  obtain ⟨T21, h21, b21, X21, e21, W21, hb21, V21, st21⟩ := own_stB X20 hx hZ e20 V20 (j := (0 : Int32)) (by decide) 0 (by decide) (by decide : 0 < 8) (g := (mkF m 10 #[.val (.long p1), .second, .val (.int p2), .val (.ref a20), .unset, .unset, .unset, .unset] [(.int ((p1.toInt32).toInt8.toInt32)), (.int (0 : Int32)), (.ref a20)])) rfl rfl (hb hby at_10)
  have N21 := Fr.snoc X21 N0 ge20
  have Z21 : n0 ≤ h21.size := Nat.le_trans Z20 (Keep.of_wr W21).1
  change Arv Z h21 a20 cA20 .byte (8 : Int32) [(.int b21), (.int (0 : Int32)), (.int (0 : Int32)), (.int (0 : Int32)), (.int (0 : Int32)), (.int (0 : Int32)), (.int (0 : Int32)), (.int (0 : Int32))] (.int (0 : Int32)) at V21
  refine Gl.st (g' := (mkF m 11 #[.val (.long p1), .second, .val (.int p2), .val (.ref a20), .unset, .unset, .unset, .unset] [])) st21 ?_
  refine Gl.st (g' := (mkF m 12 #[.val (.long p1), .second, .val (.int p2), .val (.ref a20), .unset, .unset, .unset, .unset] [(.ref a20)])) (fun t k => XS.aloadN X21.here hx rfl (hb hby at_11) rfl rfl k) ?_
  refine Gl.st (g' := (mkF m 13 #[.val (.long p1), .second, .val (.int p2), .val (.ref a20), .unset, .unset, .unset, .unset] [(.int (1 : Int32)), (.ref a20)])) (fun t k => XT.iconstV X21.here hx rfl (1 : Int32) (hb hby at_12) rfl k) ?_
  refine Gl.st (g' := (mkF m 14 #[.val (.long p1), .second, .val (.int p2), .val (.ref a20), .unset, .unset, .unset, .unset] [(.long p1), (.int (1 : Int32)), (.ref a20)])) (fun t k => XS.lloadN X21.here hx rfl (hb hby at_13) rfl k) ?_
  refine Gl.st (g' := (mkF m 16 #[.val (.long p1), .second, .val (.int p2), .val (.ref a20), .unset, .unset, .unset, .unset] [(.int (8 : Int32)), (.long p1), (.int (1 : Int32)), (.ref a20)])) (fun t k => XT.bipushV X21.here hx rfl (8 : Int32) (hb hby at_14) rfl k) ?_
  refine Gl.st (g' := (mkF m 17 #[.val (.long p1), .second, .val (.int p2), .val (.ref a20), .unset, .unset, .unset, .unset] [(.long (((p1).toUInt64 >>> ((8 : Int32) &&& 0x3f).toInt64.toUInt64).toInt64)), (.int (1 : Int32)), (.ref a20)])) (fun t k => XS.lushr X21.here hx rfl (hb hby at_16) rfl k) ?_
  refine Gl.st (g' := (mkF m 18 #[.val (.long p1), .second, .val (.int p2), .val (.ref a20), .unset, .unset, .unset, .unset] [(.int ((((p1).toUInt64 >>> ((8 : Int32) &&& 0x3f).toInt64.toUInt64).toInt64).toInt32)), (.int (1 : Int32)), (.ref a20)])) (fun t k => XS.l2i X21.here hx rfl (hb hby at_17) rfl k) ?_
  refine Gl.st (g' := (mkF m 19 #[.val (.long p1), .second, .val (.int p2), .val (.ref a20), .unset, .unset, .unset, .unset] [(.int (((((p1).toUInt64 >>> ((8 : Int32) &&& 0x3f).toInt64.toUInt64).toInt64).toInt32).toInt8.toInt32)), (.int (1 : Int32)), (.ref a20)])) (fun t k => XS.i2b X21.here hx rfl (hb hby at_18) rfl k) ?_
  obtain ⟨T22, h22, b22, X22, e22, W22, hb22, V22, st22⟩ := own_stB X21 hx hZ e21 V21 (j := (1 : Int32)) (by decide) 1 (by decide) (by decide : 1 < 8) (g := (mkF m 19 #[.val (.long p1), .second, .val (.int p2), .val (.ref a20), .unset, .unset, .unset, .unset] [(.int (((((p1).toUInt64 >>> ((8 : Int32) &&& 0x3f).toInt64.toUInt64).toInt64).toInt32).toInt8.toInt32)), (.int (1 : Int32)), (.ref a20)])) rfl rfl (hb hby at_19)
  have N22 := Fr.snoc X22 N21 ge20
  have Z22 : n0 ≤ h22.size := Nat.le_trans Z21 (Keep.of_wr W22).1
  change Arv Z h22 a20 cA20 .byte (8 : Int32) [(.int b21), (.int b22), (.int (0 : Int32)), (.int (0 : Int32)), (.int (0 : Int32)), (.int (0 : Int32)), (.int (0 : Int32)), (.int (0 : Int32))] (.int (0 : Int32)) at V22
  refine Gl.st (g' := (mkF m 20 #[.val (.long p1), .second, .val (.int p2), .val (.ref a20), .unset, .unset, .unset, .unset] [])) st22 ?_
  refine Gl.st (g' := (mkF m 21 #[.val (.long p1), .second, .val (.int p2), .val (.ref a20), .unset, .unset, .unset, .unset] [(.ref a20)])) (fun t k => XS.aloadN X22.here hx rfl (hb hby at_20) rfl rfl k) ?_
  refine Gl.st (g' := (mkF m 22 #[.val (.long p1), .second, .val (.int p2), .val (.ref a20), .unset, .unset, .unset, .unset] [(.int (2 : Int32)), (.ref a20)])) (fun t k => XT.iconstV X22.here hx rfl (2 : Int32) (hb hby at_21) rfl k) ?_
  refine Gl.st (g' := (mkF m 23 #[.val (.long p1), .second, .val (.int p2), .val (.ref a20), .unset, .unset, .unset, .unset] [(.long p1), (.int (2 : Int32)), (.ref a20)])) (fun t k => XS.lloadN X22.here hx rfl (hb hby at_22) rfl k) ?_
  refine Gl.st (g' := (mkF m 25 #[.val (.long p1), .second, .val (.int p2), .val (.ref a20), .unset, .unset, .unset, .unset] [(.int (16 : Int32)), (.long p1), (.int (2 : Int32)), (.ref a20)])) (fun t k => XT.bipushV X22.here hx rfl (16 : Int32) (hb hby at_23) rfl k) ?_
  refine Gl.st (g' := (mkF m 26 #[.val (.long p1), .second, .val (.int p2), .val (.ref a20), .unset, .unset, .unset, .unset] [(.long (((p1).toUInt64 >>> ((16 : Int32) &&& 0x3f).toInt64.toUInt64).toInt64)), (.int (2 : Int32)), (.ref a20)])) (fun t k => XS.lushr X22.here hx rfl (hb hby at_25) rfl k) ?_
  refine Gl.st (g' := (mkF m 27 #[.val (.long p1), .second, .val (.int p2), .val (.ref a20), .unset, .unset, .unset, .unset] [(.int ((((p1).toUInt64 >>> ((16 : Int32) &&& 0x3f).toInt64.toUInt64).toInt64).toInt32)), (.int (2 : Int32)), (.ref a20)])) (fun t k => XS.l2i X22.here hx rfl (hb hby at_26) rfl k) ?_
  refine Gl.st (g' := (mkF m 28 #[.val (.long p1), .second, .val (.int p2), .val (.ref a20), .unset, .unset, .unset, .unset] [(.int (((((p1).toUInt64 >>> ((16 : Int32) &&& 0x3f).toInt64.toUInt64).toInt64).toInt32).toInt8.toInt32)), (.int (2 : Int32)), (.ref a20)])) (fun t k => XS.i2b X22.here hx rfl (hb hby at_27) rfl k) ?_
  obtain ⟨T23, h23, b23, X23, e23, W23, hb23, V23, st23⟩ := own_stB X22 hx hZ e22 V22 (j := (2 : Int32)) (by decide) 2 (by decide) (by decide : 2 < 8) (g := (mkF m 28 #[.val (.long p1), .second, .val (.int p2), .val (.ref a20), .unset, .unset, .unset, .unset] [(.int (((((p1).toUInt64 >>> ((16 : Int32) &&& 0x3f).toInt64.toUInt64).toInt64).toInt32).toInt8.toInt32)), (.int (2 : Int32)), (.ref a20)])) rfl rfl (hb hby at_28)
  have N23 := Fr.snoc X23 N22 ge20
  have Z23 : n0 ≤ h23.size := Nat.le_trans Z22 (Keep.of_wr W23).1
  change Arv Z h23 a20 cA20 .byte (8 : Int32) [(.int b21), (.int b22), (.int b23), (.int (0 : Int32)), (.int (0 : Int32)), (.int (0 : Int32)), (.int (0 : Int32)), (.int (0 : Int32))] (.int (0 : Int32)) at V23
  refine Gl.st (g' := (mkF m 29 #[.val (.long p1), .second, .val (.int p2), .val (.ref a20), .unset, .unset, .unset, .unset] [])) st23 ?_
  refine Gl.st (g' := (mkF m 30 #[.val (.long p1), .second, .val (.int p2), .val (.ref a20), .unset, .unset, .unset, .unset] [(.ref a20)])) (fun t k => XS.aloadN X23.here hx rfl (hb hby at_29) rfl rfl k) ?_
  refine Gl.st (g' := (mkF m 31 #[.val (.long p1), .second, .val (.int p2), .val (.ref a20), .unset, .unset, .unset, .unset] [(.int (3 : Int32)), (.ref a20)])) (fun t k => XT.iconstV X23.here hx rfl (3 : Int32) (hb hby at_30) rfl k) ?_
  refine Gl.st (g' := (mkF m 32 #[.val (.long p1), .second, .val (.int p2), .val (.ref a20), .unset, .unset, .unset, .unset] [(.long p1), (.int (3 : Int32)), (.ref a20)])) (fun t k => XS.lloadN X23.here hx rfl (hb hby at_31) rfl k) ?_
  refine Gl.st (g' := (mkF m 34 #[.val (.long p1), .second, .val (.int p2), .val (.ref a20), .unset, .unset, .unset, .unset] [(.int (24 : Int32)), (.long p1), (.int (3 : Int32)), (.ref a20)])) (fun t k => XT.bipushV X23.here hx rfl (24 : Int32) (hb hby at_32) rfl k) ?_
  refine Gl.st (g' := (mkF m 35 #[.val (.long p1), .second, .val (.int p2), .val (.ref a20), .unset, .unset, .unset, .unset] [(.long (((p1).toUInt64 >>> ((24 : Int32) &&& 0x3f).toInt64.toUInt64).toInt64)), (.int (3 : Int32)), (.ref a20)])) (fun t k => XS.lushr X23.here hx rfl (hb hby at_34) rfl k) ?_
  refine Gl.st (g' := (mkF m 36 #[.val (.long p1), .second, .val (.int p2), .val (.ref a20), .unset, .unset, .unset, .unset] [(.int ((((p1).toUInt64 >>> ((24 : Int32) &&& 0x3f).toInt64.toUInt64).toInt64).toInt32)), (.int (3 : Int32)), (.ref a20)])) (fun t k => XS.l2i X23.here hx rfl (hb hby at_35) rfl k) ?_
  refine Gl.st (g' := (mkF m 37 #[.val (.long p1), .second, .val (.int p2), .val (.ref a20), .unset, .unset, .unset, .unset] [(.int (((((p1).toUInt64 >>> ((24 : Int32) &&& 0x3f).toInt64.toUInt64).toInt64).toInt32).toInt8.toInt32)), (.int (3 : Int32)), (.ref a20)])) (fun t k => XS.i2b X23.here hx rfl (hb hby at_36) rfl k) ?_
  obtain ⟨T24, h24, b24, X24, e24, W24, hb24, V24, st24⟩ := own_stB X23 hx hZ e23 V23 (j := (3 : Int32)) (by decide) 3 (by decide) (by decide : 3 < 8) (g := (mkF m 37 #[.val (.long p1), .second, .val (.int p2), .val (.ref a20), .unset, .unset, .unset, .unset] [(.int (((((p1).toUInt64 >>> ((24 : Int32) &&& 0x3f).toInt64.toUInt64).toInt64).toInt32).toInt8.toInt32)), (.int (3 : Int32)), (.ref a20)])) rfl rfl (hb hby at_37)
  have N24 := Fr.snoc X24 N23 ge20
  have Z24 : n0 ≤ h24.size := Nat.le_trans Z23 (Keep.of_wr W24).1
  change Arv Z h24 a20 cA20 .byte (8 : Int32) [(.int b21), (.int b22), (.int b23), (.int b24), (.int (0 : Int32)), (.int (0 : Int32)), (.int (0 : Int32)), (.int (0 : Int32))] (.int (0 : Int32)) at V24
  refine Gl.st (g' := (mkF m 38 #[.val (.long p1), .second, .val (.int p2), .val (.ref a20), .unset, .unset, .unset, .unset] [])) st24 ?_
  refine Gl.st (g' := (mkF m 39 #[.val (.long p1), .second, .val (.int p2), .val (.ref a20), .unset, .unset, .unset, .unset] [(.ref a20)])) (fun t k => XS.aloadN X24.here hx rfl (hb hby at_38) rfl rfl k) ?_
  refine Gl.st (g' := (mkF m 40 #[.val (.long p1), .second, .val (.int p2), .val (.ref a20), .unset, .unset, .unset, .unset] [(.int (4 : Int32)), (.ref a20)])) (fun t k => XT.iconstV X24.here hx rfl (4 : Int32) (hb hby at_39) rfl k) ?_
  refine Gl.st (g' := (mkF m 41 #[.val (.long p1), .second, .val (.int p2), .val (.ref a20), .unset, .unset, .unset, .unset] [(.long p1), (.int (4 : Int32)), (.ref a20)])) (fun t k => XS.lloadN X24.here hx rfl (hb hby at_40) rfl k) ?_
  refine Gl.st (g' := (mkF m 43 #[.val (.long p1), .second, .val (.int p2), .val (.ref a20), .unset, .unset, .unset, .unset] [(.int (32 : Int32)), (.long p1), (.int (4 : Int32)), (.ref a20)])) (fun t k => XT.bipushV X24.here hx rfl (32 : Int32) (hb hby at_41) rfl k) ?_
  refine Gl.st (g' := (mkF m 44 #[.val (.long p1), .second, .val (.int p2), .val (.ref a20), .unset, .unset, .unset, .unset] [(.long (((p1).toUInt64 >>> ((32 : Int32) &&& 0x3f).toInt64.toUInt64).toInt64)), (.int (4 : Int32)), (.ref a20)])) (fun t k => XS.lushr X24.here hx rfl (hb hby at_43) rfl k) ?_
  refine Gl.st (g' := (mkF m 45 #[.val (.long p1), .second, .val (.int p2), .val (.ref a20), .unset, .unset, .unset, .unset] [(.int ((((p1).toUInt64 >>> ((32 : Int32) &&& 0x3f).toInt64.toUInt64).toInt64).toInt32)), (.int (4 : Int32)), (.ref a20)])) (fun t k => XS.l2i X24.here hx rfl (hb hby at_44) rfl k) ?_
  refine Gl.st (g' := (mkF m 46 #[.val (.long p1), .second, .val (.int p2), .val (.ref a20), .unset, .unset, .unset, .unset] [(.int (((((p1).toUInt64 >>> ((32 : Int32) &&& 0x3f).toInt64.toUInt64).toInt64).toInt32).toInt8.toInt32)), (.int (4 : Int32)), (.ref a20)])) (fun t k => XS.i2b X24.here hx rfl (hb hby at_45) rfl k) ?_
  obtain ⟨T25, h25, b25, X25, e25, W25, hb25, V25, st25⟩ := own_stB X24 hx hZ e24 V24 (j := (4 : Int32)) (by decide) 4 (by decide) (by decide : 4 < 8) (g := (mkF m 46 #[.val (.long p1), .second, .val (.int p2), .val (.ref a20), .unset, .unset, .unset, .unset] [(.int (((((p1).toUInt64 >>> ((32 : Int32) &&& 0x3f).toInt64.toUInt64).toInt64).toInt32).toInt8.toInt32)), (.int (4 : Int32)), (.ref a20)])) rfl rfl (hb hby at_46)
  have N25 := Fr.snoc X25 N24 ge20
  have Z25 : n0 ≤ h25.size := Nat.le_trans Z24 (Keep.of_wr W25).1
  change Arv Z h25 a20 cA20 .byte (8 : Int32) [(.int b21), (.int b22), (.int b23), (.int b24), (.int b25), (.int (0 : Int32)), (.int (0 : Int32)), (.int (0 : Int32))] (.int (0 : Int32)) at V25
  refine Gl.st (g' := (mkF m 47 #[.val (.long p1), .second, .val (.int p2), .val (.ref a20), .unset, .unset, .unset, .unset] [])) st25 ?_
  refine Gl.st (g' := (mkF m 48 #[.val (.long p1), .second, .val (.int p2), .val (.ref a20), .unset, .unset, .unset, .unset] [(.ref a20)])) (fun t k => XS.aloadN X25.here hx rfl (hb hby at_47) rfl rfl k) ?_
  refine Gl.st (g' := (mkF m 49 #[.val (.long p1), .second, .val (.int p2), .val (.ref a20), .unset, .unset, .unset, .unset] [(.int (5 : Int32)), (.ref a20)])) (fun t k => XT.iconstV X25.here hx rfl (5 : Int32) (hb hby at_48) rfl k) ?_
  refine Gl.st (g' := (mkF m 50 #[.val (.long p1), .second, .val (.int p2), .val (.ref a20), .unset, .unset, .unset, .unset] [(.long p1), (.int (5 : Int32)), (.ref a20)])) (fun t k => XS.lloadN X25.here hx rfl (hb hby at_49) rfl k) ?_
  refine Gl.st (g' := (mkF m 52 #[.val (.long p1), .second, .val (.int p2), .val (.ref a20), .unset, .unset, .unset, .unset] [(.int (40 : Int32)), (.long p1), (.int (5 : Int32)), (.ref a20)])) (fun t k => XT.bipushV X25.here hx rfl (40 : Int32) (hb hby at_50) rfl k) ?_
  refine Gl.st (g' := (mkF m 53 #[.val (.long p1), .second, .val (.int p2), .val (.ref a20), .unset, .unset, .unset, .unset] [(.long (((p1).toUInt64 >>> ((40 : Int32) &&& 0x3f).toInt64.toUInt64).toInt64)), (.int (5 : Int32)), (.ref a20)])) (fun t k => XS.lushr X25.here hx rfl (hb hby at_52) rfl k) ?_
  refine Gl.st (g' := (mkF m 54 #[.val (.long p1), .second, .val (.int p2), .val (.ref a20), .unset, .unset, .unset, .unset] [(.int ((((p1).toUInt64 >>> ((40 : Int32) &&& 0x3f).toInt64.toUInt64).toInt64).toInt32)), (.int (5 : Int32)), (.ref a20)])) (fun t k => XS.l2i X25.here hx rfl (hb hby at_53) rfl k) ?_
  refine Gl.st (g' := (mkF m 55 #[.val (.long p1), .second, .val (.int p2), .val (.ref a20), .unset, .unset, .unset, .unset] [(.int (((((p1).toUInt64 >>> ((40 : Int32) &&& 0x3f).toInt64.toUInt64).toInt64).toInt32).toInt8.toInt32)), (.int (5 : Int32)), (.ref a20)])) (fun t k => XS.i2b X25.here hx rfl (hb hby at_54) rfl k) ?_
  obtain ⟨T26, h26, b26, X26, e26, W26, hb26, V26, st26⟩ := own_stB X25 hx hZ e25 V25 (j := (5 : Int32)) (by decide) 5 (by decide) (by decide : 5 < 8) (g := (mkF m 55 #[.val (.long p1), .second, .val (.int p2), .val (.ref a20), .unset, .unset, .unset, .unset] [(.int (((((p1).toUInt64 >>> ((40 : Int32) &&& 0x3f).toInt64.toUInt64).toInt64).toInt32).toInt8.toInt32)), (.int (5 : Int32)), (.ref a20)])) rfl rfl (hb hby at_55)
  have N26 := Fr.snoc X26 N25 ge20
  have Z26 : n0 ≤ h26.size := Nat.le_trans Z25 (Keep.of_wr W26).1
  change Arv Z h26 a20 cA20 .byte (8 : Int32) [(.int b21), (.int b22), (.int b23), (.int b24), (.int b25), (.int b26), (.int (0 : Int32)), (.int (0 : Int32))] (.int (0 : Int32)) at V26
  refine Gl.st (g' := (mkF m 56 #[.val (.long p1), .second, .val (.int p2), .val (.ref a20), .unset, .unset, .unset, .unset] [])) st26 ?_
  refine Gl.st (g' := (mkF m 57 #[.val (.long p1), .second, .val (.int p2), .val (.ref a20), .unset, .unset, .unset, .unset] [(.ref a20)])) (fun t k => XS.aloadN X26.here hx rfl (hb hby at_56) rfl rfl k) ?_
  refine Gl.st (g' := (mkF m 59 #[.val (.long p1), .second, .val (.int p2), .val (.ref a20), .unset, .unset, .unset, .unset] [(.int (6 : Int32)), (.ref a20)])) (fun t k => XT.bipushV X26.here hx rfl (6 : Int32) (hb hby at_57) rfl k) ?_
  refine Gl.st (g' := (mkF m 60 #[.val (.long p1), .second, .val (.int p2), .val (.ref a20), .unset, .unset, .unset, .unset] [(.long p1), (.int (6 : Int32)), (.ref a20)])) (fun t k => XS.lloadN X26.here hx rfl (hb hby at_59) rfl k) ?_
  refine Gl.st (g' := (mkF m 62 #[.val (.long p1), .second, .val (.int p2), .val (.ref a20), .unset, .unset, .unset, .unset] [(.int (48 : Int32)), (.long p1), (.int (6 : Int32)), (.ref a20)])) (fun t k => XT.bipushV X26.here hx rfl (48 : Int32) (hb hby at_60) rfl k) ?_
  refine Gl.st (g' := (mkF m 63 #[.val (.long p1), .second, .val (.int p2), .val (.ref a20), .unset, .unset, .unset, .unset] [(.long (((p1).toUInt64 >>> ((48 : Int32) &&& 0x3f).toInt64.toUInt64).toInt64)), (.int (6 : Int32)), (.ref a20)])) (fun t k => XS.lushr X26.here hx rfl (hb hby at_62) rfl k) ?_
  refine Gl.st (g' := (mkF m 64 #[.val (.long p1), .second, .val (.int p2), .val (.ref a20), .unset, .unset, .unset, .unset] [(.int ((((p1).toUInt64 >>> ((48 : Int32) &&& 0x3f).toInt64.toUInt64).toInt64).toInt32)), (.int (6 : Int32)), (.ref a20)])) (fun t k => XS.l2i X26.here hx rfl (hb hby at_63) rfl k) ?_
  refine Gl.st (g' := (mkF m 65 #[.val (.long p1), .second, .val (.int p2), .val (.ref a20), .unset, .unset, .unset, .unset] [(.int (((((p1).toUInt64 >>> ((48 : Int32) &&& 0x3f).toInt64.toUInt64).toInt64).toInt32).toInt8.toInt32)), (.int (6 : Int32)), (.ref a20)])) (fun t k => XS.i2b X26.here hx rfl (hb hby at_64) rfl k) ?_
  obtain ⟨T27, h27, b27, X27, e27, W27, hb27, V27, st27⟩ := own_stB X26 hx hZ e26 V26 (j := (6 : Int32)) (by decide) 6 (by decide) (by decide : 6 < 8) (g := (mkF m 65 #[.val (.long p1), .second, .val (.int p2), .val (.ref a20), .unset, .unset, .unset, .unset] [(.int (((((p1).toUInt64 >>> ((48 : Int32) &&& 0x3f).toInt64.toUInt64).toInt64).toInt32).toInt8.toInt32)), (.int (6 : Int32)), (.ref a20)])) rfl rfl (hb hby at_65)
  have N27 := Fr.snoc X27 N26 ge20
  have Z27 : n0 ≤ h27.size := Nat.le_trans Z26 (Keep.of_wr W27).1
  change Arv Z h27 a20 cA20 .byte (8 : Int32) [(.int b21), (.int b22), (.int b23), (.int b24), (.int b25), (.int b26), (.int b27), (.int (0 : Int32))] (.int (0 : Int32)) at V27
  refine Gl.st (g' := (mkF m 66 #[.val (.long p1), .second, .val (.int p2), .val (.ref a20), .unset, .unset, .unset, .unset] [])) st27 ?_
  refine Gl.st (g' := (mkF m 67 #[.val (.long p1), .second, .val (.int p2), .val (.ref a20), .unset, .unset, .unset, .unset] [(.ref a20)])) (fun t k => XS.aloadN X27.here hx rfl (hb hby at_66) rfl rfl k) ?_
  refine Gl.st (g' := (mkF m 69 #[.val (.long p1), .second, .val (.int p2), .val (.ref a20), .unset, .unset, .unset, .unset] [(.int (7 : Int32)), (.ref a20)])) (fun t k => XT.bipushV X27.here hx rfl (7 : Int32) (hb hby at_67) rfl k) ?_
  refine Gl.st (g' := (mkF m 70 #[.val (.long p1), .second, .val (.int p2), .val (.ref a20), .unset, .unset, .unset, .unset] [(.long p1), (.int (7 : Int32)), (.ref a20)])) (fun t k => XS.lloadN X27.here hx rfl (hb hby at_69) rfl k) ?_
  refine Gl.st (g' := (mkF m 72 #[.val (.long p1), .second, .val (.int p2), .val (.ref a20), .unset, .unset, .unset, .unset] [(.int (56 : Int32)), (.long p1), (.int (7 : Int32)), (.ref a20)])) (fun t k => XT.bipushV X27.here hx rfl (56 : Int32) (hb hby at_70) rfl k) ?_
  refine Gl.st (g' := (mkF m 73 #[.val (.long p1), .second, .val (.int p2), .val (.ref a20), .unset, .unset, .unset, .unset] [(.long (((p1).toUInt64 >>> ((56 : Int32) &&& 0x3f).toInt64.toUInt64).toInt64)), (.int (7 : Int32)), (.ref a20)])) (fun t k => XS.lushr X27.here hx rfl (hb hby at_72) rfl k) ?_
  refine Gl.st (g' := (mkF m 74 #[.val (.long p1), .second, .val (.int p2), .val (.ref a20), .unset, .unset, .unset, .unset] [(.int ((((p1).toUInt64 >>> ((56 : Int32) &&& 0x3f).toInt64.toUInt64).toInt64).toInt32)), (.int (7 : Int32)), (.ref a20)])) (fun t k => XS.l2i X27.here hx rfl (hb hby at_73) rfl k) ?_
  refine Gl.st (g' := (mkF m 75 #[.val (.long p1), .second, .val (.int p2), .val (.ref a20), .unset, .unset, .unset, .unset] [(.int (((((p1).toUInt64 >>> ((56 : Int32) &&& 0x3f).toInt64.toUInt64).toInt64).toInt32).toInt8.toInt32)), (.int (7 : Int32)), (.ref a20)])) (fun t k => XS.i2b X27.here hx rfl (hb hby at_74) rfl k) ?_
  obtain ⟨T28, h28, b28, X28, e28, W28, hb28, V28, st28⟩ := own_stB X27 hx hZ e27 V27 (j := (7 : Int32)) (by decide) 7 (by decide) (by decide : 7 < 8) (g := (mkF m 75 #[.val (.long p1), .second, .val (.int p2), .val (.ref a20), .unset, .unset, .unset, .unset] [(.int (((((p1).toUInt64 >>> ((56 : Int32) &&& 0x3f).toInt64.toUInt64).toInt64).toInt32).toInt8.toInt32)), (.int (7 : Int32)), (.ref a20)])) rfl rfl (hb hby at_75)
  have N28 := Fr.snoc X28 N27 ge20
  have Z28 : n0 ≤ h28.size := Nat.le_trans Z27 (Keep.of_wr W28).1
  change Arv Z h28 a20 cA20 .byte (8 : Int32) [(.int b21), (.int b22), (.int b23), (.int b24), (.int b25), (.int b26), (.int b27), (.int b28)] (.int (0 : Int32)) at V28
  refine Gl.st (g' := (mkF m 76 #[.val (.long p1), .second, .val (.int p2), .val (.ref a20), .unset, .unset, .unset, .unset] [])) st28 ?_
  refine Gl.st (g' := (mkF m 77 #[.val (.long p1), .second, .val (.int p2), .val (.ref a20), .unset, .unset, .unset, .unset] [(.int p2)])) (fun t k => XS.iloadN X28.here hx rfl (hb hby at_76) rfl k) ?_
  refine Gl.st (g' := (mkF m 79 #[.val (.long p1), .second, .val (.int p2), .val (.ref a20), .unset, .unset, .unset, .unset] [(.int (2147483647 : Int32)), (.int p2)])) (fun t k => X28.ldcI hx hown (mvT hZ (hw _ (List.mem_of_getElem? (i := 1) rfl))) rfl (hb hby at_77) k) ?_
  refine Gl.st (g' := (mkF m 80 #[.val (.long p1), .second, .val (.int p2), .val (.ref a20), .unset, .unset, .unset, .unset] [(.int (p2 &&& (2147483647 : Int32)))])) (fun t k => XS.iand X28.here hx rfl (hb hby at_79) rfl k) ?_
  refine Gl.st (g' := (mkF m 82 #[.val (.long p1), .second, .val (.int p2), .val (.ref a20), .unset, .unset, .unset, .unset] [(.int (9 : Int32)), (.int (p2 &&& (2147483647 : Int32)))])) (fun t k => XT.bipushV X28.here hx rfl (9 : Int32) (hb hby at_80) rfl k) ?_
  refine Gl.st (g' := (mkF m 83 #[.val (.long p1), .second, .val (.int p2), .val (.ref a20), .unset, .unset, .unset, .unset] [(.int ((p2 &&& (2147483647 : Int32)) % (9 : Int32)))])) (fun t k => iremM X28 hx rfl (hb hby at_82) rfl (by decide) k) ?_
  generalize hv29 : ((p2 &&& (2147483647 : Int32)) % (9 : Int32)) = v29
  refine Gl.st (g' := (mkF m 85 #[.val (.long p1), .second, .val (.int p2), .val (.ref a20), .val (.int v29), .unset, .unset, .unset] [])) (fun t k => XS.istore X28.here hx rfl (hb hby at_83) rfl (l' := #[.val (.long p1), .second, .val (.int p2), .val (.ref a20), .val (.int v29), .unset, .unset, .unset]) rfl k) ?_
  have hN := own_n hv29
  refine Gl.st (g' := (mkF m 86 #[.val (.long p1), .second, .val (.int p2), .val (.ref a20), .val (.int v29), .unset, .unset, .unset] [(.int (0 : Int32))])) (fun t k => XT.iconstV X28.here hx rfl (0 : Int32) (hb hby at_85) rfl k) ?_
  refine Gl.st (g' := (mkF m 88 #[.val (.long p1), .second, .val (.int p2), .val (.ref a20), .val (.int v29), .val (.int (0 : Int32)), .unset, .unset] [])) (fun t k => XS.istore X28.here hx rfl (hb hby at_86) rfl (l' := #[.val (.long p1), .second, .val (.int p2), .val (.ref a20), .val (.int v29), .val (.int (0 : Int32)), .unset, .unset]) rfl k) ?_
  refine Gl.st (g' := (mkF m 90 #[.val (.long p1), .second, .val (.int p2), .val (.ref a20), .val (.int v29), .val (.int (0 : Int32)), .unset, .unset] [(.int v29)])) (fun t k => XS.iload X28.here hx rfl (hb hby at_88) rfl k) ?_
  by_cases c30 : (0 : Int32) < v29
  · skip
    refine Gl.st (g' := (mkF m 93 #[.val (.long p1), .second, .val (.int p2), .val (.ref a20), .val (.int v29), .val (.int (0 : Int32)), .unset, .unset] [])) (fun t k => XS.ifNo X28.here hx rfl (hb hby at_90) rfl (XT.i0_le_f c30) k) ?_
    refine Gl.st (g' := (mkF m 95 #[.val (.long p1), .second, .val (.int p2), .val (.ref a20), .val (.int v29), .val (.int (0 : Int32)), .unset, .unset] [(.int (0 : Int32))])) (fun t k => XS.iload X28.here hx rfl (hb hby at_93) rfl k) ?_
    refine Gl.st (g' := (mkF m 96 #[.val (.long p1), .second, .val (.int p2), .val (.ref a20), .val (.int v29), .val (.int (0 : Int32)), .unset, .unset] [(.ref a20), (.int (0 : Int32))])) (fun t k => XS.aloadN X28.here hx rfl (hb hby at_95) rfl rfl k) ?_
    refine Gl.st (g' := (mkF m 97 #[.val (.long p1), .second, .val (.int p2), .val (.ref a20), .val (.int v29), .val (.int (0 : Int32)), .unset, .unset] [(.int (0 : Int32)), (.ref a20), (.int (0 : Int32))])) (fun t k => XT.iconstV X28.here hx rfl (0 : Int32) (hb hby at_96) rfl k) ?_
    refine Gl.st (g' := (mkF m 98 #[.val (.long p1), .second, .val (.int p2), .val (.ref a20), .val (.int v29), .val (.int (0 : Int32)), .unset, .unset] [(.int b21), (.int (0 : Int32))])) (own_ldB X28 hx hZ e28 V28 (j := (0 : Int32)) (v := (.int b21)) (by decide) rfl (g := (mkF m 97 #[.val (.long p1), .second, .val (.int p2), .val (.ref a20), .val (.int v29), .val (.int (0 : Int32)), .unset, .unset] [(.int (0 : Int32)), (.ref a20), (.int (0 : Int32))])) rfl rfl (hb hby at_97)) ?_
    obtain ⟨_, _, ⟨T31, L31, k31, n31⟩, -, X31, ⟨Lc31, hQ31, l31, y31, z31⟩, st31⟩ := Jvm.LawKit.callS X28 hx (y := (⟨"keyhalo/KeyHashCrc16PinLaw", "step", "(IB)I"⟩ : MethodName)) hown (mvT hZ (hw _ (List.mem_of_getElem? (i := 2) rfl))) (mvT hZ (hw _ (List.mem_of_getElem? (i := 3) rfl))) (mvT hZ (hw _ (List.mem_of_getElem? (i := 4) rfl))) (mvT hZ (hw _ (List.mem_of_getElem? (i := 5) rfl))) (by decide) (backOf (W := 0) (rm3 l Z a0 hw (0 : Int32) b21  h28 n0 Z28 ) hZ (hw _ (List.mem_of_getElem? (i := 5) rfl)) (hw _ (List.mem_of_getElem? (i := 4) rfl)) (by decide) (by decide)) (g := (mkF m 98 #[.val (.long p1), .second, .val (.int p2), .val (.ref a20), .val (.int v29), .val (.int (0 : Int32)), .unset, .unset] [(.int b21), (.int (0 : Int32))])) rfl (by rw [hml]; rfl) (argsL := [(.int (0 : Int32)), (.int b21)]) (rest := []) (lenOf pd_2 rfl) rfl (by show 2 * 0 + _ ≤ _; exact Nat.le_of_eq rfl) (hb hby at_98) (fun _ _ => ⟨rfl, e28, (by decide : 0 + 1 + 0 ≤ _), (by decide : 0 + 8 + 0 ≤ _)⟩)
    dsimp only [Pt.U, Pt.locs, Pt.cells, Pt.slots] at X31 l31 y31 z31 st31 hQ31
    subst l31 y31 z31
    obtain ⟨rfl, Nq31, e31⟩ := hQ31
    have N31 := Fr.app N28 Nq31
    refine Gl.st (g' := (mkF m 101 #[.val (.long p1), .second, .val (.int p2), .val (.ref a20), .val (.int v29), .val (.int (0 : Int32)), .unset, .unset] [(.int (own_cl (0 : Int32) b21))])) st31 ?_
    generalize hv32 : (own_cl (0 : Int32) b21) = v32
    refine Gl.st (g' := (mkF m 103 #[.val (.long p1), .second, .val (.int p2), .val (.ref a20), .val (.int v29), .val (.int v32), .unset, .unset] [])) (fun t k => XS.istore X31.here hx rfl (hb hby at_101) rfl (l' := #[.val (.long p1), .second, .val (.int p2), .val (.ref a20), .val (.int v29), .val (.int v32), .unset, .unset]) rfl k) ?_
    refine Gl.st (g' := (mkF m 105 #[.val (.long p1), .second, .val (.int p2), .val (.ref a20), .val (.int v29), .val (.int v32), .unset, .unset] [(.int v29)])) (fun t k => XS.iload X31.here hx rfl (hb hby at_103) rfl k) ?_
    refine Gl.st (g' := (mkF m 106 #[.val (.long p1), .second, .val (.int p2), .val (.ref a20), .val (.int v29), .val (.int v32), .unset, .unset] [(.int (1 : Int32)), (.int v29)])) (fun t k => XT.iconstV X31.here hx rfl (1 : Int32) (hb hby at_105) rfl k) ?_
    by_cases c33 : (1 : Int32) < v29
    · skip
      refine Gl.st (g' := (mkF m 109 #[.val (.long p1), .second, .val (.int p2), .val (.ref a20), .val (.int v29), .val (.int v32), .unset, .unset] [])) (fun t k => XS.icmpNo X31.here hx rfl (hb hby at_106) rfl (XT.ii_le_f c33) k) ?_
      refine Gl.st (g' := (mkF m 111 #[.val (.long p1), .second, .val (.int p2), .val (.ref a20), .val (.int v29), .val (.int v32), .unset, .unset] [(.int v32)])) (fun t k => XS.iload X31.here hx rfl (hb hby at_109) rfl k) ?_
      refine Gl.st (g' := (mkF m 112 #[.val (.long p1), .second, .val (.int p2), .val (.ref a20), .val (.int v29), .val (.int v32), .unset, .unset] [(.ref a20), (.int v32)])) (fun t k => XS.aloadN X31.here hx rfl (hb hby at_111) rfl rfl k) ?_
      refine Gl.st (g' := (mkF m 113 #[.val (.long p1), .second, .val (.int p2), .val (.ref a20), .val (.int v29), .val (.int v32), .unset, .unset] [(.int (1 : Int32)), (.ref a20), (.int v32)])) (fun t k => XT.iconstV X31.here hx rfl (1 : Int32) (hb hby at_112) rfl k) ?_
      refine Gl.st (g' := (mkF m 114 #[.val (.long p1), .second, .val (.int p2), .val (.ref a20), .val (.int v29), .val (.int v32), .unset, .unset] [(.int b22), (.int v32)])) (own_ldB X31 hx hZ e31 V28 (j := (1 : Int32)) (v := (.int b22)) (by decide) rfl (g := (mkF m 113 #[.val (.long p1), .second, .val (.int p2), .val (.ref a20), .val (.int v29), .val (.int v32), .unset, .unset] [(.int (1 : Int32)), (.ref a20), (.int v32)])) rfl rfl (hb hby at_113)) ?_
      obtain ⟨_, _, ⟨T34, L34, k34, n34⟩, -, X34, ⟨Lc34, hQ34, l34, y34, z34⟩, st34⟩ := Jvm.LawKit.callS X31 hx (y := (⟨"keyhalo/KeyHashCrc16PinLaw", "step", "(IB)I"⟩ : MethodName)) hown (mvT hZ (hw _ (List.mem_of_getElem? (i := 2) rfl))) (mvT hZ (hw _ (List.mem_of_getElem? (i := 3) rfl))) (mvT hZ (hw _ (List.mem_of_getElem? (i := 4) rfl))) (mvT hZ (hw _ (List.mem_of_getElem? (i := 5) rfl))) (by decide) (backOf (W := 0) (rm3 l Z a0 hw v32 b22  h28 n0 Z28 ) hZ (hw _ (List.mem_of_getElem? (i := 5) rfl)) (hw _ (List.mem_of_getElem? (i := 4) rfl)) (by decide) (by decide)) (g := (mkF m 114 #[.val (.long p1), .second, .val (.int p2), .val (.ref a20), .val (.int v29), .val (.int v32), .unset, .unset] [(.int b22), (.int v32)])) rfl (by rw [hml]; rfl) (argsL := [(.int v32), (.int b22)]) (rest := []) (lenOf pd_2 rfl) rfl (by show 2 * 0 + _ ≤ _; exact Nat.le_of_eq rfl) (hb hby at_114) (fun _ _ => ⟨rfl, e31, (by decide : 0 + 1 + 0 + 0 ≤ _), (by decide : 0 + 8 + 0 + 0 ≤ _)⟩)
      dsimp only [Pt.U, Pt.locs, Pt.cells, Pt.slots] at X34 l34 y34 z34 st34 hQ34
      subst l34 y34 z34
      obtain ⟨rfl, Nq34, e34⟩ := hQ34
      have N34 := Fr.app N31 Nq34
      refine Gl.st (g' := (mkF m 117 #[.val (.long p1), .second, .val (.int p2), .val (.ref a20), .val (.int v29), .val (.int v32), .unset, .unset] [(.int (own_cl v32 b22))])) st34 ?_
      generalize hv35 : (own_cl v32 b22) = v35
      refine Gl.st (g' := (mkF m 119 #[.val (.long p1), .second, .val (.int p2), .val (.ref a20), .val (.int v29), .val (.int v35), .unset, .unset] [])) (fun t k => XS.istore X34.here hx rfl (hb hby at_117) rfl (l' := #[.val (.long p1), .second, .val (.int p2), .val (.ref a20), .val (.int v29), .val (.int v35), .unset, .unset]) rfl k) ?_
      refine Gl.st (g' := (mkF m 121 #[.val (.long p1), .second, .val (.int p2), .val (.ref a20), .val (.int v29), .val (.int v35), .unset, .unset] [(.int v29)])) (fun t k => XS.iload X34.here hx rfl (hb hby at_119) rfl k) ?_
      refine Gl.st (g' := (mkF m 122 #[.val (.long p1), .second, .val (.int p2), .val (.ref a20), .val (.int v29), .val (.int v35), .unset, .unset] [(.int (2 : Int32)), (.int v29)])) (fun t k => XT.iconstV X34.here hx rfl (2 : Int32) (hb hby at_121) rfl k) ?_
      by_cases c36 : (2 : Int32) < v29
      · skip
        refine Gl.st (g' := (mkF m 125 #[.val (.long p1), .second, .val (.int p2), .val (.ref a20), .val (.int v29), .val (.int v35), .unset, .unset] [])) (fun t k => XS.icmpNo X34.here hx rfl (hb hby at_122) rfl (XT.ii_le_f c36) k) ?_
        refine Gl.st (g' := (mkF m 127 #[.val (.long p1), .second, .val (.int p2), .val (.ref a20), .val (.int v29), .val (.int v35), .unset, .unset] [(.int v35)])) (fun t k => XS.iload X34.here hx rfl (hb hby at_125) rfl k) ?_
        refine Gl.st (g' := (mkF m 128 #[.val (.long p1), .second, .val (.int p2), .val (.ref a20), .val (.int v29), .val (.int v35), .unset, .unset] [(.ref a20), (.int v35)])) (fun t k => XS.aloadN X34.here hx rfl (hb hby at_127) rfl rfl k) ?_
        refine Gl.st (g' := (mkF m 129 #[.val (.long p1), .second, .val (.int p2), .val (.ref a20), .val (.int v29), .val (.int v35), .unset, .unset] [(.int (2 : Int32)), (.ref a20), (.int v35)])) (fun t k => XT.iconstV X34.here hx rfl (2 : Int32) (hb hby at_128) rfl k) ?_
        refine Gl.st (g' := (mkF m 130 #[.val (.long p1), .second, .val (.int p2), .val (.ref a20), .val (.int v29), .val (.int v35), .unset, .unset] [(.int b23), (.int v35)])) (own_ldB X34 hx hZ e34 V28 (j := (2 : Int32)) (v := (.int b23)) (by decide) rfl (g := (mkF m 129 #[.val (.long p1), .second, .val (.int p2), .val (.ref a20), .val (.int v29), .val (.int v35), .unset, .unset] [(.int (2 : Int32)), (.ref a20), (.int v35)])) rfl rfl (hb hby at_129)) ?_
        obtain ⟨_, _, ⟨T37, L37, k37, n37⟩, -, X37, ⟨Lc37, hQ37, l37, y37, z37⟩, st37⟩ := Jvm.LawKit.callS X34 hx (y := (⟨"keyhalo/KeyHashCrc16PinLaw", "step", "(IB)I"⟩ : MethodName)) hown (mvT hZ (hw _ (List.mem_of_getElem? (i := 2) rfl))) (mvT hZ (hw _ (List.mem_of_getElem? (i := 3) rfl))) (mvT hZ (hw _ (List.mem_of_getElem? (i := 4) rfl))) (mvT hZ (hw _ (List.mem_of_getElem? (i := 5) rfl))) (by decide) (backOf (W := 0) (rm3 l Z a0 hw v35 b23  h28 n0 Z28 ) hZ (hw _ (List.mem_of_getElem? (i := 5) rfl)) (hw _ (List.mem_of_getElem? (i := 4) rfl)) (by decide) (by decide)) (g := (mkF m 130 #[.val (.long p1), .second, .val (.int p2), .val (.ref a20), .val (.int v29), .val (.int v35), .unset, .unset] [(.int b23), (.int v35)])) rfl (by rw [hml]; rfl) (argsL := [(.int v35), (.int b23)]) (rest := []) (lenOf pd_2 rfl) rfl (by show 2 * 0 + _ ≤ _; exact Nat.le_of_eq rfl) (hb hby at_130) (fun _ _ => ⟨rfl, e34, (by decide : 0 + 1 + 0 + 0 + 0 ≤ _), (by decide : 0 + 8 + 0 + 0 + 0 ≤ _)⟩)
        dsimp only [Pt.U, Pt.locs, Pt.cells, Pt.slots] at X37 l37 y37 z37 st37 hQ37
        subst l37 y37 z37
        obtain ⟨rfl, Nq37, e37⟩ := hQ37
        have N37 := Fr.app N34 Nq37
        refine Gl.st (g' := (mkF m 133 #[.val (.long p1), .second, .val (.int p2), .val (.ref a20), .val (.int v29), .val (.int v35), .unset, .unset] [(.int (own_cl v35 b23))])) st37 ?_
        generalize hv38 : (own_cl v35 b23) = v38
        refine Gl.st (g' := (mkF m 135 #[.val (.long p1), .second, .val (.int p2), .val (.ref a20), .val (.int v29), .val (.int v38), .unset, .unset] [])) (fun t k => XS.istore X37.here hx rfl (hb hby at_133) rfl (l' := #[.val (.long p1), .second, .val (.int p2), .val (.ref a20), .val (.int v29), .val (.int v38), .unset, .unset]) rfl k) ?_
        refine Gl.st (g' := (mkF m 137 #[.val (.long p1), .second, .val (.int p2), .val (.ref a20), .val (.int v29), .val (.int v38), .unset, .unset] [(.int v29)])) (fun t k => XS.iload X37.here hx rfl (hb hby at_135) rfl k) ?_
        refine Gl.st (g' := (mkF m 138 #[.val (.long p1), .second, .val (.int p2), .val (.ref a20), .val (.int v29), .val (.int v38), .unset, .unset] [(.int (3 : Int32)), (.int v29)])) (fun t k => XT.iconstV X37.here hx rfl (3 : Int32) (hb hby at_137) rfl k) ?_
        by_cases c39 : (3 : Int32) < v29
        · skip
          refine Gl.st (g' := (mkF m 141 #[.val (.long p1), .second, .val (.int p2), .val (.ref a20), .val (.int v29), .val (.int v38), .unset, .unset] [])) (fun t k => XS.icmpNo X37.here hx rfl (hb hby at_138) rfl (XT.ii_le_f c39) k) ?_
          refine Gl.st (g' := (mkF m 143 #[.val (.long p1), .second, .val (.int p2), .val (.ref a20), .val (.int v29), .val (.int v38), .unset, .unset] [(.int v38)])) (fun t k => XS.iload X37.here hx rfl (hb hby at_141) rfl k) ?_
          refine Gl.st (g' := (mkF m 144 #[.val (.long p1), .second, .val (.int p2), .val (.ref a20), .val (.int v29), .val (.int v38), .unset, .unset] [(.ref a20), (.int v38)])) (fun t k => XS.aloadN X37.here hx rfl (hb hby at_143) rfl rfl k) ?_
          refine Gl.st (g' := (mkF m 145 #[.val (.long p1), .second, .val (.int p2), .val (.ref a20), .val (.int v29), .val (.int v38), .unset, .unset] [(.int (3 : Int32)), (.ref a20), (.int v38)])) (fun t k => XT.iconstV X37.here hx rfl (3 : Int32) (hb hby at_144) rfl k) ?_
          refine Gl.st (g' := (mkF m 146 #[.val (.long p1), .second, .val (.int p2), .val (.ref a20), .val (.int v29), .val (.int v38), .unset, .unset] [(.int b24), (.int v38)])) (own_ldB X37 hx hZ e37 V28 (j := (3 : Int32)) (v := (.int b24)) (by decide) rfl (g := (mkF m 145 #[.val (.long p1), .second, .val (.int p2), .val (.ref a20), .val (.int v29), .val (.int v38), .unset, .unset] [(.int (3 : Int32)), (.ref a20), (.int v38)])) rfl rfl (hb hby at_145)) ?_
          obtain ⟨_, _, ⟨T40, L40, k40, n40⟩, -, X40, ⟨Lc40, hQ40, l40, y40, z40⟩, st40⟩ := Jvm.LawKit.callS X37 hx (y := (⟨"keyhalo/KeyHashCrc16PinLaw", "step", "(IB)I"⟩ : MethodName)) hown (mvT hZ (hw _ (List.mem_of_getElem? (i := 2) rfl))) (mvT hZ (hw _ (List.mem_of_getElem? (i := 3) rfl))) (mvT hZ (hw _ (List.mem_of_getElem? (i := 4) rfl))) (mvT hZ (hw _ (List.mem_of_getElem? (i := 5) rfl))) (by decide) (backOf (W := 0) (rm3 l Z a0 hw v38 b24  h28 n0 Z28 ) hZ (hw _ (List.mem_of_getElem? (i := 5) rfl)) (hw _ (List.mem_of_getElem? (i := 4) rfl)) (by decide) (by decide)) (g := (mkF m 146 #[.val (.long p1), .second, .val (.int p2), .val (.ref a20), .val (.int v29), .val (.int v38), .unset, .unset] [(.int b24), (.int v38)])) rfl (by rw [hml]; rfl) (argsL := [(.int v38), (.int b24)]) (rest := []) (lenOf pd_2 rfl) rfl (by show 2 * 0 + _ ≤ _; exact Nat.le_of_eq rfl) (hb hby at_146) (fun _ _ => ⟨rfl, e37, (by decide : 0 + 1 + 0 + 0 + 0 + 0 ≤ _), (by decide : 0 + 8 + 0 + 0 + 0 + 0 ≤ _)⟩)
          dsimp only [Pt.U, Pt.locs, Pt.cells, Pt.slots] at X40 l40 y40 z40 st40 hQ40
          subst l40 y40 z40
          obtain ⟨rfl, Nq40, e40⟩ := hQ40
          have N40 := Fr.app N37 Nq40
          refine Gl.st (g' := (mkF m 149 #[.val (.long p1), .second, .val (.int p2), .val (.ref a20), .val (.int v29), .val (.int v38), .unset, .unset] [(.int (own_cl v38 b24))])) st40 ?_
          generalize hv41 : (own_cl v38 b24) = v41
          refine Gl.st (g' := (mkF m 151 #[.val (.long p1), .second, .val (.int p2), .val (.ref a20), .val (.int v29), .val (.int v41), .unset, .unset] [])) (fun t k => XS.istore X40.here hx rfl (hb hby at_149) rfl (l' := #[.val (.long p1), .second, .val (.int p2), .val (.ref a20), .val (.int v29), .val (.int v41), .unset, .unset]) rfl k) ?_
          refine Gl.st (g' := (mkF m 153 #[.val (.long p1), .second, .val (.int p2), .val (.ref a20), .val (.int v29), .val (.int v41), .unset, .unset] [(.int v29)])) (fun t k => XS.iload X40.here hx rfl (hb hby at_151) rfl k) ?_
          refine Gl.st (g' := (mkF m 154 #[.val (.long p1), .second, .val (.int p2), .val (.ref a20), .val (.int v29), .val (.int v41), .unset, .unset] [(.int (4 : Int32)), (.int v29)])) (fun t k => XT.iconstV X40.here hx rfl (4 : Int32) (hb hby at_153) rfl k) ?_
          by_cases c42 : (4 : Int32) < v29
          · skip
            refine Gl.st (g' := (mkF m 157 #[.val (.long p1), .second, .val (.int p2), .val (.ref a20), .val (.int v29), .val (.int v41), .unset, .unset] [])) (fun t k => XS.icmpNo X40.here hx rfl (hb hby at_154) rfl (XT.ii_le_f c42) k) ?_
            refine Gl.st (g' := (mkF m 159 #[.val (.long p1), .second, .val (.int p2), .val (.ref a20), .val (.int v29), .val (.int v41), .unset, .unset] [(.int v41)])) (fun t k => XS.iload X40.here hx rfl (hb hby at_157) rfl k) ?_
            refine Gl.st (g' := (mkF m 160 #[.val (.long p1), .second, .val (.int p2), .val (.ref a20), .val (.int v29), .val (.int v41), .unset, .unset] [(.ref a20), (.int v41)])) (fun t k => XS.aloadN X40.here hx rfl (hb hby at_159) rfl rfl k) ?_
            refine Gl.st (g' := (mkF m 161 #[.val (.long p1), .second, .val (.int p2), .val (.ref a20), .val (.int v29), .val (.int v41), .unset, .unset] [(.int (4 : Int32)), (.ref a20), (.int v41)])) (fun t k => XT.iconstV X40.here hx rfl (4 : Int32) (hb hby at_160) rfl k) ?_
            refine Gl.st (g' := (mkF m 162 #[.val (.long p1), .second, .val (.int p2), .val (.ref a20), .val (.int v29), .val (.int v41), .unset, .unset] [(.int b25), (.int v41)])) (own_ldB X40 hx hZ e40 V28 (j := (4 : Int32)) (v := (.int b25)) (by decide) rfl (g := (mkF m 161 #[.val (.long p1), .second, .val (.int p2), .val (.ref a20), .val (.int v29), .val (.int v41), .unset, .unset] [(.int (4 : Int32)), (.ref a20), (.int v41)])) rfl rfl (hb hby at_161)) ?_
            obtain ⟨_, _, ⟨T43, L43, k43, n43⟩, -, X43, ⟨Lc43, hQ43, l43, y43, z43⟩, st43⟩ := Jvm.LawKit.callS X40 hx (y := (⟨"keyhalo/KeyHashCrc16PinLaw", "step", "(IB)I"⟩ : MethodName)) hown (mvT hZ (hw _ (List.mem_of_getElem? (i := 2) rfl))) (mvT hZ (hw _ (List.mem_of_getElem? (i := 3) rfl))) (mvT hZ (hw _ (List.mem_of_getElem? (i := 4) rfl))) (mvT hZ (hw _ (List.mem_of_getElem? (i := 5) rfl))) (by decide) (backOf (W := 0) (rm3 l Z a0 hw v41 b25  h28 n0 Z28 ) hZ (hw _ (List.mem_of_getElem? (i := 5) rfl)) (hw _ (List.mem_of_getElem? (i := 4) rfl)) (by decide) (by decide)) (g := (mkF m 162 #[.val (.long p1), .second, .val (.int p2), .val (.ref a20), .val (.int v29), .val (.int v41), .unset, .unset] [(.int b25), (.int v41)])) rfl (by rw [hml]; rfl) (argsL := [(.int v41), (.int b25)]) (rest := []) (lenOf pd_2 rfl) rfl (by show 2 * 0 + _ ≤ _; exact Nat.le_of_eq rfl) (hb hby at_162) (fun _ _ => ⟨rfl, e40, (by decide : 0 + 1 + 0 + 0 + 0 + 0 + 0 ≤ _), (by decide : 0 + 8 + 0 + 0 + 0 + 0 + 0 ≤ _)⟩)
            dsimp only [Pt.U, Pt.locs, Pt.cells, Pt.slots] at X43 l43 y43 z43 st43 hQ43
            subst l43 y43 z43
            obtain ⟨rfl, Nq43, e43⟩ := hQ43
            have N43 := Fr.app N40 Nq43
            refine Gl.st (g' := (mkF m 165 #[.val (.long p1), .second, .val (.int p2), .val (.ref a20), .val (.int v29), .val (.int v41), .unset, .unset] [(.int (own_cl v41 b25))])) st43 ?_
            generalize hv44 : (own_cl v41 b25) = v44
            refine Gl.st (g' := (mkF m 167 #[.val (.long p1), .second, .val (.int p2), .val (.ref a20), .val (.int v29), .val (.int v44), .unset, .unset] [])) (fun t k => XS.istore X43.here hx rfl (hb hby at_165) rfl (l' := #[.val (.long p1), .second, .val (.int p2), .val (.ref a20), .val (.int v29), .val (.int v44), .unset, .unset]) rfl k) ?_
            refine Gl.st (g' := (mkF m 169 #[.val (.long p1), .second, .val (.int p2), .val (.ref a20), .val (.int v29), .val (.int v44), .unset, .unset] [(.int v29)])) (fun t k => XS.iload X43.here hx rfl (hb hby at_167) rfl k) ?_
            refine Gl.st (g' := (mkF m 170 #[.val (.long p1), .second, .val (.int p2), .val (.ref a20), .val (.int v29), .val (.int v44), .unset, .unset] [(.int (5 : Int32)), (.int v29)])) (fun t k => XT.iconstV X43.here hx rfl (5 : Int32) (hb hby at_169) rfl k) ?_
            by_cases c45 : (5 : Int32) < v29
            · skip
              refine Gl.st (g' := (mkF m 173 #[.val (.long p1), .second, .val (.int p2), .val (.ref a20), .val (.int v29), .val (.int v44), .unset, .unset] [])) (fun t k => XS.icmpNo X43.here hx rfl (hb hby at_170) rfl (XT.ii_le_f c45) k) ?_
              refine Gl.st (g' := (mkF m 175 #[.val (.long p1), .second, .val (.int p2), .val (.ref a20), .val (.int v29), .val (.int v44), .unset, .unset] [(.int v44)])) (fun t k => XS.iload X43.here hx rfl (hb hby at_173) rfl k) ?_
              refine Gl.st (g' := (mkF m 176 #[.val (.long p1), .second, .val (.int p2), .val (.ref a20), .val (.int v29), .val (.int v44), .unset, .unset] [(.ref a20), (.int v44)])) (fun t k => XS.aloadN X43.here hx rfl (hb hby at_175) rfl rfl k) ?_
              refine Gl.st (g' := (mkF m 177 #[.val (.long p1), .second, .val (.int p2), .val (.ref a20), .val (.int v29), .val (.int v44), .unset, .unset] [(.int (5 : Int32)), (.ref a20), (.int v44)])) (fun t k => XT.iconstV X43.here hx rfl (5 : Int32) (hb hby at_176) rfl k) ?_
              refine Gl.st (g' := (mkF m 178 #[.val (.long p1), .second, .val (.int p2), .val (.ref a20), .val (.int v29), .val (.int v44), .unset, .unset] [(.int b26), (.int v44)])) (own_ldB X43 hx hZ e43 V28 (j := (5 : Int32)) (v := (.int b26)) (by decide) rfl (g := (mkF m 177 #[.val (.long p1), .second, .val (.int p2), .val (.ref a20), .val (.int v29), .val (.int v44), .unset, .unset] [(.int (5 : Int32)), (.ref a20), (.int v44)])) rfl rfl (hb hby at_177)) ?_
              obtain ⟨_, _, ⟨T46, L46, k46, n46⟩, -, X46, ⟨Lc46, hQ46, l46, y46, z46⟩, st46⟩ := Jvm.LawKit.callS X43 hx (y := (⟨"keyhalo/KeyHashCrc16PinLaw", "step", "(IB)I"⟩ : MethodName)) hown (mvT hZ (hw _ (List.mem_of_getElem? (i := 2) rfl))) (mvT hZ (hw _ (List.mem_of_getElem? (i := 3) rfl))) (mvT hZ (hw _ (List.mem_of_getElem? (i := 4) rfl))) (mvT hZ (hw _ (List.mem_of_getElem? (i := 5) rfl))) (by decide) (backOf (W := 0) (rm3 l Z a0 hw v44 b26  h28 n0 Z28 ) hZ (hw _ (List.mem_of_getElem? (i := 5) rfl)) (hw _ (List.mem_of_getElem? (i := 4) rfl)) (by decide) (by decide)) (g := (mkF m 178 #[.val (.long p1), .second, .val (.int p2), .val (.ref a20), .val (.int v29), .val (.int v44), .unset, .unset] [(.int b26), (.int v44)])) rfl (by rw [hml]; rfl) (argsL := [(.int v44), (.int b26)]) (rest := []) (lenOf pd_2 rfl) rfl (by show 2 * 0 + _ ≤ _; exact Nat.le_of_eq rfl) (hb hby at_178) (fun _ _ => ⟨rfl, e43, (by decide : 0 + 1 + 0 + 0 + 0 + 0 + 0 + 0 ≤ _), (by decide : 0 + 8 + 0 + 0 + 0 + 0 + 0 + 0 ≤ _)⟩)
              dsimp only [Pt.U, Pt.locs, Pt.cells, Pt.slots] at X46 l46 y46 z46 st46 hQ46
              subst l46 y46 z46
              obtain ⟨rfl, Nq46, e46⟩ := hQ46
              have N46 := Fr.app N43 Nq46
              refine Gl.st (g' := (mkF m 181 #[.val (.long p1), .second, .val (.int p2), .val (.ref a20), .val (.int v29), .val (.int v44), .unset, .unset] [(.int (own_cl v44 b26))])) st46 ?_
              generalize hv47 : (own_cl v44 b26) = v47
              refine Gl.st (g' := (mkF m 183 #[.val (.long p1), .second, .val (.int p2), .val (.ref a20), .val (.int v29), .val (.int v47), .unset, .unset] [])) (fun t k => XS.istore X46.here hx rfl (hb hby at_181) rfl (l' := #[.val (.long p1), .second, .val (.int p2), .val (.ref a20), .val (.int v29), .val (.int v47), .unset, .unset]) rfl k) ?_
              refine Gl.st (g' := (mkF m 185 #[.val (.long p1), .second, .val (.int p2), .val (.ref a20), .val (.int v29), .val (.int v47), .unset, .unset] [(.int v29)])) (fun t k => XS.iload X46.here hx rfl (hb hby at_183) rfl k) ?_
              refine Gl.st (g' := (mkF m 187 #[.val (.long p1), .second, .val (.int p2), .val (.ref a20), .val (.int v29), .val (.int v47), .unset, .unset] [(.int (6 : Int32)), (.int v29)])) (fun t k => XT.bipushV X46.here hx rfl (6 : Int32) (hb hby at_185) rfl k) ?_
              by_cases c48 : (6 : Int32) < v29
              · skip
                refine Gl.st (g' := (mkF m 190 #[.val (.long p1), .second, .val (.int p2), .val (.ref a20), .val (.int v29), .val (.int v47), .unset, .unset] [])) (fun t k => XS.icmpNo X46.here hx rfl (hb hby at_187) rfl (XT.ii_le_f c48) k) ?_
                refine Gl.st (g' := (mkF m 192 #[.val (.long p1), .second, .val (.int p2), .val (.ref a20), .val (.int v29), .val (.int v47), .unset, .unset] [(.int v47)])) (fun t k => XS.iload X46.here hx rfl (hb hby at_190) rfl k) ?_
                refine Gl.st (g' := (mkF m 193 #[.val (.long p1), .second, .val (.int p2), .val (.ref a20), .val (.int v29), .val (.int v47), .unset, .unset] [(.ref a20), (.int v47)])) (fun t k => XS.aloadN X46.here hx rfl (hb hby at_192) rfl rfl k) ?_
                refine Gl.st (g' := (mkF m 195 #[.val (.long p1), .second, .val (.int p2), .val (.ref a20), .val (.int v29), .val (.int v47), .unset, .unset] [(.int (6 : Int32)), (.ref a20), (.int v47)])) (fun t k => XT.bipushV X46.here hx rfl (6 : Int32) (hb hby at_193) rfl k) ?_
                refine Gl.st (g' := (mkF m 196 #[.val (.long p1), .second, .val (.int p2), .val (.ref a20), .val (.int v29), .val (.int v47), .unset, .unset] [(.int b27), (.int v47)])) (own_ldB X46 hx hZ e46 V28 (j := (6 : Int32)) (v := (.int b27)) (by decide) rfl (g := (mkF m 195 #[.val (.long p1), .second, .val (.int p2), .val (.ref a20), .val (.int v29), .val (.int v47), .unset, .unset] [(.int (6 : Int32)), (.ref a20), (.int v47)])) rfl rfl (hb hby at_195)) ?_
                obtain ⟨_, _, ⟨T49, L49, k49, n49⟩, -, X49, ⟨Lc49, hQ49, l49, y49, z49⟩, st49⟩ := Jvm.LawKit.callS X46 hx (y := (⟨"keyhalo/KeyHashCrc16PinLaw", "step", "(IB)I"⟩ : MethodName)) hown (mvT hZ (hw _ (List.mem_of_getElem? (i := 2) rfl))) (mvT hZ (hw _ (List.mem_of_getElem? (i := 3) rfl))) (mvT hZ (hw _ (List.mem_of_getElem? (i := 4) rfl))) (mvT hZ (hw _ (List.mem_of_getElem? (i := 5) rfl))) (by decide) (backOf (W := 0) (rm3 l Z a0 hw v47 b27  h28 n0 Z28 ) hZ (hw _ (List.mem_of_getElem? (i := 5) rfl)) (hw _ (List.mem_of_getElem? (i := 4) rfl)) (by decide) (by decide)) (g := (mkF m 196 #[.val (.long p1), .second, .val (.int p2), .val (.ref a20), .val (.int v29), .val (.int v47), .unset, .unset] [(.int b27), (.int v47)])) rfl (by rw [hml]; rfl) (argsL := [(.int v47), (.int b27)]) (rest := []) (lenOf pd_2 rfl) rfl (by show 2 * 0 + _ ≤ _; exact Nat.le_of_eq rfl) (hb hby at_196) (fun _ _ => ⟨rfl, e46, (by decide : 0 + 1 + 0 + 0 + 0 + 0 + 0 + 0 + 0 ≤ _), (by decide : 0 + 8 + 0 + 0 + 0 + 0 + 0 + 0 + 0 ≤ _)⟩)
                dsimp only [Pt.U, Pt.locs, Pt.cells, Pt.slots] at X49 l49 y49 z49 st49 hQ49
                subst l49 y49 z49
                obtain ⟨rfl, Nq49, e49⟩ := hQ49
                have N49 := Fr.app N46 Nq49
                refine Gl.st (g' := (mkF m 199 #[.val (.long p1), .second, .val (.int p2), .val (.ref a20), .val (.int v29), .val (.int v47), .unset, .unset] [(.int (own_cl v47 b27))])) st49 ?_
                generalize hv50 : (own_cl v47 b27) = v50
                refine Gl.st (g' := (mkF m 201 #[.val (.long p1), .second, .val (.int p2), .val (.ref a20), .val (.int v29), .val (.int v50), .unset, .unset] [])) (fun t k => XS.istore X49.here hx rfl (hb hby at_199) rfl (l' := #[.val (.long p1), .second, .val (.int p2), .val (.ref a20), .val (.int v29), .val (.int v50), .unset, .unset]) rfl k) ?_
                refine Gl.st (g' := (mkF m 203 #[.val (.long p1), .second, .val (.int p2), .val (.ref a20), .val (.int v29), .val (.int v50), .unset, .unset] [(.int v29)])) (fun t k => XS.iload X49.here hx rfl (hb hby at_201) rfl k) ?_
                refine Gl.st (g' := (mkF m 205 #[.val (.long p1), .second, .val (.int p2), .val (.ref a20), .val (.int v29), .val (.int v50), .unset, .unset] [(.int (7 : Int32)), (.int v29)])) (fun t k => XT.bipushV X49.here hx rfl (7 : Int32) (hb hby at_203) rfl k) ?_
                by_cases c51 : (7 : Int32) < v29
                · skip
                  refine Gl.st (g' := (mkF m 208 #[.val (.long p1), .second, .val (.int p2), .val (.ref a20), .val (.int v29), .val (.int v50), .unset, .unset] [])) (fun t k => XS.icmpNo X49.here hx rfl (hb hby at_205) rfl (XT.ii_le_f c51) k) ?_
                  refine Gl.st (g' := (mkF m 210 #[.val (.long p1), .second, .val (.int p2), .val (.ref a20), .val (.int v29), .val (.int v50), .unset, .unset] [(.int v50)])) (fun t k => XS.iload X49.here hx rfl (hb hby at_208) rfl k) ?_
                  refine Gl.st (g' := (mkF m 211 #[.val (.long p1), .second, .val (.int p2), .val (.ref a20), .val (.int v29), .val (.int v50), .unset, .unset] [(.ref a20), (.int v50)])) (fun t k => XS.aloadN X49.here hx rfl (hb hby at_210) rfl rfl k) ?_
                  refine Gl.st (g' := (mkF m 213 #[.val (.long p1), .second, .val (.int p2), .val (.ref a20), .val (.int v29), .val (.int v50), .unset, .unset] [(.int (7 : Int32)), (.ref a20), (.int v50)])) (fun t k => XT.bipushV X49.here hx rfl (7 : Int32) (hb hby at_211) rfl k) ?_
                  refine Gl.st (g' := (mkF m 214 #[.val (.long p1), .second, .val (.int p2), .val (.ref a20), .val (.int v29), .val (.int v50), .unset, .unset] [(.int b28), (.int v50)])) (own_ldB X49 hx hZ e49 V28 (j := (7 : Int32)) (v := (.int b28)) (by decide) rfl (g := (mkF m 213 #[.val (.long p1), .second, .val (.int p2), .val (.ref a20), .val (.int v29), .val (.int v50), .unset, .unset] [(.int (7 : Int32)), (.ref a20), (.int v50)])) rfl rfl (hb hby at_213)) ?_
                  obtain ⟨_, _, ⟨T52, L52, k52, n52⟩, -, X52, ⟨Lc52, hQ52, l52, y52, z52⟩, st52⟩ := Jvm.LawKit.callS X49 hx (y := (⟨"keyhalo/KeyHashCrc16PinLaw", "step", "(IB)I"⟩ : MethodName)) hown (mvT hZ (hw _ (List.mem_of_getElem? (i := 2) rfl))) (mvT hZ (hw _ (List.mem_of_getElem? (i := 3) rfl))) (mvT hZ (hw _ (List.mem_of_getElem? (i := 4) rfl))) (mvT hZ (hw _ (List.mem_of_getElem? (i := 5) rfl))) (by decide) (backOf (W := 0) (rm3 l Z a0 hw v50 b28  h28 n0 Z28 ) hZ (hw _ (List.mem_of_getElem? (i := 5) rfl)) (hw _ (List.mem_of_getElem? (i := 4) rfl)) (by decide) (by decide)) (g := (mkF m 214 #[.val (.long p1), .second, .val (.int p2), .val (.ref a20), .val (.int v29), .val (.int v50), .unset, .unset] [(.int b28), (.int v50)])) rfl (by rw [hml]; rfl) (argsL := [(.int v50), (.int b28)]) (rest := []) (lenOf pd_2 rfl) rfl (by show 2 * 0 + _ ≤ _; exact Nat.le_of_eq rfl) (hb hby at_214) (fun _ _ => ⟨rfl, e49, (by decide : 0 + 1 + 0 + 0 + 0 + 0 + 0 + 0 + 0 + 0 ≤ _), (by decide : 0 + 8 + 0 + 0 + 0 + 0 + 0 + 0 + 0 + 0 ≤ _)⟩)
                  dsimp only [Pt.U, Pt.locs, Pt.cells, Pt.slots] at X52 l52 y52 z52 st52 hQ52
                  subst l52 y52 z52
                  obtain ⟨rfl, Nq52, e52⟩ := hQ52
                  have N52 := Fr.app N49 Nq52
                  refine Gl.st (g' := (mkF m 217 #[.val (.long p1), .second, .val (.int p2), .val (.ref a20), .val (.int v29), .val (.int v50), .unset, .unset] [(.int (own_cl v50 b28))])) st52 ?_
                  generalize hv53 : (own_cl v50 b28) = v53
                  refine Gl.st (g' := (mkF m 219 #[.val (.long p1), .second, .val (.int p2), .val (.ref a20), .val (.int v29), .val (.int v53), .unset, .unset] [])) (fun t k => XS.istore X52.here hx rfl (hb hby at_217) rfl (l' := #[.val (.long p1), .second, .val (.int p2), .val (.ref a20), .val (.int v29), .val (.int v53), .unset, .unset]) rfl k) ?_
                  refine Gl.st (g' := (mkF m 221 #[.val (.long p1), .second, .val (.int p2), .val (.ref a20), .val (.int v29), .val (.int v53), .unset, .unset] [(.int v53)])) (fun t k => XS.iload X52.here hx rfl (hb hby at_219) rfl k) ?_
                  refine Gl.st (g' := (mkF m 222 #[.val (.long p1), .second, .val (.int p2), .val (.ref a20), .val (.int v29), .val (.int v53), .unset, .unset] [(.long (v53.toInt64))])) (fun t k => XS.i2l X52.here hx rfl (hb hby at_221) rfl k) ?_
                  refine Gl.st (g' := (mkF m 225 #[.val (.long p1), .second, .val (.int p2), .val (.ref a20), .val (.int v29), .val (.int v53), .unset, .unset] [(.long (4294967295 : Int64)), (.long (v53.toInt64))])) (fun t k => X52.ldc2J hx hown (mvT hZ (hw _ (List.mem_of_getElem? (i := 9) rfl))) rfl (hb hby at_222) k) ?_
                  refine Gl.st (g' := (mkF m 226 #[.val (.long p1), .second, .val (.int p2), .val (.ref a20), .val (.int v29), .val (.int v53), .unset, .unset] [(.long ((v53.toInt64) &&& (4294967295 : Int64)))])) (fun t k => XS.land X52.here hx rfl (hb hby at_225) rfl k) ?_
                  generalize hv54 : ((v53.toInt64) &&& (4294967295 : Int64)) = v54
                  refine Gl.st (g' := (mkF m 228 #[.val (.long p1), .second, .val (.int p2), .val (.ref a20), .val (.int v29), .val (.int v53), .val (.long v54), .second] [])) (fun t k => XS.lstore X52.here hx rfl (hb hby at_226) rfl (l' := #[.val (.long p1), .second, .val (.int p2), .val (.ref a20), .val (.int v29), .val (.int v53), .val (.long v54), .second]) rfl k) ?_
                  refine Gl.st (g' := (mkF m 229 #[.val (.long p1), .second, .val (.int p2), .val (.ref a20), .val (.int v29), .val (.int v53), .val (.long v54), .second] [(.ref a20)])) (fun t k => XS.aloadN X52.here hx rfl (hb hby at_228) rfl rfl k) ?_
                  refine Gl.st (g' := (mkF m 231 #[.val (.long p1), .second, .val (.int p2), .val (.ref a20), .val (.int v29), .val (.int v53), .val (.long v54), .second] [(.int v29), (.ref a20)])) (fun t k => XS.iload X52.here hx rfl (hb hby at_229) rfl k) ?_
                  obtain ⟨_, _, ⟨T55, L55, k55, n55⟩, -, X55, ⟨Lc55, hQ55, l55, y55, z55⟩, st55⟩ := Jvm.LawKit.callS X52 hx (y := (⟨"keyhalo/KeyHash", "crc16", "([BI)J"⟩ : MethodName)) hown (mvT hZ (hw _ (List.mem_of_getElem? (i := 10) rfl))) (mvT hZ (hw _ (List.mem_of_getElem? (i := 11) rfl))) (mvT hZ (hw _ (List.mem_of_getElem? (i := 12) rfl))) (mvT hZ (hw _ (List.mem_of_getElem? (i := 13) rfl))) (by decide) (backOf (W := 0) (rm4 l Z a0 hw a20 v29 [b21, b22, b23, b24, b25, b26, b27, b28] 8 cA20 (8 : Int32) h28 n0 Z28 V28 (own_pin (8 : Int32) (7 : Int32) c51 hN.2 (by decide)) (by decide : 8 ≤ 8) rfl (by decide : 8 ≤ 16)) hZ (hw _ (List.mem_of_getElem? (i := 13) rfl)) (hw _ (List.mem_of_getElem? (i := 12) rfl)) (by decide) (by decide)) (g := (mkF m 231 #[.val (.long p1), .second, .val (.int p2), .val (.ref a20), .val (.int v29), .val (.int v53), .val (.long v54), .second] [(.int v29), (.ref a20)])) rfl (by rw [hml]; rfl) (argsL := [(.ref a20), (.int v29)]) (rest := []) (lenOf pd_3 rfl) rfl (by show 2 * 0 + _ ≤ _; exact Nat.le_of_eq rfl) (hb hby at_231) (fun _ _ => ⟨rfl, e52, (by decide : 0 + 1 + 0 + 0 + 0 + 0 + 0 + 0 + 0 + 0 + 0 ≤ _), (by decide : 0 + 8 + 0 + 0 + 0 + 0 + 0 + 0 + 0 + 0 + 0 ≤ _)⟩)
                  dsimp only [Pt.U, Pt.locs, Pt.cells, Pt.slots] at X55 l55 y55 z55 st55 hQ55
                  subst l55 y55 z55
                  obtain ⟨rfl, Nq55, e55⟩ := hQ55
                  have N55 := Fr.app N52 Nq55
                  refine Gl.st (g' := (mkF m 234 #[.val (.long p1), .second, .val (.int p2), .val (.ref a20), .val (.int v29), .val (.int v53), .val (.long v54), .second] [(.long (own_crc [b21, b22, b23, b24, b25, b26, b27, b28] 8))])) st55 ?_
                  refine Gl.st (g' := (mkF m 236 #[.val (.long p1), .second, .val (.int p2), .val (.ref a20), .val (.int v29), .val (.int v53), .val (.long v54), .second] [(.long v54), (.long (own_crc [b21, b22, b23, b24, b25, b26, b27, b28] 8))])) (fun t k => XS.lload X55.here hx rfl (hb hby at_234) rfl k) ?_
                  refine Gl.st (g' := (mkF m 237 #[.val (.long p1), .second, .val (.int p2), .val (.ref a20), .val (.int v29), .val (.int v53), .val (.long v54), .second] [(.int (XT.cmpL (own_crc [b21, b22, b23, b24, b25, b26, b27, b28] 8) v54))])) (fun t k => XT.lcmp X55.here hx rfl (hb hby at_236) rfl k) ?_
                  refine Gl.st (g' := (mkF m 240 #[.val (.long p1), .second, .val (.int p2), .val (.ref a20), .val (.int v29), .val (.int v53), .val (.long v54), .second] [])) (fun t k => XS.ifNo X55.here hx rfl (hb hby at_237) rfl (XT.ll_ne_f (by unfold own_crc; rw [own_cs_eq]; subst hv32 hv35 hv38 hv41 hv44 hv47 hv50 hv53 hv54; rfl)) k) ?_
                  refine Gl.st (g' := (mkF m 241 #[.val (.long p1), .second, .val (.int p2), .val (.ref a20), .val (.int v29), .val (.int v53), .val (.long v54), .second] [(.int (1 : Int32))])) (fun t k => XT.iconstV X55.here hx rfl (1 : Int32) (hb hby at_240) rfl k) ?_
                  refine Gl.st (g' := (mkF m 245 #[.val (.long p1), .second, .val (.int p2), .val (.ref a20), .val (.int v29), .val (.int v53), .val (.long v54), .second] [(.int (1 : Int32))])) (fun t k => XS.goto X55.here hx rfl (pc0 := 241) (pc' := 245) rfl (hb hby at_241) (by decide) (by decide) k) ?_
                  refine Gl.retZ X55 hx hlk .boolean (by simp) Bd.returns (hb hby at_245) e55 (by decide) (by decide) ?_
                  rw [Q0, own_z1]
                  exact ⟨rfl, N55⟩
                · skip
                  refine Gl.st (g' := (mkF m 219 #[.val (.long p1), .second, .val (.int p2), .val (.ref a20), .val (.int v29), .val (.int v50), .unset, .unset] [])) (fun t k => XS.icmpYes X49.here hx rfl (pc0 := 205) (pc' := 219) rfl (hb hby at_205) rfl (XT.ii_le_t c51) (by decide) (by decide) k) ?_
                  refine Gl.st (g' := (mkF m 221 #[.val (.long p1), .second, .val (.int p2), .val (.ref a20), .val (.int v29), .val (.int v50), .unset, .unset] [(.int v50)])) (fun t k => XS.iload X49.here hx rfl (hb hby at_219) rfl k) ?_
                  refine Gl.st (g' := (mkF m 222 #[.val (.long p1), .second, .val (.int p2), .val (.ref a20), .val (.int v29), .val (.int v50), .unset, .unset] [(.long (v50.toInt64))])) (fun t k => XS.i2l X49.here hx rfl (hb hby at_221) rfl k) ?_
                  refine Gl.st (g' := (mkF m 225 #[.val (.long p1), .second, .val (.int p2), .val (.ref a20), .val (.int v29), .val (.int v50), .unset, .unset] [(.long (4294967295 : Int64)), (.long (v50.toInt64))])) (fun t k => X49.ldc2J hx hown (mvT hZ (hw _ (List.mem_of_getElem? (i := 9) rfl))) rfl (hb hby at_222) k) ?_
                  refine Gl.st (g' := (mkF m 226 #[.val (.long p1), .second, .val (.int p2), .val (.ref a20), .val (.int v29), .val (.int v50), .unset, .unset] [(.long ((v50.toInt64) &&& (4294967295 : Int64)))])) (fun t k => XS.land X49.here hx rfl (hb hby at_225) rfl k) ?_
                  generalize hv56 : ((v50.toInt64) &&& (4294967295 : Int64)) = v56
                  refine Gl.st (g' := (mkF m 228 #[.val (.long p1), .second, .val (.int p2), .val (.ref a20), .val (.int v29), .val (.int v50), .val (.long v56), .second] [])) (fun t k => XS.lstore X49.here hx rfl (hb hby at_226) rfl (l' := #[.val (.long p1), .second, .val (.int p2), .val (.ref a20), .val (.int v29), .val (.int v50), .val (.long v56), .second]) rfl k) ?_
                  refine Gl.st (g' := (mkF m 229 #[.val (.long p1), .second, .val (.int p2), .val (.ref a20), .val (.int v29), .val (.int v50), .val (.long v56), .second] [(.ref a20)])) (fun t k => XS.aloadN X49.here hx rfl (hb hby at_228) rfl rfl k) ?_
                  refine Gl.st (g' := (mkF m 231 #[.val (.long p1), .second, .val (.int p2), .val (.ref a20), .val (.int v29), .val (.int v50), .val (.long v56), .second] [(.int v29), (.ref a20)])) (fun t k => XS.iload X49.here hx rfl (hb hby at_229) rfl k) ?_
                  obtain ⟨_, _, ⟨T57, L57, k57, n57⟩, -, X57, ⟨Lc57, hQ57, l57, y57, z57⟩, st57⟩ := Jvm.LawKit.callS X49 hx (y := (⟨"keyhalo/KeyHash", "crc16", "([BI)J"⟩ : MethodName)) hown (mvT hZ (hw _ (List.mem_of_getElem? (i := 10) rfl))) (mvT hZ (hw _ (List.mem_of_getElem? (i := 11) rfl))) (mvT hZ (hw _ (List.mem_of_getElem? (i := 12) rfl))) (mvT hZ (hw _ (List.mem_of_getElem? (i := 13) rfl))) (by decide) (backOf (W := 0) (rm4 l Z a0 hw a20 v29 [b21, b22, b23, b24, b25, b26, b27, b28] 7 cA20 (8 : Int32) h28 n0 Z28 V28 (own_pin (7 : Int32) (6 : Int32) c48 c51 (by decide)) (by decide : 7 ≤ 8) rfl (by decide : 8 ≤ 16)) hZ (hw _ (List.mem_of_getElem? (i := 13) rfl)) (hw _ (List.mem_of_getElem? (i := 12) rfl)) (by decide) (by decide)) (g := (mkF m 231 #[.val (.long p1), .second, .val (.int p2), .val (.ref a20), .val (.int v29), .val (.int v50), .val (.long v56), .second] [(.int v29), (.ref a20)])) rfl (by rw [hml]; rfl) (argsL := [(.ref a20), (.int v29)]) (rest := []) (lenOf pd_3 rfl) rfl (by show 2 * 0 + _ ≤ _; exact Nat.le_of_eq rfl) (hb hby at_231) (fun _ _ => ⟨rfl, e49, (by decide : 0 + 1 + 0 + 0 + 0 + 0 + 0 + 0 + 0 + 0 ≤ _), (by decide : 0 + 8 + 0 + 0 + 0 + 0 + 0 + 0 + 0 + 0 ≤ _)⟩)
                  dsimp only [Pt.U, Pt.locs, Pt.cells, Pt.slots] at X57 l57 y57 z57 st57 hQ57
                  subst l57 y57 z57
                  obtain ⟨rfl, Nq57, e57⟩ := hQ57
                  have N57 := Fr.app N49 Nq57
                  refine Gl.st (g' := (mkF m 234 #[.val (.long p1), .second, .val (.int p2), .val (.ref a20), .val (.int v29), .val (.int v50), .val (.long v56), .second] [(.long (own_crc [b21, b22, b23, b24, b25, b26, b27, b28] 7))])) st57 ?_
                  refine Gl.st (g' := (mkF m 236 #[.val (.long p1), .second, .val (.int p2), .val (.ref a20), .val (.int v29), .val (.int v50), .val (.long v56), .second] [(.long v56), (.long (own_crc [b21, b22, b23, b24, b25, b26, b27, b28] 7))])) (fun t k => XS.lload X57.here hx rfl (hb hby at_234) rfl k) ?_
                  refine Gl.st (g' := (mkF m 237 #[.val (.long p1), .second, .val (.int p2), .val (.ref a20), .val (.int v29), .val (.int v50), .val (.long v56), .second] [(.int (XT.cmpL (own_crc [b21, b22, b23, b24, b25, b26, b27, b28] 7) v56))])) (fun t k => XT.lcmp X57.here hx rfl (hb hby at_236) rfl k) ?_
                  refine Gl.st (g' := (mkF m 240 #[.val (.long p1), .second, .val (.int p2), .val (.ref a20), .val (.int v29), .val (.int v50), .val (.long v56), .second] [])) (fun t k => XS.ifNo X57.here hx rfl (hb hby at_237) rfl (XT.ll_ne_f (by unfold own_crc; rw [own_cs_eq]; subst hv32 hv35 hv38 hv41 hv44 hv47 hv50 hv56; rfl)) k) ?_
                  refine Gl.st (g' := (mkF m 241 #[.val (.long p1), .second, .val (.int p2), .val (.ref a20), .val (.int v29), .val (.int v50), .val (.long v56), .second] [(.int (1 : Int32))])) (fun t k => XT.iconstV X57.here hx rfl (1 : Int32) (hb hby at_240) rfl k) ?_
                  refine Gl.st (g' := (mkF m 245 #[.val (.long p1), .second, .val (.int p2), .val (.ref a20), .val (.int v29), .val (.int v50), .val (.long v56), .second] [(.int (1 : Int32))])) (fun t k => XS.goto X57.here hx rfl (pc0 := 241) (pc' := 245) rfl (hb hby at_241) (by decide) (by decide) k) ?_
                  refine Gl.retZ X57 hx hlk .boolean (by simp) Bd.returns (hb hby at_245) e57 (by decide) (by decide) ?_
                  rw [Q0, own_z1]
                  exact ⟨rfl, N57⟩
              · skip
                refine Gl.st (g' := (mkF m 201 #[.val (.long p1), .second, .val (.int p2), .val (.ref a20), .val (.int v29), .val (.int v47), .unset, .unset] [])) (fun t k => XS.icmpYes X46.here hx rfl (pc0 := 187) (pc' := 201) rfl (hb hby at_187) rfl (XT.ii_le_t c48) (by decide) (by decide) k) ?_
                refine Gl.st (g' := (mkF m 203 #[.val (.long p1), .second, .val (.int p2), .val (.ref a20), .val (.int v29), .val (.int v47), .unset, .unset] [(.int v29)])) (fun t k => XS.iload X46.here hx rfl (hb hby at_201) rfl k) ?_
                refine Gl.st (g' := (mkF m 205 #[.val (.long p1), .second, .val (.int p2), .val (.ref a20), .val (.int v29), .val (.int v47), .unset, .unset] [(.int (7 : Int32)), (.int v29)])) (fun t k => XT.bipushV X46.here hx rfl (7 : Int32) (hb hby at_203) rfl k) ?_
                refine Gl.st (g' := (mkF m 219 #[.val (.long p1), .second, .val (.int p2), .val (.ref a20), .val (.int v29), .val (.int v47), .unset, .unset] [])) (fun t k => XS.icmpYes X46.here hx rfl (pc0 := 205) (pc' := 219) rfl (hb hby at_205) rfl (XT.ii_le_t (own_ndn c48 (by decide))) (by decide) (by decide) k) ?_
                refine Gl.st (g' := (mkF m 221 #[.val (.long p1), .second, .val (.int p2), .val (.ref a20), .val (.int v29), .val (.int v47), .unset, .unset] [(.int v47)])) (fun t k => XS.iload X46.here hx rfl (hb hby at_219) rfl k) ?_
                refine Gl.st (g' := (mkF m 222 #[.val (.long p1), .second, .val (.int p2), .val (.ref a20), .val (.int v29), .val (.int v47), .unset, .unset] [(.long (v47.toInt64))])) (fun t k => XS.i2l X46.here hx rfl (hb hby at_221) rfl k) ?_
                refine Gl.st (g' := (mkF m 225 #[.val (.long p1), .second, .val (.int p2), .val (.ref a20), .val (.int v29), .val (.int v47), .unset, .unset] [(.long (4294967295 : Int64)), (.long (v47.toInt64))])) (fun t k => X46.ldc2J hx hown (mvT hZ (hw _ (List.mem_of_getElem? (i := 9) rfl))) rfl (hb hby at_222) k) ?_
                refine Gl.st (g' := (mkF m 226 #[.val (.long p1), .second, .val (.int p2), .val (.ref a20), .val (.int v29), .val (.int v47), .unset, .unset] [(.long ((v47.toInt64) &&& (4294967295 : Int64)))])) (fun t k => XS.land X46.here hx rfl (hb hby at_225) rfl k) ?_
                generalize hv58 : ((v47.toInt64) &&& (4294967295 : Int64)) = v58
                refine Gl.st (g' := (mkF m 228 #[.val (.long p1), .second, .val (.int p2), .val (.ref a20), .val (.int v29), .val (.int v47), .val (.long v58), .second] [])) (fun t k => XS.lstore X46.here hx rfl (hb hby at_226) rfl (l' := #[.val (.long p1), .second, .val (.int p2), .val (.ref a20), .val (.int v29), .val (.int v47), .val (.long v58), .second]) rfl k) ?_
                refine Gl.st (g' := (mkF m 229 #[.val (.long p1), .second, .val (.int p2), .val (.ref a20), .val (.int v29), .val (.int v47), .val (.long v58), .second] [(.ref a20)])) (fun t k => XS.aloadN X46.here hx rfl (hb hby at_228) rfl rfl k) ?_
                refine Gl.st (g' := (mkF m 231 #[.val (.long p1), .second, .val (.int p2), .val (.ref a20), .val (.int v29), .val (.int v47), .val (.long v58), .second] [(.int v29), (.ref a20)])) (fun t k => XS.iload X46.here hx rfl (hb hby at_229) rfl k) ?_
                obtain ⟨_, _, ⟨T59, L59, k59, n59⟩, -, X59, ⟨Lc59, hQ59, l59, y59, z59⟩, st59⟩ := Jvm.LawKit.callS X46 hx (y := (⟨"keyhalo/KeyHash", "crc16", "([BI)J"⟩ : MethodName)) hown (mvT hZ (hw _ (List.mem_of_getElem? (i := 10) rfl))) (mvT hZ (hw _ (List.mem_of_getElem? (i := 11) rfl))) (mvT hZ (hw _ (List.mem_of_getElem? (i := 12) rfl))) (mvT hZ (hw _ (List.mem_of_getElem? (i := 13) rfl))) (by decide) (backOf (W := 0) (rm4 l Z a0 hw a20 v29 [b21, b22, b23, b24, b25, b26, b27, b28] 6 cA20 (8 : Int32) h28 n0 Z28 V28 (own_pin (6 : Int32) (5 : Int32) c45 c48 (by decide)) (by decide : 6 ≤ 8) rfl (by decide : 8 ≤ 16)) hZ (hw _ (List.mem_of_getElem? (i := 13) rfl)) (hw _ (List.mem_of_getElem? (i := 12) rfl)) (by decide) (by decide)) (g := (mkF m 231 #[.val (.long p1), .second, .val (.int p2), .val (.ref a20), .val (.int v29), .val (.int v47), .val (.long v58), .second] [(.int v29), (.ref a20)])) rfl (by rw [hml]; rfl) (argsL := [(.ref a20), (.int v29)]) (rest := []) (lenOf pd_3 rfl) rfl (by show 2 * 0 + _ ≤ _; exact Nat.le_of_eq rfl) (hb hby at_231) (fun _ _ => ⟨rfl, e46, (by decide : 0 + 1 + 0 + 0 + 0 + 0 + 0 + 0 + 0 ≤ _), (by decide : 0 + 8 + 0 + 0 + 0 + 0 + 0 + 0 + 0 ≤ _)⟩)
                dsimp only [Pt.U, Pt.locs, Pt.cells, Pt.slots] at X59 l59 y59 z59 st59 hQ59
                subst l59 y59 z59
                obtain ⟨rfl, Nq59, e59⟩ := hQ59
                have N59 := Fr.app N46 Nq59
                refine Gl.st (g' := (mkF m 234 #[.val (.long p1), .second, .val (.int p2), .val (.ref a20), .val (.int v29), .val (.int v47), .val (.long v58), .second] [(.long (own_crc [b21, b22, b23, b24, b25, b26, b27, b28] 6))])) st59 ?_
                refine Gl.st (g' := (mkF m 236 #[.val (.long p1), .second, .val (.int p2), .val (.ref a20), .val (.int v29), .val (.int v47), .val (.long v58), .second] [(.long v58), (.long (own_crc [b21, b22, b23, b24, b25, b26, b27, b28] 6))])) (fun t k => XS.lload X59.here hx rfl (hb hby at_234) rfl k) ?_
                refine Gl.st (g' := (mkF m 237 #[.val (.long p1), .second, .val (.int p2), .val (.ref a20), .val (.int v29), .val (.int v47), .val (.long v58), .second] [(.int (XT.cmpL (own_crc [b21, b22, b23, b24, b25, b26, b27, b28] 6) v58))])) (fun t k => XT.lcmp X59.here hx rfl (hb hby at_236) rfl k) ?_
                refine Gl.st (g' := (mkF m 240 #[.val (.long p1), .second, .val (.int p2), .val (.ref a20), .val (.int v29), .val (.int v47), .val (.long v58), .second] [])) (fun t k => XS.ifNo X59.here hx rfl (hb hby at_237) rfl (XT.ll_ne_f (by unfold own_crc; rw [own_cs_eq]; subst hv32 hv35 hv38 hv41 hv44 hv47 hv58; rfl)) k) ?_
                refine Gl.st (g' := (mkF m 241 #[.val (.long p1), .second, .val (.int p2), .val (.ref a20), .val (.int v29), .val (.int v47), .val (.long v58), .second] [(.int (1 : Int32))])) (fun t k => XT.iconstV X59.here hx rfl (1 : Int32) (hb hby at_240) rfl k) ?_
                refine Gl.st (g' := (mkF m 245 #[.val (.long p1), .second, .val (.int p2), .val (.ref a20), .val (.int v29), .val (.int v47), .val (.long v58), .second] [(.int (1 : Int32))])) (fun t k => XS.goto X59.here hx rfl (pc0 := 241) (pc' := 245) rfl (hb hby at_241) (by decide) (by decide) k) ?_
                refine Gl.retZ X59 hx hlk .boolean (by simp) Bd.returns (hb hby at_245) e59 (by decide) (by decide) ?_
                rw [Q0, own_z1]
                exact ⟨rfl, N59⟩
            · skip
              refine Gl.st (g' := (mkF m 183 #[.val (.long p1), .second, .val (.int p2), .val (.ref a20), .val (.int v29), .val (.int v44), .unset, .unset] [])) (fun t k => XS.icmpYes X43.here hx rfl (pc0 := 170) (pc' := 183) rfl (hb hby at_170) rfl (XT.ii_le_t c45) (by decide) (by decide) k) ?_
              refine Gl.st (g' := (mkF m 185 #[.val (.long p1), .second, .val (.int p2), .val (.ref a20), .val (.int v29), .val (.int v44), .unset, .unset] [(.int v29)])) (fun t k => XS.iload X43.here hx rfl (hb hby at_183) rfl k) ?_
              refine Gl.st (g' := (mkF m 187 #[.val (.long p1), .second, .val (.int p2), .val (.ref a20), .val (.int v29), .val (.int v44), .unset, .unset] [(.int (6 : Int32)), (.int v29)])) (fun t k => XT.bipushV X43.here hx rfl (6 : Int32) (hb hby at_185) rfl k) ?_
              refine Gl.st (g' := (mkF m 201 #[.val (.long p1), .second, .val (.int p2), .val (.ref a20), .val (.int v29), .val (.int v44), .unset, .unset] [])) (fun t k => XS.icmpYes X43.here hx rfl (pc0 := 187) (pc' := 201) rfl (hb hby at_187) rfl (XT.ii_le_t (own_ndn c45 (by decide))) (by decide) (by decide) k) ?_
              refine Gl.st (g' := (mkF m 203 #[.val (.long p1), .second, .val (.int p2), .val (.ref a20), .val (.int v29), .val (.int v44), .unset, .unset] [(.int v29)])) (fun t k => XS.iload X43.here hx rfl (hb hby at_201) rfl k) ?_
              refine Gl.st (g' := (mkF m 205 #[.val (.long p1), .second, .val (.int p2), .val (.ref a20), .val (.int v29), .val (.int v44), .unset, .unset] [(.int (7 : Int32)), (.int v29)])) (fun t k => XT.bipushV X43.here hx rfl (7 : Int32) (hb hby at_203) rfl k) ?_
              refine Gl.st (g' := (mkF m 219 #[.val (.long p1), .second, .val (.int p2), .val (.ref a20), .val (.int v29), .val (.int v44), .unset, .unset] [])) (fun t k => XS.icmpYes X43.here hx rfl (pc0 := 205) (pc' := 219) rfl (hb hby at_205) rfl (XT.ii_le_t (own_ndn c45 (by decide))) (by decide) (by decide) k) ?_
              refine Gl.st (g' := (mkF m 221 #[.val (.long p1), .second, .val (.int p2), .val (.ref a20), .val (.int v29), .val (.int v44), .unset, .unset] [(.int v44)])) (fun t k => XS.iload X43.here hx rfl (hb hby at_219) rfl k) ?_
              refine Gl.st (g' := (mkF m 222 #[.val (.long p1), .second, .val (.int p2), .val (.ref a20), .val (.int v29), .val (.int v44), .unset, .unset] [(.long (v44.toInt64))])) (fun t k => XS.i2l X43.here hx rfl (hb hby at_221) rfl k) ?_
              refine Gl.st (g' := (mkF m 225 #[.val (.long p1), .second, .val (.int p2), .val (.ref a20), .val (.int v29), .val (.int v44), .unset, .unset] [(.long (4294967295 : Int64)), (.long (v44.toInt64))])) (fun t k => X43.ldc2J hx hown (mvT hZ (hw _ (List.mem_of_getElem? (i := 9) rfl))) rfl (hb hby at_222) k) ?_
              refine Gl.st (g' := (mkF m 226 #[.val (.long p1), .second, .val (.int p2), .val (.ref a20), .val (.int v29), .val (.int v44), .unset, .unset] [(.long ((v44.toInt64) &&& (4294967295 : Int64)))])) (fun t k => XS.land X43.here hx rfl (hb hby at_225) rfl k) ?_
              generalize hv60 : ((v44.toInt64) &&& (4294967295 : Int64)) = v60
              refine Gl.st (g' := (mkF m 228 #[.val (.long p1), .second, .val (.int p2), .val (.ref a20), .val (.int v29), .val (.int v44), .val (.long v60), .second] [])) (fun t k => XS.lstore X43.here hx rfl (hb hby at_226) rfl (l' := #[.val (.long p1), .second, .val (.int p2), .val (.ref a20), .val (.int v29), .val (.int v44), .val (.long v60), .second]) rfl k) ?_
              refine Gl.st (g' := (mkF m 229 #[.val (.long p1), .second, .val (.int p2), .val (.ref a20), .val (.int v29), .val (.int v44), .val (.long v60), .second] [(.ref a20)])) (fun t k => XS.aloadN X43.here hx rfl (hb hby at_228) rfl rfl k) ?_
              refine Gl.st (g' := (mkF m 231 #[.val (.long p1), .second, .val (.int p2), .val (.ref a20), .val (.int v29), .val (.int v44), .val (.long v60), .second] [(.int v29), (.ref a20)])) (fun t k => XS.iload X43.here hx rfl (hb hby at_229) rfl k) ?_
              obtain ⟨_, _, ⟨T61, L61, k61, n61⟩, -, X61, ⟨Lc61, hQ61, l61, y61, z61⟩, st61⟩ := Jvm.LawKit.callS X43 hx (y := (⟨"keyhalo/KeyHash", "crc16", "([BI)J"⟩ : MethodName)) hown (mvT hZ (hw _ (List.mem_of_getElem? (i := 10) rfl))) (mvT hZ (hw _ (List.mem_of_getElem? (i := 11) rfl))) (mvT hZ (hw _ (List.mem_of_getElem? (i := 12) rfl))) (mvT hZ (hw _ (List.mem_of_getElem? (i := 13) rfl))) (by decide) (backOf (W := 0) (rm4 l Z a0 hw a20 v29 [b21, b22, b23, b24, b25, b26, b27, b28] 5 cA20 (8 : Int32) h28 n0 Z28 V28 (own_pin (5 : Int32) (4 : Int32) c42 c45 (by decide)) (by decide : 5 ≤ 8) rfl (by decide : 8 ≤ 16)) hZ (hw _ (List.mem_of_getElem? (i := 13) rfl)) (hw _ (List.mem_of_getElem? (i := 12) rfl)) (by decide) (by decide)) (g := (mkF m 231 #[.val (.long p1), .second, .val (.int p2), .val (.ref a20), .val (.int v29), .val (.int v44), .val (.long v60), .second] [(.int v29), (.ref a20)])) rfl (by rw [hml]; rfl) (argsL := [(.ref a20), (.int v29)]) (rest := []) (lenOf pd_3 rfl) rfl (by show 2 * 0 + _ ≤ _; exact Nat.le_of_eq rfl) (hb hby at_231) (fun _ _ => ⟨rfl, e43, (by decide : 0 + 1 + 0 + 0 + 0 + 0 + 0 + 0 ≤ _), (by decide : 0 + 8 + 0 + 0 + 0 + 0 + 0 + 0 ≤ _)⟩)
              dsimp only [Pt.U, Pt.locs, Pt.cells, Pt.slots] at X61 l61 y61 z61 st61 hQ61
              subst l61 y61 z61
              obtain ⟨rfl, Nq61, e61⟩ := hQ61
              have N61 := Fr.app N43 Nq61
              refine Gl.st (g' := (mkF m 234 #[.val (.long p1), .second, .val (.int p2), .val (.ref a20), .val (.int v29), .val (.int v44), .val (.long v60), .second] [(.long (own_crc [b21, b22, b23, b24, b25, b26, b27, b28] 5))])) st61 ?_
              refine Gl.st (g' := (mkF m 236 #[.val (.long p1), .second, .val (.int p2), .val (.ref a20), .val (.int v29), .val (.int v44), .val (.long v60), .second] [(.long v60), (.long (own_crc [b21, b22, b23, b24, b25, b26, b27, b28] 5))])) (fun t k => XS.lload X61.here hx rfl (hb hby at_234) rfl k) ?_
              refine Gl.st (g' := (mkF m 237 #[.val (.long p1), .second, .val (.int p2), .val (.ref a20), .val (.int v29), .val (.int v44), .val (.long v60), .second] [(.int (XT.cmpL (own_crc [b21, b22, b23, b24, b25, b26, b27, b28] 5) v60))])) (fun t k => XT.lcmp X61.here hx rfl (hb hby at_236) rfl k) ?_
              refine Gl.st (g' := (mkF m 240 #[.val (.long p1), .second, .val (.int p2), .val (.ref a20), .val (.int v29), .val (.int v44), .val (.long v60), .second] [])) (fun t k => XS.ifNo X61.here hx rfl (hb hby at_237) rfl (XT.ll_ne_f (by unfold own_crc; rw [own_cs_eq]; subst hv32 hv35 hv38 hv41 hv44 hv60; rfl)) k) ?_
              refine Gl.st (g' := (mkF m 241 #[.val (.long p1), .second, .val (.int p2), .val (.ref a20), .val (.int v29), .val (.int v44), .val (.long v60), .second] [(.int (1 : Int32))])) (fun t k => XT.iconstV X61.here hx rfl (1 : Int32) (hb hby at_240) rfl k) ?_
              refine Gl.st (g' := (mkF m 245 #[.val (.long p1), .second, .val (.int p2), .val (.ref a20), .val (.int v29), .val (.int v44), .val (.long v60), .second] [(.int (1 : Int32))])) (fun t k => XS.goto X61.here hx rfl (pc0 := 241) (pc' := 245) rfl (hb hby at_241) (by decide) (by decide) k) ?_
              refine Gl.retZ X61 hx hlk .boolean (by simp) Bd.returns (hb hby at_245) e61 (by decide) (by decide) ?_
              rw [Q0, own_z1]
              exact ⟨rfl, N61⟩
          · skip
            refine Gl.st (g' := (mkF m 167 #[.val (.long p1), .second, .val (.int p2), .val (.ref a20), .val (.int v29), .val (.int v41), .unset, .unset] [])) (fun t k => XS.icmpYes X40.here hx rfl (pc0 := 154) (pc' := 167) rfl (hb hby at_154) rfl (XT.ii_le_t c42) (by decide) (by decide) k) ?_
            refine Gl.st (g' := (mkF m 169 #[.val (.long p1), .second, .val (.int p2), .val (.ref a20), .val (.int v29), .val (.int v41), .unset, .unset] [(.int v29)])) (fun t k => XS.iload X40.here hx rfl (hb hby at_167) rfl k) ?_
            refine Gl.st (g' := (mkF m 170 #[.val (.long p1), .second, .val (.int p2), .val (.ref a20), .val (.int v29), .val (.int v41), .unset, .unset] [(.int (5 : Int32)), (.int v29)])) (fun t k => XT.iconstV X40.here hx rfl (5 : Int32) (hb hby at_169) rfl k) ?_
            refine Gl.st (g' := (mkF m 183 #[.val (.long p1), .second, .val (.int p2), .val (.ref a20), .val (.int v29), .val (.int v41), .unset, .unset] [])) (fun t k => XS.icmpYes X40.here hx rfl (pc0 := 170) (pc' := 183) rfl (hb hby at_170) rfl (XT.ii_le_t (own_ndn c42 (by decide))) (by decide) (by decide) k) ?_
            refine Gl.st (g' := (mkF m 185 #[.val (.long p1), .second, .val (.int p2), .val (.ref a20), .val (.int v29), .val (.int v41), .unset, .unset] [(.int v29)])) (fun t k => XS.iload X40.here hx rfl (hb hby at_183) rfl k) ?_
            refine Gl.st (g' := (mkF m 187 #[.val (.long p1), .second, .val (.int p2), .val (.ref a20), .val (.int v29), .val (.int v41), .unset, .unset] [(.int (6 : Int32)), (.int v29)])) (fun t k => XT.bipushV X40.here hx rfl (6 : Int32) (hb hby at_185) rfl k) ?_
            refine Gl.st (g' := (mkF m 201 #[.val (.long p1), .second, .val (.int p2), .val (.ref a20), .val (.int v29), .val (.int v41), .unset, .unset] [])) (fun t k => XS.icmpYes X40.here hx rfl (pc0 := 187) (pc' := 201) rfl (hb hby at_187) rfl (XT.ii_le_t (own_ndn c42 (by decide))) (by decide) (by decide) k) ?_
            refine Gl.st (g' := (mkF m 203 #[.val (.long p1), .second, .val (.int p2), .val (.ref a20), .val (.int v29), .val (.int v41), .unset, .unset] [(.int v29)])) (fun t k => XS.iload X40.here hx rfl (hb hby at_201) rfl k) ?_
            refine Gl.st (g' := (mkF m 205 #[.val (.long p1), .second, .val (.int p2), .val (.ref a20), .val (.int v29), .val (.int v41), .unset, .unset] [(.int (7 : Int32)), (.int v29)])) (fun t k => XT.bipushV X40.here hx rfl (7 : Int32) (hb hby at_203) rfl k) ?_
            refine Gl.st (g' := (mkF m 219 #[.val (.long p1), .second, .val (.int p2), .val (.ref a20), .val (.int v29), .val (.int v41), .unset, .unset] [])) (fun t k => XS.icmpYes X40.here hx rfl (pc0 := 205) (pc' := 219) rfl (hb hby at_205) rfl (XT.ii_le_t (own_ndn c42 (by decide))) (by decide) (by decide) k) ?_
            refine Gl.st (g' := (mkF m 221 #[.val (.long p1), .second, .val (.int p2), .val (.ref a20), .val (.int v29), .val (.int v41), .unset, .unset] [(.int v41)])) (fun t k => XS.iload X40.here hx rfl (hb hby at_219) rfl k) ?_
            refine Gl.st (g' := (mkF m 222 #[.val (.long p1), .second, .val (.int p2), .val (.ref a20), .val (.int v29), .val (.int v41), .unset, .unset] [(.long (v41.toInt64))])) (fun t k => XS.i2l X40.here hx rfl (hb hby at_221) rfl k) ?_
            refine Gl.st (g' := (mkF m 225 #[.val (.long p1), .second, .val (.int p2), .val (.ref a20), .val (.int v29), .val (.int v41), .unset, .unset] [(.long (4294967295 : Int64)), (.long (v41.toInt64))])) (fun t k => X40.ldc2J hx hown (mvT hZ (hw _ (List.mem_of_getElem? (i := 9) rfl))) rfl (hb hby at_222) k) ?_
            refine Gl.st (g' := (mkF m 226 #[.val (.long p1), .second, .val (.int p2), .val (.ref a20), .val (.int v29), .val (.int v41), .unset, .unset] [(.long ((v41.toInt64) &&& (4294967295 : Int64)))])) (fun t k => XS.land X40.here hx rfl (hb hby at_225) rfl k) ?_
            generalize hv62 : ((v41.toInt64) &&& (4294967295 : Int64)) = v62
            refine Gl.st (g' := (mkF m 228 #[.val (.long p1), .second, .val (.int p2), .val (.ref a20), .val (.int v29), .val (.int v41), .val (.long v62), .second] [])) (fun t k => XS.lstore X40.here hx rfl (hb hby at_226) rfl (l' := #[.val (.long p1), .second, .val (.int p2), .val (.ref a20), .val (.int v29), .val (.int v41), .val (.long v62), .second]) rfl k) ?_
            refine Gl.st (g' := (mkF m 229 #[.val (.long p1), .second, .val (.int p2), .val (.ref a20), .val (.int v29), .val (.int v41), .val (.long v62), .second] [(.ref a20)])) (fun t k => XS.aloadN X40.here hx rfl (hb hby at_228) rfl rfl k) ?_
            refine Gl.st (g' := (mkF m 231 #[.val (.long p1), .second, .val (.int p2), .val (.ref a20), .val (.int v29), .val (.int v41), .val (.long v62), .second] [(.int v29), (.ref a20)])) (fun t k => XS.iload X40.here hx rfl (hb hby at_229) rfl k) ?_
            obtain ⟨_, _, ⟨T63, L63, k63, n63⟩, -, X63, ⟨Lc63, hQ63, l63, y63, z63⟩, st63⟩ := Jvm.LawKit.callS X40 hx (y := (⟨"keyhalo/KeyHash", "crc16", "([BI)J"⟩ : MethodName)) hown (mvT hZ (hw _ (List.mem_of_getElem? (i := 10) rfl))) (mvT hZ (hw _ (List.mem_of_getElem? (i := 11) rfl))) (mvT hZ (hw _ (List.mem_of_getElem? (i := 12) rfl))) (mvT hZ (hw _ (List.mem_of_getElem? (i := 13) rfl))) (by decide) (backOf (W := 0) (rm4 l Z a0 hw a20 v29 [b21, b22, b23, b24, b25, b26, b27, b28] 4 cA20 (8 : Int32) h28 n0 Z28 V28 (own_pin (4 : Int32) (3 : Int32) c39 c42 (by decide)) (by decide : 4 ≤ 8) rfl (by decide : 8 ≤ 16)) hZ (hw _ (List.mem_of_getElem? (i := 13) rfl)) (hw _ (List.mem_of_getElem? (i := 12) rfl)) (by decide) (by decide)) (g := (mkF m 231 #[.val (.long p1), .second, .val (.int p2), .val (.ref a20), .val (.int v29), .val (.int v41), .val (.long v62), .second] [(.int v29), (.ref a20)])) rfl (by rw [hml]; rfl) (argsL := [(.ref a20), (.int v29)]) (rest := []) (lenOf pd_3 rfl) rfl (by show 2 * 0 + _ ≤ _; exact Nat.le_of_eq rfl) (hb hby at_231) (fun _ _ => ⟨rfl, e40, (by decide : 0 + 1 + 0 + 0 + 0 + 0 + 0 ≤ _), (by decide : 0 + 8 + 0 + 0 + 0 + 0 + 0 ≤ _)⟩)
            dsimp only [Pt.U, Pt.locs, Pt.cells, Pt.slots] at X63 l63 y63 z63 st63 hQ63
            subst l63 y63 z63
            obtain ⟨rfl, Nq63, e63⟩ := hQ63
            have N63 := Fr.app N40 Nq63
            refine Gl.st (g' := (mkF m 234 #[.val (.long p1), .second, .val (.int p2), .val (.ref a20), .val (.int v29), .val (.int v41), .val (.long v62), .second] [(.long (own_crc [b21, b22, b23, b24, b25, b26, b27, b28] 4))])) st63 ?_
            refine Gl.st (g' := (mkF m 236 #[.val (.long p1), .second, .val (.int p2), .val (.ref a20), .val (.int v29), .val (.int v41), .val (.long v62), .second] [(.long v62), (.long (own_crc [b21, b22, b23, b24, b25, b26, b27, b28] 4))])) (fun t k => XS.lload X63.here hx rfl (hb hby at_234) rfl k) ?_
            refine Gl.st (g' := (mkF m 237 #[.val (.long p1), .second, .val (.int p2), .val (.ref a20), .val (.int v29), .val (.int v41), .val (.long v62), .second] [(.int (XT.cmpL (own_crc [b21, b22, b23, b24, b25, b26, b27, b28] 4) v62))])) (fun t k => XT.lcmp X63.here hx rfl (hb hby at_236) rfl k) ?_
            refine Gl.st (g' := (mkF m 240 #[.val (.long p1), .second, .val (.int p2), .val (.ref a20), .val (.int v29), .val (.int v41), .val (.long v62), .second] [])) (fun t k => XS.ifNo X63.here hx rfl (hb hby at_237) rfl (XT.ll_ne_f (by unfold own_crc; rw [own_cs_eq]; subst hv32 hv35 hv38 hv41 hv62; rfl)) k) ?_
            refine Gl.st (g' := (mkF m 241 #[.val (.long p1), .second, .val (.int p2), .val (.ref a20), .val (.int v29), .val (.int v41), .val (.long v62), .second] [(.int (1 : Int32))])) (fun t k => XT.iconstV X63.here hx rfl (1 : Int32) (hb hby at_240) rfl k) ?_
            refine Gl.st (g' := (mkF m 245 #[.val (.long p1), .second, .val (.int p2), .val (.ref a20), .val (.int v29), .val (.int v41), .val (.long v62), .second] [(.int (1 : Int32))])) (fun t k => XS.goto X63.here hx rfl (pc0 := 241) (pc' := 245) rfl (hb hby at_241) (by decide) (by decide) k) ?_
            refine Gl.retZ X63 hx hlk .boolean (by simp) Bd.returns (hb hby at_245) e63 (by decide) (by decide) ?_
            rw [Q0, own_z1]
            exact ⟨rfl, N63⟩
        · skip
          refine Gl.st (g' := (mkF m 151 #[.val (.long p1), .second, .val (.int p2), .val (.ref a20), .val (.int v29), .val (.int v38), .unset, .unset] [])) (fun t k => XS.icmpYes X37.here hx rfl (pc0 := 138) (pc' := 151) rfl (hb hby at_138) rfl (XT.ii_le_t c39) (by decide) (by decide) k) ?_
          refine Gl.st (g' := (mkF m 153 #[.val (.long p1), .second, .val (.int p2), .val (.ref a20), .val (.int v29), .val (.int v38), .unset, .unset] [(.int v29)])) (fun t k => XS.iload X37.here hx rfl (hb hby at_151) rfl k) ?_
          refine Gl.st (g' := (mkF m 154 #[.val (.long p1), .second, .val (.int p2), .val (.ref a20), .val (.int v29), .val (.int v38), .unset, .unset] [(.int (4 : Int32)), (.int v29)])) (fun t k => XT.iconstV X37.here hx rfl (4 : Int32) (hb hby at_153) rfl k) ?_
          refine Gl.st (g' := (mkF m 167 #[.val (.long p1), .second, .val (.int p2), .val (.ref a20), .val (.int v29), .val (.int v38), .unset, .unset] [])) (fun t k => XS.icmpYes X37.here hx rfl (pc0 := 154) (pc' := 167) rfl (hb hby at_154) rfl (XT.ii_le_t (own_ndn c39 (by decide))) (by decide) (by decide) k) ?_
          refine Gl.st (g' := (mkF m 169 #[.val (.long p1), .second, .val (.int p2), .val (.ref a20), .val (.int v29), .val (.int v38), .unset, .unset] [(.int v29)])) (fun t k => XS.iload X37.here hx rfl (hb hby at_167) rfl k) ?_
          refine Gl.st (g' := (mkF m 170 #[.val (.long p1), .second, .val (.int p2), .val (.ref a20), .val (.int v29), .val (.int v38), .unset, .unset] [(.int (5 : Int32)), (.int v29)])) (fun t k => XT.iconstV X37.here hx rfl (5 : Int32) (hb hby at_169) rfl k) ?_
          refine Gl.st (g' := (mkF m 183 #[.val (.long p1), .second, .val (.int p2), .val (.ref a20), .val (.int v29), .val (.int v38), .unset, .unset] [])) (fun t k => XS.icmpYes X37.here hx rfl (pc0 := 170) (pc' := 183) rfl (hb hby at_170) rfl (XT.ii_le_t (own_ndn c39 (by decide))) (by decide) (by decide) k) ?_
          refine Gl.st (g' := (mkF m 185 #[.val (.long p1), .second, .val (.int p2), .val (.ref a20), .val (.int v29), .val (.int v38), .unset, .unset] [(.int v29)])) (fun t k => XS.iload X37.here hx rfl (hb hby at_183) rfl k) ?_
          refine Gl.st (g' := (mkF m 187 #[.val (.long p1), .second, .val (.int p2), .val (.ref a20), .val (.int v29), .val (.int v38), .unset, .unset] [(.int (6 : Int32)), (.int v29)])) (fun t k => XT.bipushV X37.here hx rfl (6 : Int32) (hb hby at_185) rfl k) ?_
          refine Gl.st (g' := (mkF m 201 #[.val (.long p1), .second, .val (.int p2), .val (.ref a20), .val (.int v29), .val (.int v38), .unset, .unset] [])) (fun t k => XS.icmpYes X37.here hx rfl (pc0 := 187) (pc' := 201) rfl (hb hby at_187) rfl (XT.ii_le_t (own_ndn c39 (by decide))) (by decide) (by decide) k) ?_
          refine Gl.st (g' := (mkF m 203 #[.val (.long p1), .second, .val (.int p2), .val (.ref a20), .val (.int v29), .val (.int v38), .unset, .unset] [(.int v29)])) (fun t k => XS.iload X37.here hx rfl (hb hby at_201) rfl k) ?_
          refine Gl.st (g' := (mkF m 205 #[.val (.long p1), .second, .val (.int p2), .val (.ref a20), .val (.int v29), .val (.int v38), .unset, .unset] [(.int (7 : Int32)), (.int v29)])) (fun t k => XT.bipushV X37.here hx rfl (7 : Int32) (hb hby at_203) rfl k) ?_
          refine Gl.st (g' := (mkF m 219 #[.val (.long p1), .second, .val (.int p2), .val (.ref a20), .val (.int v29), .val (.int v38), .unset, .unset] [])) (fun t k => XS.icmpYes X37.here hx rfl (pc0 := 205) (pc' := 219) rfl (hb hby at_205) rfl (XT.ii_le_t (own_ndn c39 (by decide))) (by decide) (by decide) k) ?_
          refine Gl.st (g' := (mkF m 221 #[.val (.long p1), .second, .val (.int p2), .val (.ref a20), .val (.int v29), .val (.int v38), .unset, .unset] [(.int v38)])) (fun t k => XS.iload X37.here hx rfl (hb hby at_219) rfl k) ?_
          refine Gl.st (g' := (mkF m 222 #[.val (.long p1), .second, .val (.int p2), .val (.ref a20), .val (.int v29), .val (.int v38), .unset, .unset] [(.long (v38.toInt64))])) (fun t k => XS.i2l X37.here hx rfl (hb hby at_221) rfl k) ?_
          refine Gl.st (g' := (mkF m 225 #[.val (.long p1), .second, .val (.int p2), .val (.ref a20), .val (.int v29), .val (.int v38), .unset, .unset] [(.long (4294967295 : Int64)), (.long (v38.toInt64))])) (fun t k => X37.ldc2J hx hown (mvT hZ (hw _ (List.mem_of_getElem? (i := 9) rfl))) rfl (hb hby at_222) k) ?_
          refine Gl.st (g' := (mkF m 226 #[.val (.long p1), .second, .val (.int p2), .val (.ref a20), .val (.int v29), .val (.int v38), .unset, .unset] [(.long ((v38.toInt64) &&& (4294967295 : Int64)))])) (fun t k => XS.land X37.here hx rfl (hb hby at_225) rfl k) ?_
          generalize hv64 : ((v38.toInt64) &&& (4294967295 : Int64)) = v64
          refine Gl.st (g' := (mkF m 228 #[.val (.long p1), .second, .val (.int p2), .val (.ref a20), .val (.int v29), .val (.int v38), .val (.long v64), .second] [])) (fun t k => XS.lstore X37.here hx rfl (hb hby at_226) rfl (l' := #[.val (.long p1), .second, .val (.int p2), .val (.ref a20), .val (.int v29), .val (.int v38), .val (.long v64), .second]) rfl k) ?_
          refine Gl.st (g' := (mkF m 229 #[.val (.long p1), .second, .val (.int p2), .val (.ref a20), .val (.int v29), .val (.int v38), .val (.long v64), .second] [(.ref a20)])) (fun t k => XS.aloadN X37.here hx rfl (hb hby at_228) rfl rfl k) ?_
          refine Gl.st (g' := (mkF m 231 #[.val (.long p1), .second, .val (.int p2), .val (.ref a20), .val (.int v29), .val (.int v38), .val (.long v64), .second] [(.int v29), (.ref a20)])) (fun t k => XS.iload X37.here hx rfl (hb hby at_229) rfl k) ?_
          obtain ⟨_, _, ⟨T65, L65, k65, n65⟩, -, X65, ⟨Lc65, hQ65, l65, y65, z65⟩, st65⟩ := Jvm.LawKit.callS X37 hx (y := (⟨"keyhalo/KeyHash", "crc16", "([BI)J"⟩ : MethodName)) hown (mvT hZ (hw _ (List.mem_of_getElem? (i := 10) rfl))) (mvT hZ (hw _ (List.mem_of_getElem? (i := 11) rfl))) (mvT hZ (hw _ (List.mem_of_getElem? (i := 12) rfl))) (mvT hZ (hw _ (List.mem_of_getElem? (i := 13) rfl))) (by decide) (backOf (W := 0) (rm4 l Z a0 hw a20 v29 [b21, b22, b23, b24, b25, b26, b27, b28] 3 cA20 (8 : Int32) h28 n0 Z28 V28 (own_pin (3 : Int32) (2 : Int32) c36 c39 (by decide)) (by decide : 3 ≤ 8) rfl (by decide : 8 ≤ 16)) hZ (hw _ (List.mem_of_getElem? (i := 13) rfl)) (hw _ (List.mem_of_getElem? (i := 12) rfl)) (by decide) (by decide)) (g := (mkF m 231 #[.val (.long p1), .second, .val (.int p2), .val (.ref a20), .val (.int v29), .val (.int v38), .val (.long v64), .second] [(.int v29), (.ref a20)])) rfl (by rw [hml]; rfl) (argsL := [(.ref a20), (.int v29)]) (rest := []) (lenOf pd_3 rfl) rfl (by show 2 * 0 + _ ≤ _; exact Nat.le_of_eq rfl) (hb hby at_231) (fun _ _ => ⟨rfl, e37, (by decide : 0 + 1 + 0 + 0 + 0 + 0 ≤ _), (by decide : 0 + 8 + 0 + 0 + 0 + 0 ≤ _)⟩)
          dsimp only [Pt.U, Pt.locs, Pt.cells, Pt.slots] at X65 l65 y65 z65 st65 hQ65
          subst l65 y65 z65
          obtain ⟨rfl, Nq65, e65⟩ := hQ65
          have N65 := Fr.app N37 Nq65
          refine Gl.st (g' := (mkF m 234 #[.val (.long p1), .second, .val (.int p2), .val (.ref a20), .val (.int v29), .val (.int v38), .val (.long v64), .second] [(.long (own_crc [b21, b22, b23, b24, b25, b26, b27, b28] 3))])) st65 ?_
          refine Gl.st (g' := (mkF m 236 #[.val (.long p1), .second, .val (.int p2), .val (.ref a20), .val (.int v29), .val (.int v38), .val (.long v64), .second] [(.long v64), (.long (own_crc [b21, b22, b23, b24, b25, b26, b27, b28] 3))])) (fun t k => XS.lload X65.here hx rfl (hb hby at_234) rfl k) ?_
          refine Gl.st (g' := (mkF m 237 #[.val (.long p1), .second, .val (.int p2), .val (.ref a20), .val (.int v29), .val (.int v38), .val (.long v64), .second] [(.int (XT.cmpL (own_crc [b21, b22, b23, b24, b25, b26, b27, b28] 3) v64))])) (fun t k => XT.lcmp X65.here hx rfl (hb hby at_236) rfl k) ?_
          refine Gl.st (g' := (mkF m 240 #[.val (.long p1), .second, .val (.int p2), .val (.ref a20), .val (.int v29), .val (.int v38), .val (.long v64), .second] [])) (fun t k => XS.ifNo X65.here hx rfl (hb hby at_237) rfl (XT.ll_ne_f (by unfold own_crc; rw [own_cs_eq]; subst hv32 hv35 hv38 hv64; rfl)) k) ?_
          refine Gl.st (g' := (mkF m 241 #[.val (.long p1), .second, .val (.int p2), .val (.ref a20), .val (.int v29), .val (.int v38), .val (.long v64), .second] [(.int (1 : Int32))])) (fun t k => XT.iconstV X65.here hx rfl (1 : Int32) (hb hby at_240) rfl k) ?_
          refine Gl.st (g' := (mkF m 245 #[.val (.long p1), .second, .val (.int p2), .val (.ref a20), .val (.int v29), .val (.int v38), .val (.long v64), .second] [(.int (1 : Int32))])) (fun t k => XS.goto X65.here hx rfl (pc0 := 241) (pc' := 245) rfl (hb hby at_241) (by decide) (by decide) k) ?_
          refine Gl.retZ X65 hx hlk .boolean (by simp) Bd.returns (hb hby at_245) e65 (by decide) (by decide) ?_
          rw [Q0, own_z1]
          exact ⟨rfl, N65⟩
      · skip
        refine Gl.st (g' := (mkF m 135 #[.val (.long p1), .second, .val (.int p2), .val (.ref a20), .val (.int v29), .val (.int v35), .unset, .unset] [])) (fun t k => XS.icmpYes X34.here hx rfl (pc0 := 122) (pc' := 135) rfl (hb hby at_122) rfl (XT.ii_le_t c36) (by decide) (by decide) k) ?_
        refine Gl.st (g' := (mkF m 137 #[.val (.long p1), .second, .val (.int p2), .val (.ref a20), .val (.int v29), .val (.int v35), .unset, .unset] [(.int v29)])) (fun t k => XS.iload X34.here hx rfl (hb hby at_135) rfl k) ?_
        refine Gl.st (g' := (mkF m 138 #[.val (.long p1), .second, .val (.int p2), .val (.ref a20), .val (.int v29), .val (.int v35), .unset, .unset] [(.int (3 : Int32)), (.int v29)])) (fun t k => XT.iconstV X34.here hx rfl (3 : Int32) (hb hby at_137) rfl k) ?_
        refine Gl.st (g' := (mkF m 151 #[.val (.long p1), .second, .val (.int p2), .val (.ref a20), .val (.int v29), .val (.int v35), .unset, .unset] [])) (fun t k => XS.icmpYes X34.here hx rfl (pc0 := 138) (pc' := 151) rfl (hb hby at_138) rfl (XT.ii_le_t (own_ndn c36 (by decide))) (by decide) (by decide) k) ?_
        refine Gl.st (g' := (mkF m 153 #[.val (.long p1), .second, .val (.int p2), .val (.ref a20), .val (.int v29), .val (.int v35), .unset, .unset] [(.int v29)])) (fun t k => XS.iload X34.here hx rfl (hb hby at_151) rfl k) ?_
        refine Gl.st (g' := (mkF m 154 #[.val (.long p1), .second, .val (.int p2), .val (.ref a20), .val (.int v29), .val (.int v35), .unset, .unset] [(.int (4 : Int32)), (.int v29)])) (fun t k => XT.iconstV X34.here hx rfl (4 : Int32) (hb hby at_153) rfl k) ?_
        refine Gl.st (g' := (mkF m 167 #[.val (.long p1), .second, .val (.int p2), .val (.ref a20), .val (.int v29), .val (.int v35), .unset, .unset] [])) (fun t k => XS.icmpYes X34.here hx rfl (pc0 := 154) (pc' := 167) rfl (hb hby at_154) rfl (XT.ii_le_t (own_ndn c36 (by decide))) (by decide) (by decide) k) ?_
        refine Gl.st (g' := (mkF m 169 #[.val (.long p1), .second, .val (.int p2), .val (.ref a20), .val (.int v29), .val (.int v35), .unset, .unset] [(.int v29)])) (fun t k => XS.iload X34.here hx rfl (hb hby at_167) rfl k) ?_
        refine Gl.st (g' := (mkF m 170 #[.val (.long p1), .second, .val (.int p2), .val (.ref a20), .val (.int v29), .val (.int v35), .unset, .unset] [(.int (5 : Int32)), (.int v29)])) (fun t k => XT.iconstV X34.here hx rfl (5 : Int32) (hb hby at_169) rfl k) ?_
        refine Gl.st (g' := (mkF m 183 #[.val (.long p1), .second, .val (.int p2), .val (.ref a20), .val (.int v29), .val (.int v35), .unset, .unset] [])) (fun t k => XS.icmpYes X34.here hx rfl (pc0 := 170) (pc' := 183) rfl (hb hby at_170) rfl (XT.ii_le_t (own_ndn c36 (by decide))) (by decide) (by decide) k) ?_
        refine Gl.st (g' := (mkF m 185 #[.val (.long p1), .second, .val (.int p2), .val (.ref a20), .val (.int v29), .val (.int v35), .unset, .unset] [(.int v29)])) (fun t k => XS.iload X34.here hx rfl (hb hby at_183) rfl k) ?_
        refine Gl.st (g' := (mkF m 187 #[.val (.long p1), .second, .val (.int p2), .val (.ref a20), .val (.int v29), .val (.int v35), .unset, .unset] [(.int (6 : Int32)), (.int v29)])) (fun t k => XT.bipushV X34.here hx rfl (6 : Int32) (hb hby at_185) rfl k) ?_
        refine Gl.st (g' := (mkF m 201 #[.val (.long p1), .second, .val (.int p2), .val (.ref a20), .val (.int v29), .val (.int v35), .unset, .unset] [])) (fun t k => XS.icmpYes X34.here hx rfl (pc0 := 187) (pc' := 201) rfl (hb hby at_187) rfl (XT.ii_le_t (own_ndn c36 (by decide))) (by decide) (by decide) k) ?_
        refine Gl.st (g' := (mkF m 203 #[.val (.long p1), .second, .val (.int p2), .val (.ref a20), .val (.int v29), .val (.int v35), .unset, .unset] [(.int v29)])) (fun t k => XS.iload X34.here hx rfl (hb hby at_201) rfl k) ?_
        refine Gl.st (g' := (mkF m 205 #[.val (.long p1), .second, .val (.int p2), .val (.ref a20), .val (.int v29), .val (.int v35), .unset, .unset] [(.int (7 : Int32)), (.int v29)])) (fun t k => XT.bipushV X34.here hx rfl (7 : Int32) (hb hby at_203) rfl k) ?_
        refine Gl.st (g' := (mkF m 219 #[.val (.long p1), .second, .val (.int p2), .val (.ref a20), .val (.int v29), .val (.int v35), .unset, .unset] [])) (fun t k => XS.icmpYes X34.here hx rfl (pc0 := 205) (pc' := 219) rfl (hb hby at_205) rfl (XT.ii_le_t (own_ndn c36 (by decide))) (by decide) (by decide) k) ?_
        refine Gl.st (g' := (mkF m 221 #[.val (.long p1), .second, .val (.int p2), .val (.ref a20), .val (.int v29), .val (.int v35), .unset, .unset] [(.int v35)])) (fun t k => XS.iload X34.here hx rfl (hb hby at_219) rfl k) ?_
        refine Gl.st (g' := (mkF m 222 #[.val (.long p1), .second, .val (.int p2), .val (.ref a20), .val (.int v29), .val (.int v35), .unset, .unset] [(.long (v35.toInt64))])) (fun t k => XS.i2l X34.here hx rfl (hb hby at_221) rfl k) ?_
        refine Gl.st (g' := (mkF m 225 #[.val (.long p1), .second, .val (.int p2), .val (.ref a20), .val (.int v29), .val (.int v35), .unset, .unset] [(.long (4294967295 : Int64)), (.long (v35.toInt64))])) (fun t k => X34.ldc2J hx hown (mvT hZ (hw _ (List.mem_of_getElem? (i := 9) rfl))) rfl (hb hby at_222) k) ?_
        refine Gl.st (g' := (mkF m 226 #[.val (.long p1), .second, .val (.int p2), .val (.ref a20), .val (.int v29), .val (.int v35), .unset, .unset] [(.long ((v35.toInt64) &&& (4294967295 : Int64)))])) (fun t k => XS.land X34.here hx rfl (hb hby at_225) rfl k) ?_
        generalize hv66 : ((v35.toInt64) &&& (4294967295 : Int64)) = v66
        refine Gl.st (g' := (mkF m 228 #[.val (.long p1), .second, .val (.int p2), .val (.ref a20), .val (.int v29), .val (.int v35), .val (.long v66), .second] [])) (fun t k => XS.lstore X34.here hx rfl (hb hby at_226) rfl (l' := #[.val (.long p1), .second, .val (.int p2), .val (.ref a20), .val (.int v29), .val (.int v35), .val (.long v66), .second]) rfl k) ?_
        refine Gl.st (g' := (mkF m 229 #[.val (.long p1), .second, .val (.int p2), .val (.ref a20), .val (.int v29), .val (.int v35), .val (.long v66), .second] [(.ref a20)])) (fun t k => XS.aloadN X34.here hx rfl (hb hby at_228) rfl rfl k) ?_
        refine Gl.st (g' := (mkF m 231 #[.val (.long p1), .second, .val (.int p2), .val (.ref a20), .val (.int v29), .val (.int v35), .val (.long v66), .second] [(.int v29), (.ref a20)])) (fun t k => XS.iload X34.here hx rfl (hb hby at_229) rfl k) ?_
        obtain ⟨_, _, ⟨T67, L67, k67, n67⟩, -, X67, ⟨Lc67, hQ67, l67, y67, z67⟩, st67⟩ := Jvm.LawKit.callS X34 hx (y := (⟨"keyhalo/KeyHash", "crc16", "([BI)J"⟩ : MethodName)) hown (mvT hZ (hw _ (List.mem_of_getElem? (i := 10) rfl))) (mvT hZ (hw _ (List.mem_of_getElem? (i := 11) rfl))) (mvT hZ (hw _ (List.mem_of_getElem? (i := 12) rfl))) (mvT hZ (hw _ (List.mem_of_getElem? (i := 13) rfl))) (by decide) (backOf (W := 0) (rm4 l Z a0 hw a20 v29 [b21, b22, b23, b24, b25, b26, b27, b28] 2 cA20 (8 : Int32) h28 n0 Z28 V28 (own_pin (2 : Int32) (1 : Int32) c33 c36 (by decide)) (by decide : 2 ≤ 8) rfl (by decide : 8 ≤ 16)) hZ (hw _ (List.mem_of_getElem? (i := 13) rfl)) (hw _ (List.mem_of_getElem? (i := 12) rfl)) (by decide) (by decide)) (g := (mkF m 231 #[.val (.long p1), .second, .val (.int p2), .val (.ref a20), .val (.int v29), .val (.int v35), .val (.long v66), .second] [(.int v29), (.ref a20)])) rfl (by rw [hml]; rfl) (argsL := [(.ref a20), (.int v29)]) (rest := []) (lenOf pd_3 rfl) rfl (by show 2 * 0 + _ ≤ _; exact Nat.le_of_eq rfl) (hb hby at_231) (fun _ _ => ⟨rfl, e34, (by decide : 0 + 1 + 0 + 0 + 0 ≤ _), (by decide : 0 + 8 + 0 + 0 + 0 ≤ _)⟩)
        dsimp only [Pt.U, Pt.locs, Pt.cells, Pt.slots] at X67 l67 y67 z67 st67 hQ67
        subst l67 y67 z67
        obtain ⟨rfl, Nq67, e67⟩ := hQ67
        have N67 := Fr.app N34 Nq67
        refine Gl.st (g' := (mkF m 234 #[.val (.long p1), .second, .val (.int p2), .val (.ref a20), .val (.int v29), .val (.int v35), .val (.long v66), .second] [(.long (own_crc [b21, b22, b23, b24, b25, b26, b27, b28] 2))])) st67 ?_
        refine Gl.st (g' := (mkF m 236 #[.val (.long p1), .second, .val (.int p2), .val (.ref a20), .val (.int v29), .val (.int v35), .val (.long v66), .second] [(.long v66), (.long (own_crc [b21, b22, b23, b24, b25, b26, b27, b28] 2))])) (fun t k => XS.lload X67.here hx rfl (hb hby at_234) rfl k) ?_
        refine Gl.st (g' := (mkF m 237 #[.val (.long p1), .second, .val (.int p2), .val (.ref a20), .val (.int v29), .val (.int v35), .val (.long v66), .second] [(.int (XT.cmpL (own_crc [b21, b22, b23, b24, b25, b26, b27, b28] 2) v66))])) (fun t k => XT.lcmp X67.here hx rfl (hb hby at_236) rfl k) ?_
        refine Gl.st (g' := (mkF m 240 #[.val (.long p1), .second, .val (.int p2), .val (.ref a20), .val (.int v29), .val (.int v35), .val (.long v66), .second] [])) (fun t k => XS.ifNo X67.here hx rfl (hb hby at_237) rfl (XT.ll_ne_f (by unfold own_crc; rw [own_cs_eq]; subst hv32 hv35 hv66; rfl)) k) ?_
        refine Gl.st (g' := (mkF m 241 #[.val (.long p1), .second, .val (.int p2), .val (.ref a20), .val (.int v29), .val (.int v35), .val (.long v66), .second] [(.int (1 : Int32))])) (fun t k => XT.iconstV X67.here hx rfl (1 : Int32) (hb hby at_240) rfl k) ?_
        refine Gl.st (g' := (mkF m 245 #[.val (.long p1), .second, .val (.int p2), .val (.ref a20), .val (.int v29), .val (.int v35), .val (.long v66), .second] [(.int (1 : Int32))])) (fun t k => XS.goto X67.here hx rfl (pc0 := 241) (pc' := 245) rfl (hb hby at_241) (by decide) (by decide) k) ?_
        refine Gl.retZ X67 hx hlk .boolean (by simp) Bd.returns (hb hby at_245) e67 (by decide) (by decide) ?_
        rw [Q0, own_z1]
        exact ⟨rfl, N67⟩
    · skip
      refine Gl.st (g' := (mkF m 119 #[.val (.long p1), .second, .val (.int p2), .val (.ref a20), .val (.int v29), .val (.int v32), .unset, .unset] [])) (fun t k => XS.icmpYes X31.here hx rfl (pc0 := 106) (pc' := 119) rfl (hb hby at_106) rfl (XT.ii_le_t c33) (by decide) (by decide) k) ?_
      refine Gl.st (g' := (mkF m 121 #[.val (.long p1), .second, .val (.int p2), .val (.ref a20), .val (.int v29), .val (.int v32), .unset, .unset] [(.int v29)])) (fun t k => XS.iload X31.here hx rfl (hb hby at_119) rfl k) ?_
      refine Gl.st (g' := (mkF m 122 #[.val (.long p1), .second, .val (.int p2), .val (.ref a20), .val (.int v29), .val (.int v32), .unset, .unset] [(.int (2 : Int32)), (.int v29)])) (fun t k => XT.iconstV X31.here hx rfl (2 : Int32) (hb hby at_121) rfl k) ?_
      refine Gl.st (g' := (mkF m 135 #[.val (.long p1), .second, .val (.int p2), .val (.ref a20), .val (.int v29), .val (.int v32), .unset, .unset] [])) (fun t k => XS.icmpYes X31.here hx rfl (pc0 := 122) (pc' := 135) rfl (hb hby at_122) rfl (XT.ii_le_t (own_ndn c33 (by decide))) (by decide) (by decide) k) ?_
      refine Gl.st (g' := (mkF m 137 #[.val (.long p1), .second, .val (.int p2), .val (.ref a20), .val (.int v29), .val (.int v32), .unset, .unset] [(.int v29)])) (fun t k => XS.iload X31.here hx rfl (hb hby at_135) rfl k) ?_
      refine Gl.st (g' := (mkF m 138 #[.val (.long p1), .second, .val (.int p2), .val (.ref a20), .val (.int v29), .val (.int v32), .unset, .unset] [(.int (3 : Int32)), (.int v29)])) (fun t k => XT.iconstV X31.here hx rfl (3 : Int32) (hb hby at_137) rfl k) ?_
      refine Gl.st (g' := (mkF m 151 #[.val (.long p1), .second, .val (.int p2), .val (.ref a20), .val (.int v29), .val (.int v32), .unset, .unset] [])) (fun t k => XS.icmpYes X31.here hx rfl (pc0 := 138) (pc' := 151) rfl (hb hby at_138) rfl (XT.ii_le_t (own_ndn c33 (by decide))) (by decide) (by decide) k) ?_
      refine Gl.st (g' := (mkF m 153 #[.val (.long p1), .second, .val (.int p2), .val (.ref a20), .val (.int v29), .val (.int v32), .unset, .unset] [(.int v29)])) (fun t k => XS.iload X31.here hx rfl (hb hby at_151) rfl k) ?_
      refine Gl.st (g' := (mkF m 154 #[.val (.long p1), .second, .val (.int p2), .val (.ref a20), .val (.int v29), .val (.int v32), .unset, .unset] [(.int (4 : Int32)), (.int v29)])) (fun t k => XT.iconstV X31.here hx rfl (4 : Int32) (hb hby at_153) rfl k) ?_
      refine Gl.st (g' := (mkF m 167 #[.val (.long p1), .second, .val (.int p2), .val (.ref a20), .val (.int v29), .val (.int v32), .unset, .unset] [])) (fun t k => XS.icmpYes X31.here hx rfl (pc0 := 154) (pc' := 167) rfl (hb hby at_154) rfl (XT.ii_le_t (own_ndn c33 (by decide))) (by decide) (by decide) k) ?_
      refine Gl.st (g' := (mkF m 169 #[.val (.long p1), .second, .val (.int p2), .val (.ref a20), .val (.int v29), .val (.int v32), .unset, .unset] [(.int v29)])) (fun t k => XS.iload X31.here hx rfl (hb hby at_167) rfl k) ?_
      refine Gl.st (g' := (mkF m 170 #[.val (.long p1), .second, .val (.int p2), .val (.ref a20), .val (.int v29), .val (.int v32), .unset, .unset] [(.int (5 : Int32)), (.int v29)])) (fun t k => XT.iconstV X31.here hx rfl (5 : Int32) (hb hby at_169) rfl k) ?_
      refine Gl.st (g' := (mkF m 183 #[.val (.long p1), .second, .val (.int p2), .val (.ref a20), .val (.int v29), .val (.int v32), .unset, .unset] [])) (fun t k => XS.icmpYes X31.here hx rfl (pc0 := 170) (pc' := 183) rfl (hb hby at_170) rfl (XT.ii_le_t (own_ndn c33 (by decide))) (by decide) (by decide) k) ?_
      refine Gl.st (g' := (mkF m 185 #[.val (.long p1), .second, .val (.int p2), .val (.ref a20), .val (.int v29), .val (.int v32), .unset, .unset] [(.int v29)])) (fun t k => XS.iload X31.here hx rfl (hb hby at_183) rfl k) ?_
      refine Gl.st (g' := (mkF m 187 #[.val (.long p1), .second, .val (.int p2), .val (.ref a20), .val (.int v29), .val (.int v32), .unset, .unset] [(.int (6 : Int32)), (.int v29)])) (fun t k => XT.bipushV X31.here hx rfl (6 : Int32) (hb hby at_185) rfl k) ?_
      refine Gl.st (g' := (mkF m 201 #[.val (.long p1), .second, .val (.int p2), .val (.ref a20), .val (.int v29), .val (.int v32), .unset, .unset] [])) (fun t k => XS.icmpYes X31.here hx rfl (pc0 := 187) (pc' := 201) rfl (hb hby at_187) rfl (XT.ii_le_t (own_ndn c33 (by decide))) (by decide) (by decide) k) ?_
      refine Gl.st (g' := (mkF m 203 #[.val (.long p1), .second, .val (.int p2), .val (.ref a20), .val (.int v29), .val (.int v32), .unset, .unset] [(.int v29)])) (fun t k => XS.iload X31.here hx rfl (hb hby at_201) rfl k) ?_
      refine Gl.st (g' := (mkF m 205 #[.val (.long p1), .second, .val (.int p2), .val (.ref a20), .val (.int v29), .val (.int v32), .unset, .unset] [(.int (7 : Int32)), (.int v29)])) (fun t k => XT.bipushV X31.here hx rfl (7 : Int32) (hb hby at_203) rfl k) ?_
      refine Gl.st (g' := (mkF m 219 #[.val (.long p1), .second, .val (.int p2), .val (.ref a20), .val (.int v29), .val (.int v32), .unset, .unset] [])) (fun t k => XS.icmpYes X31.here hx rfl (pc0 := 205) (pc' := 219) rfl (hb hby at_205) rfl (XT.ii_le_t (own_ndn c33 (by decide))) (by decide) (by decide) k) ?_
      refine Gl.st (g' := (mkF m 221 #[.val (.long p1), .second, .val (.int p2), .val (.ref a20), .val (.int v29), .val (.int v32), .unset, .unset] [(.int v32)])) (fun t k => XS.iload X31.here hx rfl (hb hby at_219) rfl k) ?_
      refine Gl.st (g' := (mkF m 222 #[.val (.long p1), .second, .val (.int p2), .val (.ref a20), .val (.int v29), .val (.int v32), .unset, .unset] [(.long (v32.toInt64))])) (fun t k => XS.i2l X31.here hx rfl (hb hby at_221) rfl k) ?_
      refine Gl.st (g' := (mkF m 225 #[.val (.long p1), .second, .val (.int p2), .val (.ref a20), .val (.int v29), .val (.int v32), .unset, .unset] [(.long (4294967295 : Int64)), (.long (v32.toInt64))])) (fun t k => X31.ldc2J hx hown (mvT hZ (hw _ (List.mem_of_getElem? (i := 9) rfl))) rfl (hb hby at_222) k) ?_
      refine Gl.st (g' := (mkF m 226 #[.val (.long p1), .second, .val (.int p2), .val (.ref a20), .val (.int v29), .val (.int v32), .unset, .unset] [(.long ((v32.toInt64) &&& (4294967295 : Int64)))])) (fun t k => XS.land X31.here hx rfl (hb hby at_225) rfl k) ?_
      generalize hv68 : ((v32.toInt64) &&& (4294967295 : Int64)) = v68
      refine Gl.st (g' := (mkF m 228 #[.val (.long p1), .second, .val (.int p2), .val (.ref a20), .val (.int v29), .val (.int v32), .val (.long v68), .second] [])) (fun t k => XS.lstore X31.here hx rfl (hb hby at_226) rfl (l' := #[.val (.long p1), .second, .val (.int p2), .val (.ref a20), .val (.int v29), .val (.int v32), .val (.long v68), .second]) rfl k) ?_
      refine Gl.st (g' := (mkF m 229 #[.val (.long p1), .second, .val (.int p2), .val (.ref a20), .val (.int v29), .val (.int v32), .val (.long v68), .second] [(.ref a20)])) (fun t k => XS.aloadN X31.here hx rfl (hb hby at_228) rfl rfl k) ?_
      refine Gl.st (g' := (mkF m 231 #[.val (.long p1), .second, .val (.int p2), .val (.ref a20), .val (.int v29), .val (.int v32), .val (.long v68), .second] [(.int v29), (.ref a20)])) (fun t k => XS.iload X31.here hx rfl (hb hby at_229) rfl k) ?_
      obtain ⟨_, _, ⟨T69, L69, k69, n69⟩, -, X69, ⟨Lc69, hQ69, l69, y69, z69⟩, st69⟩ := Jvm.LawKit.callS X31 hx (y := (⟨"keyhalo/KeyHash", "crc16", "([BI)J"⟩ : MethodName)) hown (mvT hZ (hw _ (List.mem_of_getElem? (i := 10) rfl))) (mvT hZ (hw _ (List.mem_of_getElem? (i := 11) rfl))) (mvT hZ (hw _ (List.mem_of_getElem? (i := 12) rfl))) (mvT hZ (hw _ (List.mem_of_getElem? (i := 13) rfl))) (by decide) (backOf (W := 0) (rm4 l Z a0 hw a20 v29 [b21, b22, b23, b24, b25, b26, b27, b28] 1 cA20 (8 : Int32) h28 n0 Z28 V28 (own_pin (1 : Int32) (0 : Int32) c30 c33 (by decide)) (by decide : 1 ≤ 8) rfl (by decide : 8 ≤ 16)) hZ (hw _ (List.mem_of_getElem? (i := 13) rfl)) (hw _ (List.mem_of_getElem? (i := 12) rfl)) (by decide) (by decide)) (g := (mkF m 231 #[.val (.long p1), .second, .val (.int p2), .val (.ref a20), .val (.int v29), .val (.int v32), .val (.long v68), .second] [(.int v29), (.ref a20)])) rfl (by rw [hml]; rfl) (argsL := [(.ref a20), (.int v29)]) (rest := []) (lenOf pd_3 rfl) rfl (by show 2 * 0 + _ ≤ _; exact Nat.le_of_eq rfl) (hb hby at_231) (fun _ _ => ⟨rfl, e31, (by decide : 0 + 1 + 0 + 0 ≤ _), (by decide : 0 + 8 + 0 + 0 ≤ _)⟩)
      dsimp only [Pt.U, Pt.locs, Pt.cells, Pt.slots] at X69 l69 y69 z69 st69 hQ69
      subst l69 y69 z69
      obtain ⟨rfl, Nq69, e69⟩ := hQ69
      have N69 := Fr.app N31 Nq69
      refine Gl.st (g' := (mkF m 234 #[.val (.long p1), .second, .val (.int p2), .val (.ref a20), .val (.int v29), .val (.int v32), .val (.long v68), .second] [(.long (own_crc [b21, b22, b23, b24, b25, b26, b27, b28] 1))])) st69 ?_
      refine Gl.st (g' := (mkF m 236 #[.val (.long p1), .second, .val (.int p2), .val (.ref a20), .val (.int v29), .val (.int v32), .val (.long v68), .second] [(.long v68), (.long (own_crc [b21, b22, b23, b24, b25, b26, b27, b28] 1))])) (fun t k => XS.lload X69.here hx rfl (hb hby at_234) rfl k) ?_
      refine Gl.st (g' := (mkF m 237 #[.val (.long p1), .second, .val (.int p2), .val (.ref a20), .val (.int v29), .val (.int v32), .val (.long v68), .second] [(.int (XT.cmpL (own_crc [b21, b22, b23, b24, b25, b26, b27, b28] 1) v68))])) (fun t k => XT.lcmp X69.here hx rfl (hb hby at_236) rfl k) ?_
      refine Gl.st (g' := (mkF m 240 #[.val (.long p1), .second, .val (.int p2), .val (.ref a20), .val (.int v29), .val (.int v32), .val (.long v68), .second] [])) (fun t k => XS.ifNo X69.here hx rfl (hb hby at_237) rfl (XT.ll_ne_f (by unfold own_crc; rw [own_cs_eq]; subst hv32 hv68; rfl)) k) ?_
      refine Gl.st (g' := (mkF m 241 #[.val (.long p1), .second, .val (.int p2), .val (.ref a20), .val (.int v29), .val (.int v32), .val (.long v68), .second] [(.int (1 : Int32))])) (fun t k => XT.iconstV X69.here hx rfl (1 : Int32) (hb hby at_240) rfl k) ?_
      refine Gl.st (g' := (mkF m 245 #[.val (.long p1), .second, .val (.int p2), .val (.ref a20), .val (.int v29), .val (.int v32), .val (.long v68), .second] [(.int (1 : Int32))])) (fun t k => XS.goto X69.here hx rfl (pc0 := 241) (pc' := 245) rfl (hb hby at_241) (by decide) (by decide) k) ?_
      refine Gl.retZ X69 hx hlk .boolean (by simp) Bd.returns (hb hby at_245) e69 (by decide) (by decide) ?_
      rw [Q0, own_z1]
      exact ⟨rfl, N69⟩
  · skip
    refine Gl.st (g' := (mkF m 103 #[.val (.long p1), .second, .val (.int p2), .val (.ref a20), .val (.int v29), .val (.int (0 : Int32)), .unset, .unset] [])) (fun t k => XS.ifYes X28.here hx rfl (pc0 := 90) (pc' := 103) rfl (hb hby at_90) rfl (XT.i0_le_t c30) (by decide) (by decide) k) ?_
    refine Gl.st (g' := (mkF m 105 #[.val (.long p1), .second, .val (.int p2), .val (.ref a20), .val (.int v29), .val (.int (0 : Int32)), .unset, .unset] [(.int v29)])) (fun t k => XS.iload X28.here hx rfl (hb hby at_103) rfl k) ?_
    refine Gl.st (g' := (mkF m 106 #[.val (.long p1), .second, .val (.int p2), .val (.ref a20), .val (.int v29), .val (.int (0 : Int32)), .unset, .unset] [(.int (1 : Int32)), (.int v29)])) (fun t k => XT.iconstV X28.here hx rfl (1 : Int32) (hb hby at_105) rfl k) ?_
    refine Gl.st (g' := (mkF m 119 #[.val (.long p1), .second, .val (.int p2), .val (.ref a20), .val (.int v29), .val (.int (0 : Int32)), .unset, .unset] [])) (fun t k => XS.icmpYes X28.here hx rfl (pc0 := 106) (pc' := 119) rfl (hb hby at_106) rfl (XT.ii_le_t (own_ndn c30 (by decide))) (by decide) (by decide) k) ?_
    refine Gl.st (g' := (mkF m 121 #[.val (.long p1), .second, .val (.int p2), .val (.ref a20), .val (.int v29), .val (.int (0 : Int32)), .unset, .unset] [(.int v29)])) (fun t k => XS.iload X28.here hx rfl (hb hby at_119) rfl k) ?_
    refine Gl.st (g' := (mkF m 122 #[.val (.long p1), .second, .val (.int p2), .val (.ref a20), .val (.int v29), .val (.int (0 : Int32)), .unset, .unset] [(.int (2 : Int32)), (.int v29)])) (fun t k => XT.iconstV X28.here hx rfl (2 : Int32) (hb hby at_121) rfl k) ?_
    refine Gl.st (g' := (mkF m 135 #[.val (.long p1), .second, .val (.int p2), .val (.ref a20), .val (.int v29), .val (.int (0 : Int32)), .unset, .unset] [])) (fun t k => XS.icmpYes X28.here hx rfl (pc0 := 122) (pc' := 135) rfl (hb hby at_122) rfl (XT.ii_le_t (own_ndn c30 (by decide))) (by decide) (by decide) k) ?_
    refine Gl.st (g' := (mkF m 137 #[.val (.long p1), .second, .val (.int p2), .val (.ref a20), .val (.int v29), .val (.int (0 : Int32)), .unset, .unset] [(.int v29)])) (fun t k => XS.iload X28.here hx rfl (hb hby at_135) rfl k) ?_
    refine Gl.st (g' := (mkF m 138 #[.val (.long p1), .second, .val (.int p2), .val (.ref a20), .val (.int v29), .val (.int (0 : Int32)), .unset, .unset] [(.int (3 : Int32)), (.int v29)])) (fun t k => XT.iconstV X28.here hx rfl (3 : Int32) (hb hby at_137) rfl k) ?_
    refine Gl.st (g' := (mkF m 151 #[.val (.long p1), .second, .val (.int p2), .val (.ref a20), .val (.int v29), .val (.int (0 : Int32)), .unset, .unset] [])) (fun t k => XS.icmpYes X28.here hx rfl (pc0 := 138) (pc' := 151) rfl (hb hby at_138) rfl (XT.ii_le_t (own_ndn c30 (by decide))) (by decide) (by decide) k) ?_
    refine Gl.st (g' := (mkF m 153 #[.val (.long p1), .second, .val (.int p2), .val (.ref a20), .val (.int v29), .val (.int (0 : Int32)), .unset, .unset] [(.int v29)])) (fun t k => XS.iload X28.here hx rfl (hb hby at_151) rfl k) ?_
    refine Gl.st (g' := (mkF m 154 #[.val (.long p1), .second, .val (.int p2), .val (.ref a20), .val (.int v29), .val (.int (0 : Int32)), .unset, .unset] [(.int (4 : Int32)), (.int v29)])) (fun t k => XT.iconstV X28.here hx rfl (4 : Int32) (hb hby at_153) rfl k) ?_
    refine Gl.st (g' := (mkF m 167 #[.val (.long p1), .second, .val (.int p2), .val (.ref a20), .val (.int v29), .val (.int (0 : Int32)), .unset, .unset] [])) (fun t k => XS.icmpYes X28.here hx rfl (pc0 := 154) (pc' := 167) rfl (hb hby at_154) rfl (XT.ii_le_t (own_ndn c30 (by decide))) (by decide) (by decide) k) ?_
    refine Gl.st (g' := (mkF m 169 #[.val (.long p1), .second, .val (.int p2), .val (.ref a20), .val (.int v29), .val (.int (0 : Int32)), .unset, .unset] [(.int v29)])) (fun t k => XS.iload X28.here hx rfl (hb hby at_167) rfl k) ?_
    refine Gl.st (g' := (mkF m 170 #[.val (.long p1), .second, .val (.int p2), .val (.ref a20), .val (.int v29), .val (.int (0 : Int32)), .unset, .unset] [(.int (5 : Int32)), (.int v29)])) (fun t k => XT.iconstV X28.here hx rfl (5 : Int32) (hb hby at_169) rfl k) ?_
    refine Gl.st (g' := (mkF m 183 #[.val (.long p1), .second, .val (.int p2), .val (.ref a20), .val (.int v29), .val (.int (0 : Int32)), .unset, .unset] [])) (fun t k => XS.icmpYes X28.here hx rfl (pc0 := 170) (pc' := 183) rfl (hb hby at_170) rfl (XT.ii_le_t (own_ndn c30 (by decide))) (by decide) (by decide) k) ?_
    refine Gl.st (g' := (mkF m 185 #[.val (.long p1), .second, .val (.int p2), .val (.ref a20), .val (.int v29), .val (.int (0 : Int32)), .unset, .unset] [(.int v29)])) (fun t k => XS.iload X28.here hx rfl (hb hby at_183) rfl k) ?_
    refine Gl.st (g' := (mkF m 187 #[.val (.long p1), .second, .val (.int p2), .val (.ref a20), .val (.int v29), .val (.int (0 : Int32)), .unset, .unset] [(.int (6 : Int32)), (.int v29)])) (fun t k => XT.bipushV X28.here hx rfl (6 : Int32) (hb hby at_185) rfl k) ?_
    refine Gl.st (g' := (mkF m 201 #[.val (.long p1), .second, .val (.int p2), .val (.ref a20), .val (.int v29), .val (.int (0 : Int32)), .unset, .unset] [])) (fun t k => XS.icmpYes X28.here hx rfl (pc0 := 187) (pc' := 201) rfl (hb hby at_187) rfl (XT.ii_le_t (own_ndn c30 (by decide))) (by decide) (by decide) k) ?_
    refine Gl.st (g' := (mkF m 203 #[.val (.long p1), .second, .val (.int p2), .val (.ref a20), .val (.int v29), .val (.int (0 : Int32)), .unset, .unset] [(.int v29)])) (fun t k => XS.iload X28.here hx rfl (hb hby at_201) rfl k) ?_
    refine Gl.st (g' := (mkF m 205 #[.val (.long p1), .second, .val (.int p2), .val (.ref a20), .val (.int v29), .val (.int (0 : Int32)), .unset, .unset] [(.int (7 : Int32)), (.int v29)])) (fun t k => XT.bipushV X28.here hx rfl (7 : Int32) (hb hby at_203) rfl k) ?_
    refine Gl.st (g' := (mkF m 219 #[.val (.long p1), .second, .val (.int p2), .val (.ref a20), .val (.int v29), .val (.int (0 : Int32)), .unset, .unset] [])) (fun t k => XS.icmpYes X28.here hx rfl (pc0 := 205) (pc' := 219) rfl (hb hby at_205) rfl (XT.ii_le_t (own_ndn c30 (by decide))) (by decide) (by decide) k) ?_
    refine Gl.st (g' := (mkF m 221 #[.val (.long p1), .second, .val (.int p2), .val (.ref a20), .val (.int v29), .val (.int (0 : Int32)), .unset, .unset] [(.int (0 : Int32))])) (fun t k => XS.iload X28.here hx rfl (hb hby at_219) rfl k) ?_
    refine Gl.st (g' := (mkF m 222 #[.val (.long p1), .second, .val (.int p2), .val (.ref a20), .val (.int v29), .val (.int (0 : Int32)), .unset, .unset] [(.long ((0 : Int32).toInt64))])) (fun t k => XS.i2l X28.here hx rfl (hb hby at_221) rfl k) ?_
    refine Gl.st (g' := (mkF m 225 #[.val (.long p1), .second, .val (.int p2), .val (.ref a20), .val (.int v29), .val (.int (0 : Int32)), .unset, .unset] [(.long (4294967295 : Int64)), (.long ((0 : Int32).toInt64))])) (fun t k => X28.ldc2J hx hown (mvT hZ (hw _ (List.mem_of_getElem? (i := 9) rfl))) rfl (hb hby at_222) k) ?_
    refine Gl.st (g' := (mkF m 226 #[.val (.long p1), .second, .val (.int p2), .val (.ref a20), .val (.int v29), .val (.int (0 : Int32)), .unset, .unset] [(.long (((0 : Int32).toInt64) &&& (4294967295 : Int64)))])) (fun t k => XS.land X28.here hx rfl (hb hby at_225) rfl k) ?_
    generalize hv70 : (((0 : Int32).toInt64) &&& (4294967295 : Int64)) = v70
    refine Gl.st (g' := (mkF m 228 #[.val (.long p1), .second, .val (.int p2), .val (.ref a20), .val (.int v29), .val (.int (0 : Int32)), .val (.long v70), .second] [])) (fun t k => XS.lstore X28.here hx rfl (hb hby at_226) rfl (l' := #[.val (.long p1), .second, .val (.int p2), .val (.ref a20), .val (.int v29), .val (.int (0 : Int32)), .val (.long v70), .second]) rfl k) ?_
    refine Gl.st (g' := (mkF m 229 #[.val (.long p1), .second, .val (.int p2), .val (.ref a20), .val (.int v29), .val (.int (0 : Int32)), .val (.long v70), .second] [(.ref a20)])) (fun t k => XS.aloadN X28.here hx rfl (hb hby at_228) rfl rfl k) ?_
    refine Gl.st (g' := (mkF m 231 #[.val (.long p1), .second, .val (.int p2), .val (.ref a20), .val (.int v29), .val (.int (0 : Int32)), .val (.long v70), .second] [(.int v29), (.ref a20)])) (fun t k => XS.iload X28.here hx rfl (hb hby at_229) rfl k) ?_
    obtain ⟨_, _, ⟨T71, L71, k71, n71⟩, -, X71, ⟨Lc71, hQ71, l71, y71, z71⟩, st71⟩ := Jvm.LawKit.callS X28 hx (y := (⟨"keyhalo/KeyHash", "crc16", "([BI)J"⟩ : MethodName)) hown (mvT hZ (hw _ (List.mem_of_getElem? (i := 10) rfl))) (mvT hZ (hw _ (List.mem_of_getElem? (i := 11) rfl))) (mvT hZ (hw _ (List.mem_of_getElem? (i := 12) rfl))) (mvT hZ (hw _ (List.mem_of_getElem? (i := 13) rfl))) (by decide) (backOf (W := 0) (rm4 l Z a0 hw a20 v29 [b21, b22, b23, b24, b25, b26, b27, b28] 0 cA20 (8 : Int32) h28 n0 Z28 V28 (own_pin0 hN.1 c30) (by decide : 0 ≤ 8) rfl (by decide : 8 ≤ 16)) hZ (hw _ (List.mem_of_getElem? (i := 13) rfl)) (hw _ (List.mem_of_getElem? (i := 12) rfl)) (by decide) (by decide)) (g := (mkF m 231 #[.val (.long p1), .second, .val (.int p2), .val (.ref a20), .val (.int v29), .val (.int (0 : Int32)), .val (.long v70), .second] [(.int v29), (.ref a20)])) rfl (by rw [hml]; rfl) (argsL := [(.ref a20), (.int v29)]) (rest := []) (lenOf pd_3 rfl) rfl (by show 2 * 0 + _ ≤ _; exact Nat.le_of_eq rfl) (hb hby at_231) (fun _ _ => ⟨rfl, e28, (by decide : 0 + 1 + 0 ≤ _), (by decide : 0 + 8 + 0 ≤ _)⟩)
    dsimp only [Pt.U, Pt.locs, Pt.cells, Pt.slots] at X71 l71 y71 z71 st71 hQ71
    subst l71 y71 z71
    obtain ⟨rfl, Nq71, e71⟩ := hQ71
    have N71 := Fr.app N28 Nq71
    refine Gl.st (g' := (mkF m 234 #[.val (.long p1), .second, .val (.int p2), .val (.ref a20), .val (.int v29), .val (.int (0 : Int32)), .val (.long v70), .second] [(.long (own_crc [b21, b22, b23, b24, b25, b26, b27, b28] 0))])) st71 ?_
    refine Gl.st (g' := (mkF m 236 #[.val (.long p1), .second, .val (.int p2), .val (.ref a20), .val (.int v29), .val (.int (0 : Int32)), .val (.long v70), .second] [(.long v70), (.long (own_crc [b21, b22, b23, b24, b25, b26, b27, b28] 0))])) (fun t k => XS.lload X71.here hx rfl (hb hby at_234) rfl k) ?_
    refine Gl.st (g' := (mkF m 237 #[.val (.long p1), .second, .val (.int p2), .val (.ref a20), .val (.int v29), .val (.int (0 : Int32)), .val (.long v70), .second] [(.int (XT.cmpL (own_crc [b21, b22, b23, b24, b25, b26, b27, b28] 0) v70))])) (fun t k => XT.lcmp X71.here hx rfl (hb hby at_236) rfl k) ?_
    refine Gl.st (g' := (mkF m 240 #[.val (.long p1), .second, .val (.int p2), .val (.ref a20), .val (.int v29), .val (.int (0 : Int32)), .val (.long v70), .second] [])) (fun t k => XS.ifNo X71.here hx rfl (hb hby at_237) rfl (XT.ll_ne_f (by unfold own_crc; rw [own_cs_eq]; subst hv70; rfl)) k) ?_
    refine Gl.st (g' := (mkF m 241 #[.val (.long p1), .second, .val (.int p2), .val (.ref a20), .val (.int v29), .val (.int (0 : Int32)), .val (.long v70), .second] [(.int (1 : Int32))])) (fun t k => XT.iconstV X71.here hx rfl (1 : Int32) (hb hby at_240) rfl k) ?_
    refine Gl.st (g' := (mkF m 245 #[.val (.long p1), .second, .val (.int p2), .val (.ref a20), .val (.int v29), .val (.int (0 : Int32)), .val (.long v70), .second] [(.int (1 : Int32))])) (fun t k => XS.goto X71.here hx rfl (pc0 := 241) (pc' := 245) rfl (hb hby at_241) (by decide) (by decide) k) ?_
    refine Gl.retZ X71 hx hlk .boolean (by simp) Bd.returns (hb hby at_245) e71 (by decide) (by decide) ?_
    rw [Q0, own_z1]
    exact ⟨rfl, N71⟩
set_option maxRecDepth 65536 in
set_option maxHeartbeats 40000000 in
theorem comes_1 {Post : Tables → Env → Array Value → State → Outcome → State → Prop} (hpost : ∀ tb e args s v u, (limb_1_1.after args s (.returned v) u = true ∧ limb_1_2.after args s (.returned v) u = true ∧ True) → FrameEnd s (.returned v) u (Jvm.fieldLocs frame_1_writes args s ++ Jvm.arrayLocs frame_1_arrays args s ++ Jvm.staticLocs frame_1_statics s) 16 128 → Post tb e args s (.returned v) u) :
    ArmFor flags0 classFile x code maxLocals ret World_1 tables_1 room_1 Calls_1 rest_1 Pre_1 Post := by
  intro l hfl _ _ p e ha hc hk s m args below hf hA hF happ hP
  obtain ⟨hcalls, hrest, hpre⟩ := hP
  obtain ⟨-, -, -, hnamed, -, -, -, hat⟩ := (Spec.applies_iff hf).mp happ
  obtain ⟨hg, hn⟩ := and_e (Cond.before_iff.mp (show (Jvm.Cond.and given_1 narrow_1).before args s = true from hpre))
  obtain ⟨hcount, hk1⟩ := and_e hg
  obtain ⟨hi1, hk2⟩ := and_e hk1
  obtain ⟨w0, w1, rfl⟩ : ∃ w0 w1 : Value, args = #[w0, w1] := by
    have hs : args.size = 2 := by simpa [Cond.value, given_1] using hcount
    obtain ⟨L⟩ := args
    match L, hs with
    | [w0, w1], _ => exact ⟨w0, w1, rfl⟩
  have hw := fun d (hd : d ∈ tables_1) => atoms_spec (ws := Jvm.Cond.code x code maxLocals ret :: tables_1) hat d (List.mem_cons_of_mem _ hd)
  obtain ⟨i0, q0⟩ := isL_v hi1
  obtain rfl : w0 = (.long i0) := Option.some.inj q0
  obtain ⟨i1, q1⟩ := is_v hk2
  obtain rfl : w1 = (.int i1) := Option.some.inj q1
  obtain ⟨n, o, h1, h2, h3, _, L, rfl, ⟨rfl, N⟩, hq⟩ := rm0 l s _ hw tables_1 i0 i1 s.heap s.heap.size (Nat.le_refl _)  p e ha hc hk s m _ below hf ((Spec.applies_iff_loose hf).mp happ).1 ⟨rfl, State.Warmed39.refl s, rfl⟩ trivial
  refine ⟨n, _, h1, h2, h3, hpost _ _ _ _ _ _ ⟨Cond.after_iff.mpr rfl, Cond.after_iff.mpr (eq_i res_at (Term.int_eval (1)) rfl), trivial⟩ ⟨hq.1, hq.2.1, (hq.2.2.sift fun y hy => Or.inr (N y hy)).mono (by decide) (by decide)⟩⟩
theorem main_1_1 : Claimed_1_1 := comes_1 fun _ _ _ _ _ _ h hF => ⟨h.1, hF⟩
theorem main_1_2 : Claimed_1_2 := comes_1 fun _ _ _ _ _ _ h hF => ⟨h.2.1, hF⟩
end Jvm.Pilot.@@N@@
namespace Jvm.Pilot.@@N@@
open Jvm Jvm.ClassFile Sem Op Lib Jvm.Free Jvm.Stand Jvm.Pilot.@@N@@.Jvm.D
/-! MADE BY PROGRAM (witnessworld.py) out of the Statement's table words and the real class files: 14 classes; the members and pool entries that the words name. The judged class is class 1, her method 3. -/
namespace start1
open Jvm.ClassFile
def u (s : String) : CpInfo := .utf8 (stringToUtf16 s)
/-- a pool by its gaps: so many unusable entries, then the entry; so many at the end -/
def gap : Nat → List CpInfo → List CpInfo
  | 0, r => r
  | n + 1, r => .unusable :: gap n r
def poolList (es : List (Nat × CpInfo)) (last : Nat) : List CpInfo := es.foldr (fun e r => gap e.1 (e.2 :: r)) (gap last [])
def pool (es : List (Nat × CpInfo)) (last : Nat) : Array CpInfo := ⟨poolList es last⟩
def fileOf (pool : Array CpInfo) (this : Nat) (attrs : Array Attribute := #[]) (ms : Array MethodInfo := #[]) (fl : Nat := 33) (sup : Nat := 0) (ifs : Array Nat := #[]) (fds : Array FieldInfo := #[]) : ClassFile where
  minorVersion := 0
  majorVersion := 65
  constantPool := pool
  accessFlags := fl
  thisClass := this
  superClass := sup
  interfaces := ifs
  fields := fds
  methods := ms
  attributes := attrs
def plain (name : String) (sup : Option ClassId) : Class where
  name := name
  kind := .ordinary
  loader := none
  accessFlags := 33
  super := sup
  interfaces := #[]
  cf := none
  fields := #[]
  methods := #[]
  instanceTypes := #[]
  staticTypes := #[]
  resolved := #[]
  callSites := []
  init := .initialized
  statics := none
  mirror := none

def pool0 : Array CpInfo := pool [(5, u "<init>"), (0, u "()V"), (1, .class_ 10), (1, u "java/lang/Object")] 113

def k0m0 : Method := { name := "<init>", desc := "()V", sig := { parameters := [], returnType := none }, accessFlags := 1, code := none }
/-- java/lang/Object -/
def k0 : Class := { plain "java/lang/Object" none with
  accessFlags := 33
  interfaces := #[]
  cf := some (fileOf pool0 8 #[] #[{ accessFlags := 1, nameIndex := 5, descriptorIndex := 6, attributes := #[] }] 33 0 #[] #[])
  fields := #[]
  methods := #[k0m0]
  instanceTypes := #[]
  staticTypes := #[]
  resolved := Array.replicate 124 none
  statics := none }

def pool1 : Array CpInfo := pool [(2, .class_ 4), (1, u "java/lang/Object"), (0, u "<init>"), (0, u "()V"), (0, .integer 33032), (0, .integer 37256), (0, .methodref 10 11), (0, .class_ 12), (0, .nameAndType 13 14), (0, u "keyhalo/KeyHashCrc16PinLaw"), (0, u "table"), (0, u "(I)I"), (0, .integer 2147483647), (0, .methodref 10 17), (0, .nameAndType 18 19), (0, u "step"), (0, u "(IB)I"), (0, .long 4294967295), (1, .interfaceMethodref 23 24), (0, .class_ 25), (0, .nameAndType 26 27), (0, u "keyhalo/KeyHash"), (0, u "crc16"), (0, u "([BI)J"), (3, u "law"), (0, u "(JI)Z")] 4

def k1m0 : Method := { name := "<init>", desc := "()V", sig := { parameters := [], returnType := none }, accessFlags := 2, code := none }
def k1c1 : Code := { maxStack := 2, maxLocals := 2, code := method_2_code, exceptionTable := #[], attributes := #[] }
def k1m1 : Method := { name := "table", desc := "(I)I", sig := { parameters := [.int], returnType := some .int }, accessFlags := 10, code := some k1c1 }
def k1c2 : Code := { maxStack := 3, maxLocals := 3, code := method_3_code, exceptionTable := #[], attributes := #[] }
def k1m2 : Method := { name := "step", desc := "(IB)I", sig := { parameters := [.int, .byte], returnType := some .int }, accessFlags := 10, code := some k1c2 }
def k1c3 : Code := { maxStack := 5, maxLocals := 8, code := code, exceptionTable := #[], attributes := #[] }
def k1m3 : Method := { name := "law", desc := "(JI)Z", sig := { parameters := [.long, .int], returnType := some .boolean }, accessFlags := 9, code := some k1c3 }
/-- keyhalo/KeyHashCrc16PinLaw -/
def k1 : Class := { plain "keyhalo/KeyHashCrc16PinLaw" (some 0) with
  accessFlags := 49
  interfaces := #[]
  cf := some (fileOf pool1 10 #[] #[{ accessFlags := 2, nameIndex := 5, descriptorIndex := 6, attributes := #[] }, { accessFlags := 10, nameIndex := 13, descriptorIndex := 14, attributes := #[] }, { accessFlags := 10, nameIndex := 18, descriptorIndex := 19, attributes := #[] }, { accessFlags := 9, nameIndex := 31, descriptorIndex := 32, attributes := #[] }] 49 2 #[] #[])
  fields := #[]
  methods := #[k1m0, k1m1, k1m2, k1m3]
  instanceTypes := #[]
  staticTypes := #[]
  resolved := Array.replicate 37 none
  statics := none }

def pool2 : Array CpInfo := pool [(14, .class_ 16), (1, u "keyhalo/KeyHash"), (1, u "([BI)J"), (0, .methodref 20 21), (0, .class_ 22), (0, .nameAndType 23 24), (0, u "java/lang/Integer"), (0, u "toUnsignedLong"), (0, u "(I)J"), (21, .integer 32768), (0, .integer 65535), (25, .class_ 74), (0, u "keyhalo/KeyHash$1"), (3, u "MD5"), (0, u "Lkeyhalo/KeyHash;"), (0, .class_ 81), (0, u "java/lang/Object"), (6, u "crc16")] 14

def k2c0 : Code := { maxStack := 3, maxLocals := 6, code := prog_4_method_6_code, exceptionTable := #[], attributes := #[] }
def k2m0 : Method := { name := "crc16", desc := "([BI)J", sig := { parameters := [(.array .byte), .int], returnType := some .long }, accessFlags := 9, code := some k2c0 }
/-- keyhalo/KeyHash -/
def k2 : Class := { plain "keyhalo/KeyHash" (some 0) with
  accessFlags := 1536
  interfaces := #[]
  cf := some (fileOf pool2 14 #[.nestMembers #[73]] #[{ accessFlags := 9, nameIndex := 88, descriptorIndex := 18, attributes := #[] }] 1536 80 #[] #[{ accessFlags := 25, nameIndex := 78, descriptorIndex := 79, attributes := #[] }])
  fields := #[{ name := "MD5", type := (.object "keyhalo/KeyHash"), accessFlags := 25, slot := 0, constantValue := 0 }]
  methods := #[k2m0]
  instanceTypes := #[]
  staticTypes := #[(.object "keyhalo/KeyHash")]
  resolved := Array.replicate 103 none
  statics := none }

def pool3 : Array CpInfo := pool [(1, .class_ 2), (0, u "java/io/Serializable"), (0, .class_ 4), (0, u "java/lang/Object")] 2

/-- java/io/Serializable -/
def k3 : Class := { plain "java/io/Serializable" (some 0) with
  accessFlags := 1537
  interfaces := #[]
  cf := some (fileOf pool3 1 #[] #[] 1537 3 #[] #[])
  fields := #[]
  methods := #[]
  instanceTypes := #[]
  staticTypes := #[]
  resolved := Array.replicate 7 none
  statics := none }

def pool4 : Array CpInfo := pool [(2, .class_ 4), (1, u "java/lang/Object"), (0, u "<init>"), (0, u "()V"), (1, .class_ 10), (1, u "java/lang/Number"), (2, .class_ 14), (0, u "java/io/Serializable"), (0, u "serialVersionUID"), (0, u "J")] 20

def k4m0 : Method := { name := "<init>", desc := "()V", sig := { parameters := [], returnType := none }, accessFlags := 1, code := none }
/-- java/lang/Number -/
def k4 : Class := { plain "java/lang/Number" (some 0) with
  accessFlags := 1057
  interfaces := #[3]
  cf := some (fileOf pool4 8 #[] #[{ accessFlags := 1, nameIndex := 5, descriptorIndex := 6, attributes := #[] }] 1057 2 #[13] #[{ accessFlags := 26, nameIndex := 15, descriptorIndex := 16, attributes := #[] }])
  fields := #[{ name := "serialVersionUID", type := .long, accessFlags := 26, slot := 0, constantValue := 0 }]
  methods := #[k4m0]
  instanceTypes := #[]
  staticTypes := #[.long]
  resolved := Array.replicate 37 none
  statics := none }

def pool5 : Array CpInfo := pool [(1, .class_ 2), (0, u "java/lang/Comparable"), (0, .class_ 4), (0, u "java/lang/Object")] 7

/-- java/lang/Comparable -/
def k5 : Class := { plain "java/lang/Comparable" (some 0) with
  accessFlags := 1537
  interfaces := #[]
  cf := some (fileOf pool5 1 #[] #[] 1537 3 #[] #[])
  fields := #[]
  methods := #[]
  instanceTypes := #[]
  staticTypes := #[]
  resolved := Array.replicate 12 none
  statics := none }

def pool6 : Array CpInfo := pool [(1, .class_ 2), (0, u "java/lang/constant/Constable"), (0, .class_ 4), (0, u "java/lang/Object")] 6

/-- java/lang/constant/Constable -/
def k6 : Class := { plain "java/lang/constant/Constable" (some 0) with
  accessFlags := 1537
  interfaces := #[]
  cf := some (fileOf pool6 1 #[] #[] 1537 3 #[] #[])
  fields := #[]
  methods := #[]
  instanceTypes := #[]
  staticTypes := #[]
  resolved := Array.replicate 11 none
  statics := none }

def pool7 : Array CpInfo := pool [(1, .class_ 2), (0, u "java/lang/constant/ConstantDesc"), (0, .class_ 4), (0, u "java/lang/Object")] 32

/-- java/lang/constant/ConstantDesc -/
def k7 : Class := { plain "java/lang/constant/ConstantDesc" (some 0) with
  accessFlags := 1537
  interfaces := #[]
  cf := some (fileOf pool7 1 #[] #[] 1537 3 #[] #[])
  fields := #[]
  methods := #[]
  instanceTypes := #[]
  staticTypes := #[]
  resolved := Array.replicate 37 none
  statics := none }

def pool8 : Array CpInfo := pool [(1, .class_ 2), (0, u "java/lang/Integer"), (16, u "digits"), (0, u "[C"), (19, u "toUnsignedLong"), (0, u "(I)J"), (43, u "DigitOnes"), (0, u "[B"), (2, u "DigitTens"), (99, .class_ 190), (0, u "java/lang/Integer$IntegerCache"), (3, u "I"), (8, .class_ 204), (0, u "java/lang/Number"), (2, u "value"), (54, .long 4294967295), (39, u "TYPE"), (0, u "Ljava/lang/Class;"), (0, .class_ 305), (0, u "java/lang/Comparable"), (0, .class_ 307), (0, u "java/lang/constant/Constable"), (0, .class_ 309), (0, u "java/lang/constant/ConstantDesc"), (0, u "MIN_VALUE"), (1, u "MAX_VALUE"), (3, u "SIZE"), (1, u "BYTES"), (1, u "serialVersionUID"), (0, u "J")] 131

def k8c0 : Code := { maxStack := 4, maxLocals := 1, code := jdk_33_method_42_code, exceptionTable := #[], attributes := #[] }
def k8m0 : Method := { name := "toUnsignedLong", desc := "(I)J", sig := { parameters := [.int], returnType := some .long }, accessFlags := 9, code := some k8c0 }
/-- java/lang/Integer -/
def k8 : Class := { plain "java/lang/Integer" (some 4) with
  accessFlags := 49
  interfaces := #[5, 6, 7]
  cf := some (fileOf pool8 1 #[.nestMembers #[189]] #[{ accessFlags := 9, nameIndex := 40, descriptorIndex := 41, attributes := #[] }] 49 203 #[304, 306, 308] #[{ accessFlags := 25, nameIndex := 310, descriptorIndex := 194, attributes := #[] }, { accessFlags := 25, nameIndex := 312, descriptorIndex := 194, attributes := #[] }, { accessFlags := 25, nameIndex := 302, descriptorIndex := 303, attributes := #[] }, { accessFlags := 24, nameIndex := 19, descriptorIndex := 20, attributes := #[] }, { accessFlags := 24, nameIndex := 89, descriptorIndex := 86, attributes := #[] }, { accessFlags := 24, nameIndex := 85, descriptorIndex := 86, attributes := #[] }, { accessFlags := 18, nameIndex := 207, descriptorIndex := 194, attributes := #[] }, { accessFlags := 25, nameIndex := 316, descriptorIndex := 194, attributes := #[] }, { accessFlags := 25, nameIndex := 318, descriptorIndex := 194, attributes := #[] }, { accessFlags := 26, nameIndex := 320, descriptorIndex := 321, attributes := #[] }])
  fields := #[{ name := "MIN_VALUE", type := .int, accessFlags := 25, slot := 0, constantValue := 0 }, { name := "MAX_VALUE", type := .int, accessFlags := 25, slot := 1, constantValue := 0 }, { name := "TYPE", type := (.object "java/lang/Class"), accessFlags := 25, slot := 2, constantValue := 0 }, { name := "digits", type := (.array .char), accessFlags := 24, slot := 3, constantValue := 0 }, { name := "DigitTens", type := (.array .byte), accessFlags := 24, slot := 4, constantValue := 0 }, { name := "DigitOnes", type := (.array .byte), accessFlags := 24, slot := 5, constantValue := 0 }, { name := "value", type := .int, accessFlags := 18, slot := 0, constantValue := 0 }, { name := "SIZE", type := .int, accessFlags := 25, slot := 6, constantValue := 0 }, { name := "BYTES", type := .int, accessFlags := 25, slot := 7, constantValue := 0 }, { name := "serialVersionUID", type := .long, accessFlags := 26, slot := 8, constantValue := 0 }]
  methods := #[k8m0]
  instanceTypes := #[.int]
  staticTypes := #[.int, .int, (.object "java/lang/Class"), (.array .char), (.array .byte), (.array .byte), .int, .int, .long]
  resolved := Array.replicate 453 none
  statics := none }

def pool9 : Array CpInfo := pool [(1, u "java/lang/Cloneable"), (0, .class_ 1), (0, u "java/lang/Object"), (0, .class_ 3)] 3

/-- java/lang/Cloneable -/
def k9 : Class := { plain "java/lang/Cloneable" (some 0) with
  accessFlags := 1537
  interfaces := #[]
  cf := some (fileOf pool9 2 #[] #[] 1537 4 #[] #[])
  fields := #[]
  methods := #[]
  instanceTypes := #[]
  staticTypes := #[]
  resolved := Array.replicate 8 none
  statics := none }

/-- the primitive byte -/
def k10 : Class := { plain "byte" none with kind := .primitive 'B', accessFlags := 0x411 }
/-- [B -/
def k11 : Class := { plain "[B" (some 0) with kind := .array 10 .byte, interfaces := #[9, 3], accessFlags := 1041 }

/-- the primitive int -/
def k12 : Class := { plain "int" none with kind := .primitive 'I', accessFlags := 0x411 }
/-- [I -/
def k13 : Class := { plain "[I" (some 0) with kind := .array 12 .int, interfaces := #[9, 3], accessFlags := 1041 }

def heap : Heap := #[]
def classes : Array Class := #[k0, k1, k2, k3, k4, k5, k6, k7, k8, k9, k10, k11, k12, k13]
def interned : List (Array UInt16 × Addr) := []
def slotsUsed : Nat := 0
def theMethod : MethodId := ⟨1, 3⟩
def args0 : Array Value := #[.long 5, .int 5]
def aboutOver (below : List Frame) : State where
  vm := { classes := classes, interned := interned.toArray }
  heap := heap
  slotsUsed := slotsUsed
  threads := #[{ frames := .invoking theMethod args0 :: below }]
def below0 : List Frame := [.native { method := ⟨0, 0⟩, args := #[] }]
def about1 : State := aboutOver below0
def p0 : Program := .bare "" "" ""
def e0 : Env := launch0.env 0 0 0
theorem w_frames : about1.frames = Frame.invoking theMethod args0 :: below0 := rfl
set_option maxRecDepth 65536 in
theorem w_args : argsFit about1.vm theMethod args0 = true := by decide +kernel
set_option maxRecDepth 65536 in
theorem w_heap : heapFits about1 = true := by decide +kernel
set_option maxRecDepth 65536 in
theorem w_runnable : about1.curStatus? = some .runnable := by decide +kernel
set_option maxRecDepth 65536 in
theorem w_alone : about1.alone = true := by decide +kernel
set_option maxRecDepth 65536 in
theorem w_named : about1.methodNamed? x = some theMethod := by decide +kernel
set_option maxRecDepth 65536 in
theorem w_hears : about1.hears theMethod below0 = true := by decide +kernel
set_option maxRecDepth 65536 in
theorem w_ripe : about1.ripe theMethod args0 below0 = true := by decide +kernel
theorem w_running : about1.status = .running := rfl
set_option maxRecDepth 65536 in
theorem w_room : about1.hasRoom e0.platform room_1 = true :=
  launch0.hasRoom_least _ room_1 (by decide +kernel) (by decide +kernel) (by decide +kernel) (by decide +kernel) (by decide +kernel) (by decide +kernel)
theorem allAtoms_all (ts : List Jvm.Cond) (a : Array Jvm.Value) (st : Jvm.State) : (allAtoms ts).before a st = ts.all (fun c => c.before a st) := by
  induction ts with
  | nil => rfl
  | cons c t ih =>
    show (Jvm.Cond.and c (allAtoms t)).before a st = _
    rw [Jvm.Cond.before_and, ih, List.all_cons]
def words1 : List Jvm.Cond := Jvm.Cond.code x code maxLocals ret :: tables_1
/-- a 'code' word, met by the world's own term for the bytes: nothing is compared byte by byte -/
theorem code_word {y : MethodName} {bytes : ByteArray} {mx : Nat} {rt : Option FieldType} {a : Array Value} {s : State} {m : MethodId} {meth : Method} {c : Code} (h1 : s.methodNamed? y = some m) (h2 : s.vm.method? m = some meth) (h3 : meth.code = some c) (h4 : c.code = bytes)
    (h5 : (c.maxLocals == mx && c.exceptionTable.isEmpty && decide (c.maxStack ≤ mostOperands) && decide (meth.sig.returnType = rt) && !meth.locks && decide (parseMethodDescriptor y.desc = some meth.sig)) = true) : (Jvm.Cond.code y bytes mx rt).before a s = true := by
  simp only [Bool.and_eq_true, beq_iff_eq, Bool.not_eq_true', decide_eq_true_eq] at h5
  obtain ⟨⟨⟨⟨⟨g1, g2⟩, g3⟩, g4⟩, g5⟩, g6⟩ := h5
  simp [Cond.before, Cond.holds, Cond.value, h1, h2, h3, h4, g1, g2, g3, g4, g5, g6]
def isCode : Jvm.Cond → Bool
  | .code _ _ _ _ => true
  | _ => false
theorem all_split {L : List Jvm.Cond} {P : Jvm.Cond → Bool} (h1 : L.all (fun c => isCode c || P c) = true) (h2 : ∀ c ∈ L.filter isCode, P c = true) : L.all P = true := by
  refine List.all_eq_true.mpr fun c hc => ?_
  have h := List.all_eq_true.mp h1 c hc
  rcases Bool.eq_false_or_eq_true (isCode c) with hi | hi
  · exact h2 c (List.mem_filter.mpr ⟨hc, hi⟩)
  · simpa [hi] using h
set_option maxRecDepth 65536 in
theorem w_c0 : (Jvm.Cond.code x code maxLocals ret).before args0 about1 = true := code_word (m := ⟨1, 3⟩) (meth := k1m3) (c := k1c3) (by decide +kernel) rfl rfl rfl (by decide +kernel)
set_option maxRecDepth 65536 in
theorem w_c1 : (Jvm.Cond.code ({ cls := "keyhalo/KeyHashCrc16PinLaw", name := "step", desc := "(IB)I" } : Jvm.MethodName) method_3_code (3 : Nat) (Option.some Jvm.ClassFile.FieldType.int)).before args0 about1 = true := code_word (m := ⟨1, 2⟩) (meth := k1m2) (c := k1c2) (by decide +kernel) rfl rfl rfl (by decide +kernel)
set_option maxRecDepth 65536 in
theorem w_c2 : (Jvm.Cond.code ({ cls := "keyhalo/KeyHashCrc16PinLaw", name := "table", desc := "(I)I" } : Jvm.MethodName) method_2_code (2 : Nat) (Option.some Jvm.ClassFile.FieldType.int)).before args0 about1 = true := code_word (m := ⟨1, 1⟩) (meth := k1m1) (c := k1c1) (by decide +kernel) rfl rfl rfl (by decide +kernel)
set_option maxRecDepth 65536 in
theorem w_c3 : (Jvm.Cond.code ({ cls := "keyhalo/KeyHash", name := "crc16", desc := "([BI)J" } : Jvm.MethodName) prog_4_method_6_code (6 : Nat) (Option.some Jvm.ClassFile.FieldType.long)).before args0 about1 = true := code_word (m := ⟨2, 0⟩) (meth := k2m0) (c := k2c0) (by decide +kernel) rfl rfl rfl (by decide +kernel)
set_option maxRecDepth 65536 in
theorem w_c4 : (Jvm.Cond.code ({ cls := "java/lang/Integer", name := "toUnsignedLong", desc := "(I)J" } : Jvm.MethodName) jdk_33_method_42_code (1 : Nat) (Option.some Jvm.ClassFile.FieldType.long)).before args0 about1 = true := code_word (m := ⟨8, 0⟩) (meth := k8m0) (c := k8c0) (by decide +kernel) rfl rfl rfl (by decide +kernel)
def codes1 : List Jvm.Cond := [Jvm.Cond.code x code maxLocals ret, Jvm.Cond.code ({ cls := "keyhalo/KeyHashCrc16PinLaw", name := "step", desc := "(IB)I" } : Jvm.MethodName) method_3_code (3 : Nat) (Option.some Jvm.ClassFile.FieldType.int), Jvm.Cond.code ({ cls := "keyhalo/KeyHashCrc16PinLaw", name := "table", desc := "(I)I" } : Jvm.MethodName) method_2_code (2 : Nat) (Option.some Jvm.ClassFile.FieldType.int), Jvm.Cond.code ({ cls := "keyhalo/KeyHash", name := "crc16", desc := "([BI)J" } : Jvm.MethodName) prog_4_method_6_code (6 : Nat) (Option.some Jvm.ClassFile.FieldType.long), Jvm.Cond.code ({ cls := "java/lang/Integer", name := "toUnsignedLong", desc := "(I)J" } : Jvm.MethodName) jdk_33_method_42_code (1 : Nat) (Option.some Jvm.ClassFile.FieldType.long)]
set_option maxRecDepth 65536 in
theorem codes_eq : words1.filter isCode = codes1 := rfl
theorem w_codes : ∀ c ∈ words1.filter isCode, c.before args0 about1 = true := by
  rw [codes_eq]
  intro c hc
  simp only [codes1, List.mem_cons, List.not_mem_nil, or_false] at hc
  rcases hc with rfl | rfl | rfl | rfl | rfl
  · exact w_c0
  · exact w_c1
  · exact w_c2
  · exact w_c3
  · exact w_c4
set_option maxRecDepth 65536 in
theorem w_t1 : words1.all (fun c => isCode c || c.before args0 about1) = true := by decide +kernel
theorem w_tables : (allAtoms (Jvm.Cond.code x code maxLocals ret :: tables_1)).before args0 about1 = true := by
  rw [allAtoms_all]
  show words1.all (fun c => c.before args0 about1) = true
  refine all_split ?_ w_codes
  rw [w_t1]
set_option maxRecDepth 65536 in
theorem w_case : (Jvm.Cond.and given_1 narrow_1).before args0 about1 = true := by decide +kernel
theorem w_applies : (headSpec (Jvm.Cond.code x code maxLocals ret :: tables_1) room_1).applies x e0.platform about1 = true :=
  (Spec.applies_iff w_frames).mpr ⟨w_running, w_runnable, w_alone, w_named, w_hears, w_ripe, w_room, w_tables⟩
theorem atStart : AtStart classFile x code maxLocals ret World_1 tables_1 room_1 Calls_1 rest_1 Pre_1 launch0 p0 e0 about1 theMethod args0 below0 :=
  ⟨lists_1, trivial, launch0.admits_env _ _ _, launch0.least_env, fairChoices_fair.cas, fairChoices_fair.clock, w_frames, w_args, w_heap, w_applies, trivial, trivial, w_case⟩
end start1
theorem witness_1 : WitnessClaimed_1 := ⟨start1.p0, start1.e0, start1.about1, start1.theMethod, start1.args0, start1.below0, start1.atStart⟩
end Jvm.Pilot.@@N@@
