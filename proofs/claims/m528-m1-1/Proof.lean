import JvmDerived
import JvmDerived.Pilot.@@N@@Statement
import JvmDerived.Pilot.@@N@@Code
set_option linter.unusedVariables false
set_option linter.unusedSimpArgs false
namespace Jvm.Pilot.@@N@@
open Jvm Jvm.ClassFile Sem Op Lib Jvm.Free Jvm.Stand Jvm.LawKit Jvm.RoadKit Bundle Jvm.Pilot.@@N@@.Jvm.D
section OwnKit
variable {p : Program} {l : Launch} {e : Env} {R : Room} {s : State} {m : MethodId} {args : Array Value} {below : List Frame} {meth : Method} {c : Code} {T T' : State} {locs : List Loc} {cells slots : Nat} {h : Heap} {Q : Option Value → Heap → List Loc → Prop} {kc ks : Nat} {g g' : JFrame}
/-- from this state and frame the method comes to its end, and what it leaves is Q -/
def Gl (p : Program) (e : Env) (below : List Frame) (s : State) (Q : Option Value → Heap → List Loc → Prop) (kc ks : Nat) (T : State) (g : JFrame) : Prop :=
  ∃ s₂ o, Steps p.tables e below (T.setTop g) s₂ ∧ s₂.status = .running ∧ Ended s₂ below o ∧ ∃ v L, o = .returned v ∧ Q v s₂.heap L ∧ FrameEnd s o s₂ L kc ks
theorem Gl.st (h : ∀ t, Steps p.tables e below (T'.setTop g') t → Steps p.tables e below (T.setTop g) t) (k : Gl p e below s Q kc ks T' g') : Gl p e below s Q kc ks T g := by
  obtain ⟨s₂, o, h1, r⟩ := k
  exact ⟨s₂, o, h _ h1, r⟩
theorem Gl.ret (X : Stand p l e R s m args below meth c T locs cells slots) (hlk : meth.locks = false) (v : Option Value) (hv : meth.sig.returnType = none → v = none) (eT : T.heap = h) (hc : cells ≤ kc) (hs : slots ≤ ks)
    (hst : ∀ fs, (∀ (f : JFrame) (acts : List Action), f.method = m → f.locked = none → f.entered = [] → (doReturn e (T.setTop f) acts v).1 = T.setFrames fs) → Steps p.tables e below (T.setTop g) (T.setFrames fs))
    (hq : Q v h locs) : Gl p e below s Q kc ks T g := by
  obtain ⟨fs, hr, hrun, hended, hW, hsame⟩ := X.leave (v := v) hv hlk
  refine ⟨_, _, hst fs hr, hrun, hended, v, locs, rfl, ?_, ⟨_, rfl⟩, hW, hsame.mono hc hs⟩
  show Q v T.heap locs
  rw [eT]; exact hq
theorem Gl.retI (X : Stand p l e R s m args below meth c T locs cells slots) (hx : p.tables.exec = Jvm.exec) (hlk : meth.locks = false) {pc : Nat} {Ls : Array Slot} {z : Int32} {rest : List Value} (hret : meth.sig.returnType = some .int) (hd : decode c.code pc = .ok (.ireturn, 1)) (eT : T.heap = h) (hc : cells ≤ kc) (hs : slots ≤ ks)
    (hq : Q (some (.int z)) h locs) : Gl p e below s Q kc ks T (mkF m pc Ls (.int z :: rest)) := by
  refine Gl.ret X hlk (some (.int z)) (fun q => by rw [hret] at q; cases q) eT hc hs (fun fs hl => ?_) hq
  exact retOut X hx hret (t := .int) rfl (Or.inl ⟨rfl, Or.inl rfl, _, rfl⟩) hd hl
theorem Gl.retZ (X : Stand p l e R s m args below meth c T locs cells slots) (hx : p.tables.exec = Jvm.exec) (hlk : meth.locks = false) {pc : Nat} {Ls : Array Slot} {z : Int32} {rest : List Value} (t : FieldType) (ht : t = .boolean ∨ t = .byte ∨ t = .char ∨ t = .short) (hret : meth.sig.returnType = some t) (hd : decode c.code pc = .ok (.ireturn, 1)) (eT : T.heap = h) (hc : cells ≤ kc) (hs : slots ≤ ks)
    (hq : Q (some (.int (nar t z))) h locs) : Gl p e below s Q kc ks T (mkF m pc Ls (.int z :: rest)) := by
  refine Gl.ret X hlk (some (.int (nar t z))) (fun q => by rw [hret] at q; cases q) eT hc hs (fun fs hl => ?_) hq
  exact retN X hx (t := t) hret ht hd hl
theorem Gl.retL (X : Stand p l e R s m args below meth c T locs cells slots) (hx : p.tables.exec = Jvm.exec) (hlk : meth.locks = false) {pc : Nat} {Ls : Array Slot} {z : Int64} (hret : meth.sig.returnType = some .long) (hd : decode c.code pc = .ok (.lreturn, 1)) (eT : T.heap = h) (hc : cells ≤ kc) (hs : slots ≤ ks)
    (hq : Q (some (.long z)) h locs) : Gl p e below s Q kc ks T (mkF m pc Ls [.long z]) := by
  refine Gl.ret X hlk (some (.long z)) (fun q => by rw [hret] at q; cases q) eT hc hs (fun fs hl => ?_) hq
  exact X.lreturnOut hx hret hd hl
theorem Gl.retV (X : Stand p l e R s m args below meth c T locs cells slots) (hx : p.tables.exec = Jvm.exec) (hlk : meth.locks = false) {pc : Nat} {Ls : Array Slot} (hret : meth.sig.returnType = none) (hd : decode c.code pc = .ok (.return_, 1)) (eT : T.heap = h) (hc : cells ≤ kc) (hs : slots ≤ ks)
    (hq : Q none h locs) : Gl p e below s Q kc ks T (mkF m pc Ls []) := by
  refine Gl.ret X hlk none (fun _ => rfl) eT hc hs (fun fs hl => ?_) hq
  exact X.returnOut hx hret hd hl
end OwnKit

section OwnArr
variable {p : Program} {l : Launch} {e : Env} {R : Room} {s : State} {m : MethodId} {args : Array Value} {below : List Frame} {meth : Method} {c : Code} {T : State} {locs : List Loc} {cells slots : Nat} {Z : State} {h : Heap} {a : Addr} {k : ClassId} {z j x : Int32} {vs : List Value} {dv v : Value} {g : JFrame} {rest : List Value}
theorem own_ldB (X : Stand p l e R s m args below meth c T locs cells slots) (hx : p.tables.exec = Jvm.exec) (hZ : Z.Warmed39 s.vm) (eT : T.heap = h) (F : Arv Z h a k .byte z vs dv) (hj : ¬ j < 0 ∧ j < z) (u : vs.getD j.toNatClampNeg dv = v) (hg : g.method = m) (hs : g.stack = .int j :: .ref a :: rest) (hd : decode c.code g.pc = .ok (.baload, 1)) :
    ∀ t, Steps p.tables e below (T.setTop { g with pc := g.pc + 1, stack := v :: rest }) t → Steps p.tables e below (T.setTop g) t := by
  obtain ⟨cl, A, q1, S, q3, H, G⟩ := F
  have hin := inb_of S hj
  intro t kk
  exact X.baloadBytes hx (by rw [eT]; exact A.1) (State.isArrayOf_alike hZ.alike A.2.1) A.2.2 hin (Has.at H hin u) hg hs hd t kk
theorem own_ldC (X : Stand p l e R s m args below meth c T locs cells slots) (hx : p.tables.exec = Jvm.exec) (hZ : Z.Warmed39 s.vm) (eT : T.heap = h) (F : Arv Z h a k .char z vs dv) (hj : ¬ j < 0 ∧ j < z) (u : vs.getD j.toNatClampNeg dv = v) (hg : g.method = m) (hs : g.stack = .int j :: .ref a :: rest) (hd : decode c.code g.pc = .ok (.caload, 1)) :
    ∀ t, Steps p.tables e below (T.setTop { g with pc := g.pc + 1, stack := v :: rest }) t → Steps p.tables e below (T.setTop g) t := by
  obtain ⟨cl, A, q1, S, q3, H, G⟩ := F
  have hin := inb_of S hj
  intro t kk
  exact X.caload hx (by rw [eT]; exact A.1) (State.isArrayOf_alike hZ.alike A.2.1) A.2.2 hin (Has.at H hin u) hg hs hd t kk
theorem own_len {ty : FieldType} (X : Stand p l e R s m args below meth c T locs cells slots) (hx : p.tables.exec = Jvm.exec) (hZ : Z.Warmed39 s.vm) (eT : T.heap = h) (F : Arv Z h a k ty z vs dv) (hg : g.method = m) (hs : g.stack = .ref a :: rest) (hd : decode c.code g.pc = .ok (.arraylength, 1)) :
    ∀ t, Steps p.tables e below (T.setTop { g with pc := g.pc + 1, stack := .int z :: rest }) t → Steps p.tables e below (T.setTop g) t := by
  obtain ⟨cl, A, q1, S, q3, H, G⟩ := F
  intro t kk
  exact X.arraylength hx (by rw [eT]; exact A.1) (State.isArrayOf_alike hZ.alike A.2.1) hg hs hd t (by rw [len_of S q3]; exact kk)
theorem own_stB (X : Stand p l e R s m args below meth c T locs cells slots) (hx : p.tables.exec = Jvm.exec) (hZ : Z.Warmed39 s.vm) (eT : T.heap = h) (F : Arv Z h a k .byte z vs dv) (hj : ¬ j < 0 ∧ j < z) (i : Nat) (hi : j.toNatClampNeg = i) (hl : i < vs.length) (hg : g.method = m) (hs : g.stack = .int x :: .int j :: .ref a :: rest) (hd : decode c.code g.pc = .ok (.bastore, 1)) :
    ∃ T' h' y, Stand p l e R s m args below meth c T' (locs ++ [⟨a, j.toNatClampNeg⟩]) cells slots ∧ T'.heap = h' ∧ Wr h h' a j.toNatClampNeg (.int y) ∧ y = nar .byte x ∧ Arv Z h' a k .byte z (vs.set i (.int y)) dv ∧
      ∀ t, Steps p.tables e below (T'.setTop { g with pc := g.pc + 1, stack := rest }) t → Steps p.tables e below (T.setTop g) t := by
  obtain ⟨cl, A, q1, S, q3, H, G⟩ := F
  obtain ⟨T', h', X', e', W', st'⟩ := stB X hx hZ eT A (inb_of S hj) hg hs hd
  exact ⟨T', h', _, X', e', W', rfl, Arv.set A q1 S q3 H G (fits_nar_byte _) W' i hi hl, st'⟩
theorem own_stC (X : Stand p l e R s m args below meth c T locs cells slots) (hx : p.tables.exec = Jvm.exec) (hZ : Z.Warmed39 s.vm) (eT : T.heap = h) (F : Arv Z h a k .char z vs dv) (hj : ¬ j < 0 ∧ j < z) (i : Nat) (hi : j.toNatClampNeg = i) (hl : i < vs.length) (hg : g.method = m) (hs : g.stack = .int x :: .int j :: .ref a :: rest) (hd : decode c.code g.pc = .ok (.castore, 1)) :
    ∃ T' h' y, Stand p l e R s m args below meth c T' (locs ++ [⟨a, j.toNatClampNeg⟩]) cells slots ∧ T'.heap = h' ∧ Wr h h' a j.toNatClampNeg (.int y) ∧ y = nar .char x ∧ Arv Z h' a k .char z (vs.set i (.int y)) dv ∧
      ∀ t, Steps p.tables e below (T'.setTop { g with pc := g.pc + 1, stack := rest }) t → Steps p.tables e below (T.setTop g) t := by
  obtain ⟨cl, A, q1, S, q3, H, G⟩ := F
  obtain ⟨T', h', X', e', W', st'⟩ := stC X hx hZ eT A (inb_of S hj) hg hs hd
  exact ⟨T', h', _, X', e', W', rfl, Arv.set A q1 S q3 H G (fits_nar_char _) W' i hi hl, st'⟩
theorem own_stI (X : Stand p l e R s m args below meth c T locs cells slots) (hx : p.tables.exec = Jvm.exec) (hZ : Z.Warmed39 s.vm) (eT : T.heap = h) (F : Arv Z h a k .int z vs dv) (hj : ¬ j < 0 ∧ j < z) (i : Nat) (hi : j.toNatClampNeg = i) (hl : i < vs.length) (hg : g.method = m) (hs : g.stack = .int x :: .int j :: .ref a :: rest) (hd : decode c.code g.pc = .ok (.iastore, 1)) :
    ∃ T' h', Stand p l e R s m args below meth c T' (locs ++ [⟨a, j.toNatClampNeg⟩]) cells slots ∧ T'.heap = h' ∧ Wr h h' a j.toNatClampNeg (.int x) ∧ Arv Z h' a k .int z (vs.set i (.int x)) dv ∧
      ∀ t, Steps p.tables e below (T'.setTop { g with pc := g.pc + 1, stack := rest }) t → Steps p.tables e below (T.setTop g) t := by
  obtain ⟨cl, A, q1, S, q3, H, G⟩ := F
  obtain ⟨T', h', X', e', W', st'⟩ := stI X hx hZ eT A (inb_of S hj) hg hs hd
  exact ⟨T', h', X', e', W', Arv.set A q1 S q3 H G rfl W' i hi hl, st'⟩
end OwnArr

theorem own_z0 : nar .boolean (0 : Int32) = 0 := by decide
theorem own_z1 : nar .boolean (1 : Int32) = 1 := by decide
theorem own_nn (x : Int32) : 0 ≤ (x &&& (2147483647 : Int32)).toInt := by
  rw [c_mask x 2147483647 31 (by decide) (by decide)]
  exact Int.emod_nonneg _ (by decide)
theorem own_lt {x y : Int32} (h : x.toInt < y.toInt) : x < y := Int32.lt_iff_toInt_lt.mpr h
theorem own_nlt {x y : Int32} (h : y.toInt ≤ x.toInt) : ¬ x < y := fun q => by
  have := Int32.lt_iff_toInt_lt.mp q; omega
theorem own_eq {x y : Int32} (h : x.toInt = y.toInt) : x = y := Int32.toInt_inj.mp h
theorem own_ltI {x y : Int32} (h : x < y) : x.toInt < y.toInt := Int32.lt_iff_toInt_lt.mp h
theorem own_nltI {x y : Int32} (h : ¬ x < y) : y.toInt ≤ x.toInt := by
  rcases Int.lt_or_le x.toInt y.toInt with q | q
  · exact absurd (own_lt q) h
  · exact q
theorem own_rem {x y : Int32} (hx : 0 ≤ x.toInt) (hy : 0 < y.toInt) : 0 ≤ (x % y).toInt ∧ (x % y).toInt < y.toInt := by
  have h := (c_irem x y y.toInt rfl).1 hx
  rw [h]; exact ⟨Int.emod_nonneg _ (by omega), Int.emod_lt_of_pos _ hy⟩
theorem own_add {x y : Int32} (h1 : -2147483648 ≤ x.toInt + y.toInt) (h2 : x.toInt + y.toInt < 2147483648) : (x + y).toInt = x.toInt + y.toInt := by
  have a := c_iadd x y; have b := (x + y).toInt_lt; have c := (x + y).le_toInt; omega
theorem own_sub {x y : Int32} (h1 : -2147483648 ≤ x.toInt - y.toInt) (h2 : x.toInt - y.toInt < 2147483648) : (x - y).toInt = x.toInt - y.toInt := by
  have a := c_isub x y; have b := (x - y).toInt_lt; have c := (x - y).le_toInt; omega
theorem own_and (x : Int32) (m : Int32) (k : Nat) (hk : k ≤ 31) (hm : m.toBitVec.toNat = 2 ^ k - 1) : 0 ≤ (x &&& m).toInt ∧ (x &&& m).toInt ≤ m.toInt ∧ (x &&& m).toInt = x.toInt % (2 ^ k : Nat) := by
  have h := c_mask x m k hk hm
  have hm0 : 0 ≤ m.toInt := by
    have e : m.toInt = m.toBitVec.toInt := rfl
    have q : 2 ^ k ≤ 2 ^ 31 := Nat.pow_le_pow_right (by decide) hk
    have l := m.toBitVec.isLt
    rw [e, BitVec.toInt_eq_toNat_cond, hm]; split <;> omega
  exact ⟨(c_and x m hm0).1, (c_and x m hm0).2, h⟩
theorem own_bn {p : Int32} (h : p = 0 ∨ p = 1) : narrow .boolean (.int p) = .int p := by rcases h with rfl | rfl <;> rfl
theorem own_bf {p : Int32} (h : p = 0 ∨ p = 1) : fits .boolean (.int p) = true := by rcases h with rfl | rfl <;> rfl
theorem own_bz {p : Int32} (h : p = 0 ∨ p = 1) : nar .boolean p = p := by rcases h with rfl | rfl <;> decide
/-- probed: (changed, the new state, the new count) -/
def own_pr (hT uT hl ag p : Int32) : Int32 × Int32 × Int32 :=
  if p = hl then (if hl = (0 : Int32) then (if (0 : Int32) < hT then (0, hl, 0) else (1, p, 0)) else (if (0 : Int32) < uT then (0, hl, 0) else (1, p, 0)))
  else (if hl = (0 : Int32) then (if (ag + (1 : Int32)) < hT then (0, hl, (ag + (1 : Int32))) else (1, p, 0)) else (if (ag + (1 : Int32)) < uT then (0, hl, (ag + (1 : Int32))) else (1, p, 0)))
def own_w (t i : Int32) : Int32 := (((1 : Int32) <<< (t &&& 31)) - (1 : Int32)) <<< (((i + (1 : Int32)) - t) &&& 31)
def own_e2 (x i t : Int32) : Int32 := if (i + (1 : Int32)) < t then 0 else if (x &&& own_w t i) = own_w t i then 1 else 0
def own_ex (q i st hT uT : Int32) : Int32 :=
  if ((q >>> (i &&& 31)) &&& (1 : Int32)) = (0 : Int32) then (if (0 : Int32) = st then 0 else if st = (0 : Int32) then own_e2 (q ^^^ (-1 : Int32)) i hT else own_e2 (q ^^^ (-1 : Int32)) i uT)
  else (if (1 : Int32) = st then 0 else if st = (0 : Int32) then own_e2 q i hT else own_e2 q i uT)
def own_pb (q i : Int32) : Int32 := if ((q >>> (i &&& 31)) &&& (1 : Int32)) = (0 : Int32) then 0 else 1
theorem own_pb01 {q i w : Int32} (h : w = own_pb q i) : w = 0 ∨ w = 1 := by
  subst h; unfold own_pb; split
  · exact Or.inl rfl
  · exact Or.inr rfl
def own_sv (ex r st : Int32) : Int32 :=
  if ex = (0 : Int32) then (if r = ex then (if st = (0 : Int32) then ((1 : Int32) ||| (0 : Int32)) else ((1 : Int32) ||| (2 : Int32))) else (if st = (0 : Int32) then ((0 : Int32) ||| (0 : Int32)) else ((0 : Int32) ||| (2 : Int32))))
  else (if st = (0 : Int32) then (if r = ex then ((1 : Int32) ||| (2 : Int32)) else ((0 : Int32) ||| (2 : Int32))) else (if r = ex then ((1 : Int32) ||| (0 : Int32)) else ((0 : Int32) ||| (0 : Int32))))
def own_b2 (v : Int32) : Int32 := if (v &&& (2 : Int32)) = (0 : Int32) then 0 else 1
/-- one probe: (state, count, the law's state, the law's word) -/
def own_nx (q hT uT i : Int32) : Int32 × Int32 × Int32 × Int32 → Int32 × Int32 × Int32 × Int32
  | (hl, ag, st, acc) => ((own_pr hT uT hl ag (own_pb q i)).2.1, (own_pr hT uT hl ag (own_pb q i)).2.2, own_b2 (own_sv (own_ex q i st hT uT) (own_pr hT uT hl ag (own_pb q i)).1 st), acc &&& own_sv (own_ex q i st hT uT) (own_pr hT uT hl ag (own_pb q i)).1 st)
def own_S (q hT uT : Int32) : Nat → Int32 × Int32 × Int32 × Int32
  | 0 => (0, 0, 0, 1)
  | i + 1 => own_nx q hT uT (Int32.ofNat i) (own_S q hT uT i)
theorem own_step {q hT uT hl ag st acc hl' ag' st' acc' v i : Int32} {k : Nat} (h : (hl, ag, st, acc) = own_S q hT uT k) (hi : i = Int32.ofNat k) (hv : own_sv (own_ex q i st hT uT) (own_pr hT uT hl ag (own_pb q i)).1 st = v)
    (h1 : hl' = (own_pr hT uT hl ag (own_pb q i)).2.1) (h2 : ag' = (own_pr hT uT hl ag (own_pb q i)).2.2) (h3 : st' = own_b2 v) (h4 : acc &&& v = acc') : (hl', ag', st', acc') = own_S q hT uT (k + 1) := by
  subst hv h1 h2 h3 h4 hi
  show _ = own_nx q hT uT (Int32.ofNat k) (own_S q hT uT k)
  rw [← h]; rfl
def own_ok (S : Int32 × Int32 × Int32 × Int32) : Bool := !(decide ((S.2.2.2 &&& (1 : Int32)) = (0 : Int32))) && decide (S.1 = S.2.2.1) && (decide (S.1 = 0) || decide (S.1 = 1))
theorem own_and_xor (a b c : Int32) : (a ^^^ b) &&& c = (a &&& c) ^^^ (b &&& c) := by
  apply Int32.toBitVec_inj.mp
  rw [Int32.toBitVec_and, Int32.toBitVec_xor, Int32.toBitVec_xor, Int32.toBitVec_and, Int32.toBitVec_and]
  apply BitVec.eq_of_getLsbD_eq
  intro i hi
  simp only [BitVec.getLsbD_xor, BitVec.getLsbD_and]
  cases a.toBitVec.getLsbD i <;> cases b.toBitVec.getLsbD i <;> cases c.toBitVec.getLsbD i <;> rfl
theorem own_bitI (q i : Int32) (k : Nat) (hk : i.toBitVec.toNat % 32 = k) : ((q >>> (i &&& 31)) &&& (1 : Int32)).toInt = (q.toInt / (2 ^ k : Nat)) % 2 := by
  rw [c_mask (q >>> (i &&& 31)) 1 1 (by decide) (by decide), c_ishr q i k hk]; rfl
theorem own_bit127 (q : Int32) (k : Fin 7) : (((q &&& 127) >>> ((Int32.ofNat k.1) &&& 31)) &&& (1 : Int32)) = ((q >>> ((Int32.ofNat k.1) &&& 31)) &&& (1 : Int32)) := by
  have h0 : ∀ k : Fin 7, (Int32.ofNat k.1).toBitVec.toNat % 32 = k.1 := by decide
  have m : (q &&& 127).toInt = q.toInt % 128 := c_mask q 127 7 (by decide) (by decide)
  apply own_eq
  rw [own_bitI _ _ k.1 (h0 k), own_bitI _ _ k.1 (h0 k), m]
  match k with
  | ⟨0, _⟩ => show (q.toInt % 128 / 1) % 2 = (q.toInt / 1) % 2; omega
  | ⟨1, _⟩ => show (q.toInt % 128 / 2) % 2 = (q.toInt / 2) % 2; omega
  | ⟨2, _⟩ => show (q.toInt % 128 / 4) % 2 = (q.toInt / 4) % 2; omega
  | ⟨3, _⟩ => show (q.toInt % 128 / 8) % 2 = (q.toInt / 8) % 2; omega
  | ⟨4, _⟩ => show (q.toInt % 128 / 16) % 2 = (q.toInt / 16) % 2; omega
  | ⟨5, _⟩ => show (q.toInt % 128 / 32) % 2 = (q.toInt / 32) % 2; omega
  | ⟨6, _⟩ => show (q.toInt % 128 / 64) % 2 = (q.toInt / 64) % 2; omega
theorem own_w127 : ∀ (k : Fin 7) (t : Fin 4), ¬ (Int32.ofNat k.1 + 1) < Int32.ofNat (t.1 + 1) → (127 : Int32) &&& own_w (Int32.ofNat (t.1 + 1)) (Int32.ofNat k.1) = own_w (Int32.ofNat (t.1 + 1)) (Int32.ofNat k.1) := by decide +kernel
theorem own_e127 (q : Int32) (k : Fin 7) (t : Fin 4) : own_e2 (q &&& 127) (Int32.ofNat k.1) (Int32.ofNat (t.1 + 1)) = own_e2 q (Int32.ofNat k.1) (Int32.ofNat (t.1 + 1)) := by
  unfold own_e2
  by_cases h : (Int32.ofNat k.1 + (1 : Int32)) < Int32.ofNat (t.1 + 1)
  · rw [if_pos h, if_pos h]
  · rw [if_neg h, if_neg h, Int32.and_assoc, own_w127 k t h]
theorem own_e127n (q : Int32) (k : Fin 7) (t : Fin 4) : own_e2 ((q &&& 127) ^^^ (-1 : Int32)) (Int32.ofNat k.1) (Int32.ofNat (t.1 + 1)) = own_e2 (q ^^^ (-1 : Int32)) (Int32.ofNat k.1) (Int32.ofNat (t.1 + 1)) := by
  unfold own_e2
  by_cases h : (Int32.ofNat k.1 + (1 : Int32)) < Int32.ofNat (t.1 + 1)
  · rw [if_pos h, if_pos h]
  · rw [if_neg h, if_neg h, own_and_xor, own_and_xor, Int32.and_assoc, own_w127 k t h]
theorem own_ex127 (q st : Int32) (k : Fin 7) (t u : Fin 4) : own_ex (q &&& 127) (Int32.ofNat k.1) st (Int32.ofNat (t.1 + 1)) (Int32.ofNat (u.1 + 1)) = own_ex q (Int32.ofNat k.1) st (Int32.ofNat (t.1 + 1)) (Int32.ofNat (u.1 + 1)) := by
  unfold own_ex
  rw [own_bit127, own_e127, own_e127, own_e127n, own_e127n]
theorem own_pb127 (q : Int32) (k : Fin 7) : own_pb (q &&& 127) (Int32.ofNat k.1) = own_pb q (Int32.ofNat k.1) := by
  unfold own_pb; rw [own_bit127]
theorem own_S127 (q : Int32) (t u : Fin 4) : ∀ k : Nat, k ≤ 7 → own_S (q &&& 127) (Int32.ofNat (t.1 + 1)) (Int32.ofNat (u.1 + 1)) k = own_S q (Int32.ofNat (t.1 + 1)) (Int32.ofNat (u.1 + 1)) k
  | 0, _ => rfl
  | k + 1, h => by
    show own_nx (q &&& 127) _ _ (Int32.ofNat k) _ = own_nx q _ _ (Int32.ofNat k) _
    rw [own_S127 q t u k (by omega)]
    generalize own_S q (Int32.ofNat (t.1 + 1)) (Int32.ofNat (u.1 + 1)) k = S
    obtain ⟨hl, ag, st, acc⟩ := S
    unfold own_nx
    dsimp only
    rw [own_pb127 q ⟨k, by omega⟩, own_ex127 q st ⟨k, by omega⟩ t u]
theorem own_fin7 : ∀ (t u : Fin 4) (r : Fin 128), own_ok (own_S (Int32.ofNat r.1) (Int32.ofNat (t.1 + 1)) (Int32.ofNat (u.1 + 1)) 7) = true := by decide +kernel
theorem own_nat {x : Int32} {n : Nat} (h0 : 0 ≤ x.toInt) (h1 : x.toInt < n) : ∃ k : Fin n, x = Int32.ofNat k.1 := by
  refine ⟨⟨x.toInt.toNat, by omega⟩, ?_⟩
  show x = Int32.ofNat x.toInt.toNat
  rw [← Int32.ofInt_eq_ofNat, Int.toNat_of_nonneg h0, Int32.ofInt_toInt]
theorem own_thr {a v : Int32} (e : ((a &&& (3 : Int32)) + (1 : Int32)) = v) : ∃ t : Fin 4, v = Int32.ofNat (t.1 + 1) := by
  obtain ⟨h1, h2, -⟩ := own_and a 3 2 (by decide) (by decide)
  have t3 : (3 : Int32).toInt = 3 := by decide
  obtain ⟨k, hk⟩ := own_nat (n := 4) h1 (by omega)
  refine ⟨k, ?_⟩
  rw [← e, hk, Int32.ofNat_add]; rfl
theorem own_all {a b q hT uT hl ag st acc : Int32} (e1 : ((a &&& (3 : Int32)) + (1 : Int32)) = hT) (e2 : ((b &&& (3 : Int32)) + (1 : Int32)) = uT) (h : (hl, ag, st, acc) = own_S q hT uT 7) :
    ¬ (acc &&& (1 : Int32)) = (0 : Int32) ∧ hl = st ∧ (hl = 0 ∨ hl = 1) := by
  obtain ⟨t, rfl⟩ := own_thr e1
  obtain ⟨u, rfl⟩ := own_thr e2
  obtain ⟨h1, h2, -⟩ := own_and q 127 7 (by decide) (by decide)
  have t7 : (127 : Int32).toInt = 127 := by decide
  obtain ⟨r, hr⟩ := own_nat (n := 128) h1 (by omega)
  have w := own_fin7 t u r
  rw [← hr, own_S127 q t u 7 (by omega), ← h] at w
  unfold own_ok at w
  simp only [Bool.and_eq_true, Bool.or_eq_true, Bool.not_eq_true', decide_eq_true_eq, decide_eq_false_iff_not] at w
  exact ⟨w.1.1, w.1.2, w.2⟩

theorem d1_0 : decode prog_63_method_1_code 0 = .ok (.aload_n 0, 1) := by decide +kernel
theorem d1_1 : decode prog_63_method_1_code 1 = .ok (.invokespecial 1, 3) := by decide +kernel
theorem d1_4 : decode prog_63_method_1_code 4 = .ok (.aload_n 0, 1) := by decide +kernel
theorem d1_5 : decode prog_63_method_1_code 5 = .ok (.iload_n 1, 1) := by decide +kernel
theorem d1_6 : decode prog_63_method_1_code 6 = .ok (.putfield 7, 3) := by decide +kernel
theorem d1_9 : decode prog_63_method_1_code 9 = .ok (.aload_n 0, 1) := by decide +kernel
theorem d1_10 : decode prog_63_method_1_code 10 = .ok (.iload_n 2, 1) := by decide +kernel
theorem d1_11 : decode prog_63_method_1_code 11 = .ok (.putfield 13, 3) := by decide +kernel
theorem d1_14 : decode prog_63_method_1_code 14 = .ok (.return_, 1) := by decide +kernel
theorem pn_0 : plainName "com/example/outlier/outlier/health/HealthState" = true := by first | (simp [plainName, overriddenIn]; done) | decide +kernel
theorem ef_1 (m : MethodId) (a1 : Addr) (p1 : Int32) (p2 : Int32) : entryFrame m #[(.ref a1), (.int p1), (.int p2)] 3 = mkF m 0 #[.val (.ref a1), .val (.int p1), .val (.int p2)] [] := by first | (simp [entryFrame, mkF, argsToLocals, Value.category]; done) | rfl
def Q1 (Z : State) (a1 : Addr) (p1 : Int32) (p2 : Int32)  (h0 : Heap) (n0 : Nat) (v : Option Value) (h : Heap) (L : List Loc) : Prop := v = none ∧ Fr n0 L ∧ n0 ≤ h.size ∧ Exa Z h a1 "com/example/outlier/outlier/health/HealthState" ∧ Fld Z h a1 "com/example/outlier/outlier/health/HealthState" "healthyThreshold" "I" (.int p1) ∧ Fld Z h a1 "com/example/outlier/outlier/health/HealthState" "unhealthyThreshold" "I" (.int p2) ∧ Fld Z h a1 "com/example/outlier/outlier/health/HealthState" "healthy" "Z" (.int (0 : Int32)) ∧ Fld Z h a1 "com/example/outlier/outlier/health/HealthState" "against" "I" (.int (0 : Int32))
set_option maxRecDepth 65536 in
set_option maxHeartbeats 40000000 in
theorem rm1 (l : Launch) (Z : State) (a0 : Array Value) (hw : ∀ d ∈ tables_1, d.before a0 Z = true) (a1 : Addr) (p1 : Int32) (p2 : Int32)  (h0 : Heap) (n0 : Nat) (Z0 : n0 ≤ h0.size) (EX : Exa Z h0 a1 "com/example/outlier/outlier/health/HealthState") (FhealthyThreshold : Fld Z h0 a1 "com/example/outlier/outlier/health/HealthState" "healthyThreshold" "I" (.int (0 : Int32))) (FunhealthyThreshold : Fld Z h0 a1 "com/example/outlier/outlier/health/HealthState" "unhealthyThreshold" "I" (.int (0 : Int32))) (Fhealthy : Fld Z h0 a1 "com/example/outlier/outlier/health/HealthState" "healthy" "Z" (.int (0 : Int32))) (Fagainst : Fld Z h0 a1 "com/example/outlier/outlier/health/HealthState" "against" "I" (.int (0 : Int32))) (gA : n0 ≤ a1) :
    MetFree l (⟨"com/example/outlier/outlier/health/HealthState", "<init>", "(II)V"⟩ : MethodName) (head1 [Jvm.Cond.code (⟨"com/example/outlier/outlier/health/HealthState", "<init>", "(II)V"⟩ : MethodName) prog_63_method_1_code 3 none] ({ frames := 1, cells := 0, slots := 0, locals := 12 } : Room)) (fun a U => a = #[(.ref a1), (.int p1), (.int p2)] ∧ Z.Warmed39 U.vm ∧ U.heap = h0) (fun _ _ _ _ _ => True) (fun _ U o U' => ∃ v L, o = .returned v ∧ Q1 Z a1 p1 p2  h0 n0 v U'.heap L ∧ FrameEnd U o U' L ({ frames := 1, cells := 0, slots := 0, locals := 12 } : Room).cells ({ frames := 1, cells := 0, slots := 0, locals := 12 } : Room).slots) := by
  refine MetFree.of_bodySF (plainFor_of_name pn_0) hisR ?_
  intro p e s m args below meth c s₁ Bd hml0 hP hK
  obtain ⟨rfl, hZ, hh⟩ := hP
  have hx := Bd.exec
  have hby := Bd.bytes
  have hlk : meth.locks = false := Bd.notSynchronized
  have hml : c.maxLocals = 3 := hml0
  have hown : s.vm.findClass "com/example/outlier/outlier/health/HealthState" = some m.cls := findClass_of_methodNamed Bd.named
  have hnm := (name_of_methodNamed Bd.named Bd.method).1
  have X0 : Stand p l e ({ frames := 1, cells := 0, slots := 0, locals := 12 } : Room) s m #[(.ref a1), (.int p1), (.int p2)] below meth c s₁ [] 0 0 := Stand.of_body Bd
  have e0 : s₁.heap = h0 := by rw [← hh, Bd.state]; rfl
  have N0 := Fr.nil n0
  show Gl p e below s (Q1 Z a1 p1 p2  h0 n0) 0 0 s₁ (entryFrame m #[(.ref a1), (.int p1), (.int p2)] 3)
  rw [ef_1 m a1 p1 p2]
  refine Gl.st (g' := (mkF m 1 #[.val (.ref a1), .val (.int p1), .val (.int p2)] [(.ref a1)])) (fun t k => XS.aloadN X0.here hx rfl (hb hby d1_0) rfl rfl k) ?_
  obtain ⟨T1, X1, e1, st1⟩ := initO X0 hx hZ hown (hw _ (List.mem_of_getElem? (i := 6) rfl)) (hw _ (List.mem_of_getElem? (i := 7) rfl)) (hw _ (List.mem_of_getElem? (i := 8) rfl)) e0 (g := (mkF m 1 #[.val (.ref a1), .val (.int p1), .val (.int p2)] [(.ref a1)])) rfl (by rw [hml]; rfl) rfl (hb hby d1_1) (by decide) (W := 0) (by show 2 * 0 + _ ≤ _; exact Nat.le_of_eq rfl) (by decide)
  refine Gl.st (g' := (mkF m 4 #[.val (.ref a1), .val (.int p1), .val (.int p2)] [])) st1 ?_
  refine Gl.st (g' := (mkF m 5 #[.val (.ref a1), .val (.int p1), .val (.int p2)] [(.ref a1)])) (fun t k => XS.aloadN X1.here hx rfl (hb hby d1_4) rfl rfl k) ?_
  refine Gl.st (g' := (mkF m 6 #[.val (.ref a1), .val (.int p1), .val (.int p2)] [(.int p1), (.ref a1)])) (fun t k => XS.iloadN X1.here hx rfl (hb hby d1_5) rfl k) ?_
  obtain ⟨T2, h2, X2, e2, W2, st2⟩ := putF X1 hx hZ hown (host := "") (Or.inl (hw _ (List.mem_of_getElem? (i := 9) rfl))) Via.refl e1 FhealthyThreshold EX (Or.inr ⟨(hw _ (List.mem_of_getElem? (i := 10) rfl)), rfl, hnm⟩) (hw _ (List.mem_of_getElem? (i := 1) rfl)) (ty := .int) (by decide) rfl rfl (g := (mkF m 6 #[.val (.ref a1), .val (.int p1), .val (.int p2)] [(.int p1), (.ref a1)])) rfl rfl (hb hby d1_6)
  have N2 := Fr.snoc X2 N0 gA
  have Z2 : n0 ≤ h2.size := Nat.le_trans Z0 (Keep.of_wr W2).1
  have F3 : Fld Z h2 a1 "com/example/outlier/outlier/health/HealthState" "healthyThreshold" "I" (.int p1) := (FhealthyThreshold.same W2)
  have F4 : Fld Z h2 a1 "com/example/outlier/outlier/health/HealthState" "unhealthyThreshold" "I" (.int (0 : Int32)) := (FunhealthyThreshold.other W2 (Or.inr (slot_ne (Or.inr (hw _ (List.mem_of_getElem? (i := 12) rfl))) (Or.inr (hw _ (List.mem_of_getElem? (i := 10) rfl))) (by decide) (t := .int) (t' := .int) (by decide) (by decide))))
  have F5 : Fld Z h2 a1 "com/example/outlier/outlier/health/HealthState" "healthy" "Z" (.int (0 : Int32)) := (Fhealthy.other W2 (Or.inr (slot_ne (Or.inl (hw _ (List.mem_of_getElem? (i := 26) rfl))) (Or.inr (hw _ (List.mem_of_getElem? (i := 10) rfl))) (by decide) (t := .boolean) (t' := .int) (by decide) (by decide))))
  have F6 : Fld Z h2 a1 "com/example/outlier/outlier/health/HealthState" "against" "I" (.int (0 : Int32)) := (Fagainst.other W2 (Or.inr (slot_ne (Or.inl (hw _ (List.mem_of_getElem? (i := 28) rfl))) (Or.inr (hw _ (List.mem_of_getElem? (i := 10) rfl))) (by decide) (t := .int) (t' := .int) (by decide) (by decide))))
  have E7 : Exa Z h2 a1 "com/example/outlier/outlier/health/HealthState" := (EX.wr W2)
  refine Gl.st (g' := (mkF m 9 #[.val (.ref a1), .val (.int p1), .val (.int p2)] [])) st2 ?_
  refine Gl.st (g' := (mkF m 10 #[.val (.ref a1), .val (.int p1), .val (.int p2)] [(.ref a1)])) (fun t k => XS.aloadN X2.here hx rfl (hb hby d1_9) rfl rfl k) ?_
  refine Gl.st (g' := (mkF m 11 #[.val (.ref a1), .val (.int p1), .val (.int p2)] [(.int p2), (.ref a1)])) (fun t k => XS.iloadN X2.here hx rfl (hb hby d1_10) rfl k) ?_
  obtain ⟨T8, h8, X8, e8, W8, st8⟩ := putF X2 hx hZ hown (host := "") (Or.inl (hw _ (List.mem_of_getElem? (i := 11) rfl))) Via.refl e2 F4 E7 (Or.inr ⟨(hw _ (List.mem_of_getElem? (i := 12) rfl)), rfl, hnm⟩) (hw _ (List.mem_of_getElem? (i := 1) rfl)) (ty := .int) (by decide) rfl rfl (g := (mkF m 11 #[.val (.ref a1), .val (.int p1), .val (.int p2)] [(.int p2), (.ref a1)])) rfl rfl (hb hby d1_11)
  have N8 := Fr.snoc X8 N2 gA
  have Z8 : n0 ≤ h8.size := Nat.le_trans Z2 (Keep.of_wr W8).1
  have F9 : Fld Z h8 a1 "com/example/outlier/outlier/health/HealthState" "healthyThreshold" "I" (.int p1) := (F3.other W8 (Or.inr (slot_ne (Or.inr (hw _ (List.mem_of_getElem? (i := 10) rfl))) (Or.inr (hw _ (List.mem_of_getElem? (i := 12) rfl))) (by decide) (t := .int) (t' := .int) (by decide) (by decide))))
  have F10 : Fld Z h8 a1 "com/example/outlier/outlier/health/HealthState" "unhealthyThreshold" "I" (.int p2) := (F4.same W8)
  have F11 : Fld Z h8 a1 "com/example/outlier/outlier/health/HealthState" "healthy" "Z" (.int (0 : Int32)) := (F5.other W8 (Or.inr (slot_ne (Or.inl (hw _ (List.mem_of_getElem? (i := 26) rfl))) (Or.inr (hw _ (List.mem_of_getElem? (i := 12) rfl))) (by decide) (t := .boolean) (t' := .int) (by decide) (by decide))))
  have F12 : Fld Z h8 a1 "com/example/outlier/outlier/health/HealthState" "against" "I" (.int (0 : Int32)) := (F6.other W8 (Or.inr (slot_ne (Or.inl (hw _ (List.mem_of_getElem? (i := 28) rfl))) (Or.inr (hw _ (List.mem_of_getElem? (i := 12) rfl))) (by decide) (t := .int) (t' := .int) (by decide) (by decide))))
  have E13 : Exa Z h8 a1 "com/example/outlier/outlier/health/HealthState" := (E7.wr W8)
  refine Gl.st (g' := (mkF m 14 #[.val (.ref a1), .val (.int p1), .val (.int p2)] [])) st8 ?_
  refine Gl.retV X8 hx hlk Bd.returns (hb hby d1_14) e8 (by decide) (by decide) ?_
  exact ⟨rfl, N8, Z8, E13, F9, F10, F11, F12⟩
theorem d2_0 : decode prog_63_method_3_code 0 = .ok (.aload_n 0, 1) := by decide +kernel
theorem d2_1 : decode prog_63_method_3_code 1 = .ok (.iload_n 1, 1) := by decide +kernel
theorem d2_2 : decode prog_63_method_3_code 2 = .ok (.aload_n 0, 1) := by decide +kernel
theorem d2_3 : decode prog_63_method_3_code 3 = .ok (.getfield 16, 3) := by decide +kernel
theorem d2_6 : decode prog_63_method_3_code 6 = .ok (.if_icmp .ne 7, 3) := by decide +kernel
theorem d2_9 : decode prog_63_method_3_code 9 = .ok (.iconst 0, 1) := by decide +kernel
theorem d2_10 : decode prog_63_method_3_code 10 = .ok (.goto 9, 3) := by decide +kernel
theorem d2_13 : decode prog_63_method_3_code 13 = .ok (.aload_n 0, 1) := by decide +kernel
theorem d2_14 : decode prog_63_method_3_code 14 = .ok (.getfield 20, 3) := by decide +kernel
theorem d2_17 : decode prog_63_method_3_code 17 = .ok (.iconst 1, 1) := by decide +kernel
theorem d2_18 : decode prog_63_method_3_code 18 = .ok (.iadd, 1) := by decide +kernel
theorem d2_19 : decode prog_63_method_3_code 19 = .ok (.putfield 20, 3) := by decide +kernel
theorem d2_22 : decode prog_63_method_3_code 22 = .ok (.aload_n 0, 1) := by decide +kernel
theorem d2_23 : decode prog_63_method_3_code 23 = .ok (.getfield 20, 3) := by decide +kernel
theorem d2_26 : decode prog_63_method_3_code 26 = .ok (.aload_n 0, 1) := by decide +kernel
theorem d2_27 : decode prog_63_method_3_code 27 = .ok (.getfield 16, 3) := by decide +kernel
theorem d2_30 : decode prog_63_method_3_code 30 = .ok (.ifCond .eq 10, 3) := by decide +kernel
theorem d2_33 : decode prog_63_method_3_code 33 = .ok (.aload_n 0, 1) := by decide +kernel
theorem d2_34 : decode prog_63_method_3_code 34 = .ok (.getfield 13, 3) := by decide +kernel
theorem d2_37 : decode prog_63_method_3_code 37 = .ok (.goto 7, 3) := by decide +kernel
theorem d2_40 : decode prog_63_method_3_code 40 = .ok (.aload_n 0, 1) := by decide +kernel
theorem d2_41 : decode prog_63_method_3_code 41 = .ok (.getfield 7, 3) := by decide +kernel
theorem d2_44 : decode prog_63_method_3_code 44 = .ok (.if_icmp .lt 7, 3) := by decide +kernel
theorem d2_47 : decode prog_63_method_3_code 47 = .ok (.iconst 1, 1) := by decide +kernel
theorem d2_48 : decode prog_63_method_3_code 48 = .ok (.goto 4, 3) := by decide +kernel
theorem d2_51 : decode prog_63_method_3_code 51 = .ok (.iconst 0, 1) := by decide +kernel
theorem d2_52 : decode prog_63_method_3_code 52 = .ok (.istore_n 2, 1) := by decide +kernel
theorem d2_53 : decode prog_63_method_3_code 53 = .ok (.iload_n 2, 1) := by decide +kernel
theorem d2_54 : decode prog_63_method_3_code 54 = .ok (.ifCond .eq 13, 3) := by decide +kernel
theorem d2_57 : decode prog_63_method_3_code 57 = .ok (.aload_n 0, 1) := by decide +kernel
theorem d2_58 : decode prog_63_method_3_code 58 = .ok (.iload_n 1, 1) := by decide +kernel
theorem d2_59 : decode prog_63_method_3_code 59 = .ok (.putfield 16, 3) := by decide +kernel
theorem d2_62 : decode prog_63_method_3_code 62 = .ok (.aload_n 0, 1) := by decide +kernel
theorem d2_63 : decode prog_63_method_3_code 63 = .ok (.iconst 0, 1) := by decide +kernel
theorem d2_64 : decode prog_63_method_3_code 64 = .ok (.putfield 20, 3) := by decide +kernel
theorem d2_67 : decode prog_63_method_3_code 67 = .ok (.iload_n 2, 1) := by decide +kernel
theorem d2_68 : decode prog_63_method_3_code 68 = .ok (.ireturn, 1) := by decide +kernel
theorem ef_2 (m : MethodId) (a1 : Addr) (p1 : Int32) : entryFrame m #[(.ref a1), (.int p1)] 3 = mkF m 0 #[.val (.ref a1), .val (.int p1), .unset] [] := by first | (simp [entryFrame, mkF, argsToLocals, Value.category]; done) | rfl
def Q2 (Z : State) (a1 : Addr) (p1 : Int32) (hT uT hl ag : Int32) (h0 : Heap) (n0 : Nat) (v : Option Value) (h : Heap) (L : List Loc) : Prop := v = some (.int (own_pr hT uT hl ag p1).1) ∧ Fr n0 L ∧ n0 ≤ h.size ∧ Exa Z h a1 "com/example/outlier/outlier/health/HealthState" ∧ Fld Z h a1 "com/example/outlier/outlier/health/HealthState" "healthyThreshold" "I" (.int hT) ∧ Fld Z h a1 "com/example/outlier/outlier/health/HealthState" "unhealthyThreshold" "I" (.int uT) ∧ Fld Z h a1 "com/example/outlier/outlier/health/HealthState" "healthy" "Z" (.int (own_pr hT uT hl ag p1).2.1) ∧ Fld Z h a1 "com/example/outlier/outlier/health/HealthState" "against" "I" (.int (own_pr hT uT hl ag p1).2.2)
set_option maxRecDepth 65536 in
set_option maxHeartbeats 40000000 in
theorem rm2 (l : Launch) (Z : State) (a0 : Array Value) (hw : ∀ d ∈ tables_1, d.before a0 Z = true) (a1 : Addr) (p1 : Int32) (hT uT hl ag : Int32) (h0 : Heap) (n0 : Nat) (Z0 : n0 ≤ h0.size) (EX : Exa Z h0 a1 "com/example/outlier/outlier/health/HealthState") (FhealthyThreshold : Fld Z h0 a1 "com/example/outlier/outlier/health/HealthState" "healthyThreshold" "I" (.int hT)) (FunhealthyThreshold : Fld Z h0 a1 "com/example/outlier/outlier/health/HealthState" "unhealthyThreshold" "I" (.int uT)) (Fhealthy : Fld Z h0 a1 "com/example/outlier/outlier/health/HealthState" "healthy" "Z" (.int hl)) (Fagainst : Fld Z h0 a1 "com/example/outlier/outlier/health/HealthState" "against" "I" (.int ag)) (gA : n0 ≤ a1) (hp : p1 = 0 ∨ p1 = 1) :
    MetFree l (⟨"com/example/outlier/outlier/health/HealthState", "probed", "(Z)Z"⟩ : MethodName) (head1 [Jvm.Cond.code (⟨"com/example/outlier/outlier/health/HealthState", "probed", "(Z)Z"⟩ : MethodName) prog_63_method_3_code 3 (some .boolean)] ({ frames := 0, cells := 0, slots := 0, locals := 0 } : Room)) (fun a U => a = #[(.ref a1), (.int p1)] ∧ Z.Warmed39 U.vm ∧ U.heap = h0) (fun _ _ _ _ _ => True) (fun _ U o U' => ∃ v L, o = .returned v ∧ Q2 Z a1 p1 hT uT hl ag h0 n0 v U'.heap L ∧ FrameEnd U o U' L ({ frames := 0, cells := 0, slots := 0, locals := 0 } : Room).cells ({ frames := 0, cells := 0, slots := 0, locals := 0 } : Room).slots) := by
  refine MetFree.of_bodySF (plainFor_of_name pn_0) hisR ?_
  intro p e s m args below meth c s₁ Bd hml0 hP hK
  obtain ⟨rfl, hZ, hh⟩ := hP
  have hx := Bd.exec
  have hby := Bd.bytes
  have hlk : meth.locks = false := Bd.notSynchronized
  have hml : c.maxLocals = 3 := hml0
  have hown : s.vm.findClass "com/example/outlier/outlier/health/HealthState" = some m.cls := findClass_of_methodNamed Bd.named
  have hnm := (name_of_methodNamed Bd.named Bd.method).1
  have X0 : Stand p l e ({ frames := 0, cells := 0, slots := 0, locals := 0 } : Room) s m #[(.ref a1), (.int p1)] below meth c s₁ [] 0 0 := Stand.of_body Bd
  have e0 : s₁.heap = h0 := by rw [← hh, Bd.state]; rfl
  have N0 := Fr.nil n0
  show Gl p e below s (Q2 Z a1 p1 hT uT hl ag h0 n0) 0 0 s₁ (entryFrame m #[(.ref a1), (.int p1)] 3)
  rw [ef_2 m a1 p1]
  refine Gl.st (g' := (mkF m 1 #[.val (.ref a1), .val (.int p1), .unset] [(.ref a1)])) (fun t k => XS.aloadN X0.here hx rfl (hb hby d2_0) rfl rfl k) ?_
  refine Gl.st (g' := (mkF m 2 #[.val (.ref a1), .val (.int p1), .unset] [(.int p1), (.ref a1)])) (fun t k => XS.iloadN X0.here hx rfl (hb hby d2_1) rfl k) ?_
  refine Gl.st (g' := (mkF m 3 #[.val (.ref a1), .val (.int p1), .unset] [(.ref a1), (.int p1), (.ref a1)])) (fun t k => XS.aloadN X0.here hx rfl (hb hby d2_2) rfl rfl k) ?_
  obtain ⟨T14, X14, e14, st14⟩ := getF X0 hx hZ hown (host := "") (Or.inl (hw _ (List.mem_of_getElem? (i := 25) rfl))) Via.refl e0 Fhealthy (g := (mkF m 3 #[.val (.ref a1), .val (.int p1), .unset] [(.ref a1), (.int p1), (.ref a1)])) rfl rfl (hb hby d2_3)
  refine Gl.st (g' := (mkF m 6 #[.val (.ref a1), .val (.int p1), .unset] [(.int hl), (.int p1), (.ref a1)])) st14 ?_
  by_cases c15 : p1 = hl
  · skip
    refine Gl.st (g' := (mkF m 9 #[.val (.ref a1), .val (.int p1), .unset] [(.ref a1)])) (fun t k => XS.icmpNo X14.here hx rfl (hb hby d2_6) rfl (XT.ii_ne_f c15) k) ?_
    refine Gl.st (g' := (mkF m 10 #[.val (.ref a1), .val (.int p1), .unset] [(.int (0 : Int32)), (.ref a1)])) (fun t k => XT.iconstV X14.here hx rfl (0 : Int32) (hb hby d2_9) rfl k) ?_
    refine Gl.st (g' := (mkF m 19 #[.val (.ref a1), .val (.int p1), .unset] [(.int (0 : Int32)), (.ref a1)])) (fun t k => XS.goto X14.here hx rfl (pc0 := 10) (pc' := 19) rfl (hb hby d2_10) (by decide) (by decide) k) ?_
    obtain ⟨T16, h16, X16, e16, W16, st16⟩ := putF X14 hx hZ hown (host := "") (Or.inl (hw _ (List.mem_of_getElem? (i := 27) rfl))) Via.refl e14 Fagainst EX (Or.inl (hw _ (List.mem_of_getElem? (i := 28) rfl))) (hw _ (List.mem_of_getElem? (i := 1) rfl)) (ty := .int) (by decide) rfl rfl (g := (mkF m 19 #[.val (.ref a1), .val (.int p1), .unset] [(.int (0 : Int32)), (.ref a1)])) rfl rfl (hb hby d2_19)
    have N16 := Fr.snoc X16 N0 gA
    have Z16 : n0 ≤ h16.size := Nat.le_trans Z0 (Keep.of_wr W16).1
    have F17 : Fld Z h16 a1 "com/example/outlier/outlier/health/HealthState" "healthyThreshold" "I" (.int hT) := (FhealthyThreshold.other W16 (Or.inr (slot_ne (Or.inr (hw _ (List.mem_of_getElem? (i := 10) rfl))) (Or.inl (hw _ (List.mem_of_getElem? (i := 28) rfl))) (by decide) (t := .int) (t' := .int) (by decide) (by decide))))
    have F18 : Fld Z h16 a1 "com/example/outlier/outlier/health/HealthState" "unhealthyThreshold" "I" (.int uT) := (FunhealthyThreshold.other W16 (Or.inr (slot_ne (Or.inr (hw _ (List.mem_of_getElem? (i := 12) rfl))) (Or.inl (hw _ (List.mem_of_getElem? (i := 28) rfl))) (by decide) (t := .int) (t' := .int) (by decide) (by decide))))
    have F19 : Fld Z h16 a1 "com/example/outlier/outlier/health/HealthState" "healthy" "Z" (.int hl) := (Fhealthy.other W16 (Or.inr (slot_ne (Or.inl (hw _ (List.mem_of_getElem? (i := 26) rfl))) (Or.inl (hw _ (List.mem_of_getElem? (i := 28) rfl))) (by decide) (t := .boolean) (t' := .int) (by decide) (by decide))))
    have F20 : Fld Z h16 a1 "com/example/outlier/outlier/health/HealthState" "against" "I" (.int (0 : Int32)) := (Fagainst.same W16)
    have E21 : Exa Z h16 a1 "com/example/outlier/outlier/health/HealthState" := (EX.wr W16)
    refine Gl.st (g' := (mkF m 22 #[.val (.ref a1), .val (.int p1), .unset] [])) st16 ?_
    refine Gl.st (g' := (mkF m 23 #[.val (.ref a1), .val (.int p1), .unset] [(.ref a1)])) (fun t k => XS.aloadN X16.here hx rfl (hb hby d2_22) rfl rfl k) ?_
    obtain ⟨T22, X22, e22, st22⟩ := getF X16 hx hZ hown (host := "") (Or.inl (hw _ (List.mem_of_getElem? (i := 27) rfl))) Via.refl e16 F20 (g := (mkF m 23 #[.val (.ref a1), .val (.int p1), .unset] [(.ref a1)])) rfl rfl (hb hby d2_23)
    refine Gl.st (g' := (mkF m 26 #[.val (.ref a1), .val (.int p1), .unset] [(.int (0 : Int32))])) st22 ?_
    refine Gl.st (g' := (mkF m 27 #[.val (.ref a1), .val (.int p1), .unset] [(.ref a1), (.int (0 : Int32))])) (fun t k => XS.aloadN X22.here hx rfl (hb hby d2_26) rfl rfl k) ?_
    obtain ⟨T23, X23, e23, st23⟩ := getF X22 hx hZ hown (host := "") (Or.inl (hw _ (List.mem_of_getElem? (i := 25) rfl))) Via.refl e22 F19 (g := (mkF m 27 #[.val (.ref a1), .val (.int p1), .unset] [(.ref a1), (.int (0 : Int32))])) rfl rfl (hb hby d2_27)
    refine Gl.st (g' := (mkF m 30 #[.val (.ref a1), .val (.int p1), .unset] [(.int hl), (.int (0 : Int32))])) st23 ?_
    by_cases c24 : hl = (0 : Int32)
    · skip
      refine Gl.st (g' := (mkF m 40 #[.val (.ref a1), .val (.int p1), .unset] [(.int (0 : Int32))])) (fun t k => XS.ifYes X23.here hx rfl (pc0 := 30) (pc' := 40) rfl (hb hby d2_30) rfl (XT.i0_eq_t c24) (by decide) (by decide) k) ?_
      refine Gl.st (g' := (mkF m 41 #[.val (.ref a1), .val (.int p1), .unset] [(.ref a1), (.int (0 : Int32))])) (fun t k => XS.aloadN X23.here hx rfl (hb hby d2_40) rfl rfl k) ?_
      obtain ⟨T25, X25, e25, st25⟩ := getF X23 hx hZ hown (host := "") (Or.inl (hw _ (List.mem_of_getElem? (i := 9) rfl))) Via.refl e23 F17 (g := (mkF m 41 #[.val (.ref a1), .val (.int p1), .unset] [(.ref a1), (.int (0 : Int32))])) rfl rfl (hb hby d2_41)
      refine Gl.st (g' := (mkF m 44 #[.val (.ref a1), .val (.int p1), .unset] [(.int hT), (.int (0 : Int32))])) st25 ?_
      by_cases c26 : (0 : Int32) < hT
      · skip
        refine Gl.st (g' := (mkF m 51 #[.val (.ref a1), .val (.int p1), .unset] [])) (fun t k => XS.icmpYes X25.here hx rfl (pc0 := 44) (pc' := 51) rfl (hb hby d2_44) rfl (XT.ii_lt_t c26) (by decide) (by decide) k) ?_
        refine Gl.st (g' := (mkF m 52 #[.val (.ref a1), .val (.int p1), .unset] [(.int (0 : Int32))])) (fun t k => XT.iconstV X25.here hx rfl (0 : Int32) (hb hby d2_51) rfl k) ?_
        refine Gl.st (g' := (mkF m 53 #[.val (.ref a1), .val (.int p1), .val (.int (0 : Int32))] [])) (fun t k => XS.istoreN X25.here hx rfl (hb hby d2_52) rfl (l' := #[.val (.ref a1), .val (.int p1), .val (.int (0 : Int32))]) rfl k) ?_
        refine Gl.st (g' := (mkF m 54 #[.val (.ref a1), .val (.int p1), .val (.int (0 : Int32))] [(.int (0 : Int32))])) (fun t k => XS.iloadN X25.here hx rfl (hb hby d2_53) rfl k) ?_
        refine Gl.st (g' := (mkF m 67 #[.val (.ref a1), .val (.int p1), .val (.int (0 : Int32))] [])) (fun t k => XS.ifYes X25.here hx rfl (pc0 := 54) (pc' := 67) rfl (hb hby d2_54) rfl (XT.i0_eq_t (by decide)) (by decide) (by decide) k) ?_
        refine Gl.st (g' := (mkF m 68 #[.val (.ref a1), .val (.int p1), .val (.int (0 : Int32))] [(.int (0 : Int32))])) (fun t k => XS.iloadN X25.here hx rfl (hb hby d2_67) rfl k) ?_
        refine Gl.retZ X25 hx hlk .boolean (by simp) Bd.returns (hb hby d2_68) e25 (by decide) (by decide) ?_
        have ep : own_pr hT uT hl ag p1 = ((0 : Int32), hl, (0 : Int32)) := by
          unfold own_pr
          rw [if_pos c15, if_pos c24, if_pos c26]
        rw [Q2, ep, own_z0]
        exact ⟨rfl, N16, Z16, E21, F17, F18, F19, F20⟩
      · skip
        refine Gl.st (g' := (mkF m 47 #[.val (.ref a1), .val (.int p1), .unset] [])) (fun t k => XS.icmpNo X25.here hx rfl (hb hby d2_44) rfl (XT.ii_lt_f c26) k) ?_
        refine Gl.st (g' := (mkF m 48 #[.val (.ref a1), .val (.int p1), .unset] [(.int (1 : Int32))])) (fun t k => XT.iconstV X25.here hx rfl (1 : Int32) (hb hby d2_47) rfl k) ?_
        refine Gl.st (g' := (mkF m 52 #[.val (.ref a1), .val (.int p1), .unset] [(.int (1 : Int32))])) (fun t k => XS.goto X25.here hx rfl (pc0 := 48) (pc' := 52) rfl (hb hby d2_48) (by decide) (by decide) k) ?_
        refine Gl.st (g' := (mkF m 53 #[.val (.ref a1), .val (.int p1), .val (.int (1 : Int32))] [])) (fun t k => XS.istoreN X25.here hx rfl (hb hby d2_52) rfl (l' := #[.val (.ref a1), .val (.int p1), .val (.int (1 : Int32))]) rfl k) ?_
        refine Gl.st (g' := (mkF m 54 #[.val (.ref a1), .val (.int p1), .val (.int (1 : Int32))] [(.int (1 : Int32))])) (fun t k => XS.iloadN X25.here hx rfl (hb hby d2_53) rfl k) ?_
        refine Gl.st (g' := (mkF m 57 #[.val (.ref a1), .val (.int p1), .val (.int (1 : Int32))] [])) (fun t k => XS.ifNo X25.here hx rfl (hb hby d2_54) rfl (XT.i0_eq_f (by decide)) k) ?_
        refine Gl.st (g' := (mkF m 58 #[.val (.ref a1), .val (.int p1), .val (.int (1 : Int32))] [(.ref a1)])) (fun t k => XS.aloadN X25.here hx rfl (hb hby d2_57) rfl rfl k) ?_
        refine Gl.st (g' := (mkF m 59 #[.val (.ref a1), .val (.int p1), .val (.int (1 : Int32))] [(.int p1), (.ref a1)])) (fun t k => XS.iloadN X25.here hx rfl (hb hby d2_58) rfl k) ?_
        obtain ⟨T27, h27, X27, e27, W27, st27⟩ := putF X25 hx hZ hown (host := "") (Or.inl (hw _ (List.mem_of_getElem? (i := 25) rfl))) Via.refl e25 F19 E21 (Or.inl (hw _ (List.mem_of_getElem? (i := 26) rfl))) (hw _ (List.mem_of_getElem? (i := 1) rfl)) (ty := .boolean) (by decide) (own_bn hp) (own_bf hp) (g := (mkF m 59 #[.val (.ref a1), .val (.int p1), .val (.int (1 : Int32))] [(.int p1), (.ref a1)])) rfl rfl (hb hby d2_59)
        have N27 := Fr.snoc X27 N16 gA
        have Z27 : n0 ≤ h27.size := Nat.le_trans Z16 (Keep.of_wr W27).1
        have F28 : Fld Z h27 a1 "com/example/outlier/outlier/health/HealthState" "healthyThreshold" "I" (.int hT) := (F17.other W27 (Or.inr (slot_ne (Or.inr (hw _ (List.mem_of_getElem? (i := 10) rfl))) (Or.inl (hw _ (List.mem_of_getElem? (i := 26) rfl))) (by decide) (t := .int) (t' := .boolean) (by decide) (by decide))))
        have F29 : Fld Z h27 a1 "com/example/outlier/outlier/health/HealthState" "unhealthyThreshold" "I" (.int uT) := (F18.other W27 (Or.inr (slot_ne (Or.inr (hw _ (List.mem_of_getElem? (i := 12) rfl))) (Or.inl (hw _ (List.mem_of_getElem? (i := 26) rfl))) (by decide) (t := .int) (t' := .boolean) (by decide) (by decide))))
        have F30 : Fld Z h27 a1 "com/example/outlier/outlier/health/HealthState" "healthy" "Z" (.int p1) := (F19.same W27)
        have F31 : Fld Z h27 a1 "com/example/outlier/outlier/health/HealthState" "against" "I" (.int (0 : Int32)) := (F20.other W27 (Or.inr (slot_ne (Or.inl (hw _ (List.mem_of_getElem? (i := 28) rfl))) (Or.inl (hw _ (List.mem_of_getElem? (i := 26) rfl))) (by decide) (t := .int) (t' := .boolean) (by decide) (by decide))))
        have E32 : Exa Z h27 a1 "com/example/outlier/outlier/health/HealthState" := (E21.wr W27)
        refine Gl.st (g' := (mkF m 62 #[.val (.ref a1), .val (.int p1), .val (.int (1 : Int32))] [])) st27 ?_
        refine Gl.st (g' := (mkF m 63 #[.val (.ref a1), .val (.int p1), .val (.int (1 : Int32))] [(.ref a1)])) (fun t k => XS.aloadN X27.here hx rfl (hb hby d2_62) rfl rfl k) ?_
        refine Gl.st (g' := (mkF m 64 #[.val (.ref a1), .val (.int p1), .val (.int (1 : Int32))] [(.int (0 : Int32)), (.ref a1)])) (fun t k => XT.iconstV X27.here hx rfl (0 : Int32) (hb hby d2_63) rfl k) ?_
        obtain ⟨T33, h33, X33, e33, W33, st33⟩ := putF X27 hx hZ hown (host := "") (Or.inl (hw _ (List.mem_of_getElem? (i := 27) rfl))) Via.refl e27 F31 E32 (Or.inl (hw _ (List.mem_of_getElem? (i := 28) rfl))) (hw _ (List.mem_of_getElem? (i := 1) rfl)) (ty := .int) (by decide) rfl rfl (g := (mkF m 64 #[.val (.ref a1), .val (.int p1), .val (.int (1 : Int32))] [(.int (0 : Int32)), (.ref a1)])) rfl rfl (hb hby d2_64)
        have N33 := Fr.snoc X33 N27 gA
        have Z33 : n0 ≤ h33.size := Nat.le_trans Z27 (Keep.of_wr W33).1
        have F34 : Fld Z h33 a1 "com/example/outlier/outlier/health/HealthState" "healthyThreshold" "I" (.int hT) := (F28.other W33 (Or.inr (slot_ne (Or.inr (hw _ (List.mem_of_getElem? (i := 10) rfl))) (Or.inl (hw _ (List.mem_of_getElem? (i := 28) rfl))) (by decide) (t := .int) (t' := .int) (by decide) (by decide))))
        have F35 : Fld Z h33 a1 "com/example/outlier/outlier/health/HealthState" "unhealthyThreshold" "I" (.int uT) := (F29.other W33 (Or.inr (slot_ne (Or.inr (hw _ (List.mem_of_getElem? (i := 12) rfl))) (Or.inl (hw _ (List.mem_of_getElem? (i := 28) rfl))) (by decide) (t := .int) (t' := .int) (by decide) (by decide))))
        have F36 : Fld Z h33 a1 "com/example/outlier/outlier/health/HealthState" "healthy" "Z" (.int p1) := (F30.other W33 (Or.inr (slot_ne (Or.inl (hw _ (List.mem_of_getElem? (i := 26) rfl))) (Or.inl (hw _ (List.mem_of_getElem? (i := 28) rfl))) (by decide) (t := .boolean) (t' := .int) (by decide) (by decide))))
        have F37 : Fld Z h33 a1 "com/example/outlier/outlier/health/HealthState" "against" "I" (.int (0 : Int32)) := (F31.same W33)
        have E38 : Exa Z h33 a1 "com/example/outlier/outlier/health/HealthState" := (E32.wr W33)
        refine Gl.st (g' := (mkF m 67 #[.val (.ref a1), .val (.int p1), .val (.int (1 : Int32))] [])) st33 ?_
        refine Gl.st (g' := (mkF m 68 #[.val (.ref a1), .val (.int p1), .val (.int (1 : Int32))] [(.int (1 : Int32))])) (fun t k => XS.iloadN X33.here hx rfl (hb hby d2_67) rfl k) ?_
        refine Gl.retZ X33 hx hlk .boolean (by simp) Bd.returns (hb hby d2_68) e33 (by decide) (by decide) ?_
        have ep : own_pr hT uT hl ag p1 = ((1 : Int32), p1, (0 : Int32)) := by
          unfold own_pr
          rw [if_pos c15, if_pos c24, if_neg c26]
        rw [Q2, ep, own_z1]
        exact ⟨rfl, N33, Z33, E38, F34, F35, F36, F37⟩
    · skip
      refine Gl.st (g' := (mkF m 33 #[.val (.ref a1), .val (.int p1), .unset] [(.int (0 : Int32))])) (fun t k => XS.ifNo X23.here hx rfl (hb hby d2_30) rfl (XT.i0_eq_f c24) k) ?_
      refine Gl.st (g' := (mkF m 34 #[.val (.ref a1), .val (.int p1), .unset] [(.ref a1), (.int (0 : Int32))])) (fun t k => XS.aloadN X23.here hx rfl (hb hby d2_33) rfl rfl k) ?_
      obtain ⟨T39, X39, e39, st39⟩ := getF X23 hx hZ hown (host := "") (Or.inl (hw _ (List.mem_of_getElem? (i := 11) rfl))) Via.refl e23 F18 (g := (mkF m 34 #[.val (.ref a1), .val (.int p1), .unset] [(.ref a1), (.int (0 : Int32))])) rfl rfl (hb hby d2_34)
      refine Gl.st (g' := (mkF m 37 #[.val (.ref a1), .val (.int p1), .unset] [(.int uT), (.int (0 : Int32))])) st39 ?_
      refine Gl.st (g' := (mkF m 44 #[.val (.ref a1), .val (.int p1), .unset] [(.int uT), (.int (0 : Int32))])) (fun t k => XS.goto X39.here hx rfl (pc0 := 37) (pc' := 44) rfl (hb hby d2_37) (by decide) (by decide) k) ?_
      by_cases c40 : (0 : Int32) < uT
      · skip
        refine Gl.st (g' := (mkF m 51 #[.val (.ref a1), .val (.int p1), .unset] [])) (fun t k => XS.icmpYes X39.here hx rfl (pc0 := 44) (pc' := 51) rfl (hb hby d2_44) rfl (XT.ii_lt_t c40) (by decide) (by decide) k) ?_
        refine Gl.st (g' := (mkF m 52 #[.val (.ref a1), .val (.int p1), .unset] [(.int (0 : Int32))])) (fun t k => XT.iconstV X39.here hx rfl (0 : Int32) (hb hby d2_51) rfl k) ?_
        refine Gl.st (g' := (mkF m 53 #[.val (.ref a1), .val (.int p1), .val (.int (0 : Int32))] [])) (fun t k => XS.istoreN X39.here hx rfl (hb hby d2_52) rfl (l' := #[.val (.ref a1), .val (.int p1), .val (.int (0 : Int32))]) rfl k) ?_
        refine Gl.st (g' := (mkF m 54 #[.val (.ref a1), .val (.int p1), .val (.int (0 : Int32))] [(.int (0 : Int32))])) (fun t k => XS.iloadN X39.here hx rfl (hb hby d2_53) rfl k) ?_
        refine Gl.st (g' := (mkF m 67 #[.val (.ref a1), .val (.int p1), .val (.int (0 : Int32))] [])) (fun t k => XS.ifYes X39.here hx rfl (pc0 := 54) (pc' := 67) rfl (hb hby d2_54) rfl (XT.i0_eq_t (by decide)) (by decide) (by decide) k) ?_
        refine Gl.st (g' := (mkF m 68 #[.val (.ref a1), .val (.int p1), .val (.int (0 : Int32))] [(.int (0 : Int32))])) (fun t k => XS.iloadN X39.here hx rfl (hb hby d2_67) rfl k) ?_
        refine Gl.retZ X39 hx hlk .boolean (by simp) Bd.returns (hb hby d2_68) e39 (by decide) (by decide) ?_
        have ep : own_pr hT uT hl ag p1 = ((0 : Int32), hl, (0 : Int32)) := by
          unfold own_pr
          rw [if_pos c15, if_neg c24, if_pos c40]
        rw [Q2, ep, own_z0]
        exact ⟨rfl, N16, Z16, E21, F17, F18, F19, F20⟩
      · skip
        refine Gl.st (g' := (mkF m 47 #[.val (.ref a1), .val (.int p1), .unset] [])) (fun t k => XS.icmpNo X39.here hx rfl (hb hby d2_44) rfl (XT.ii_lt_f c40) k) ?_
        refine Gl.st (g' := (mkF m 48 #[.val (.ref a1), .val (.int p1), .unset] [(.int (1 : Int32))])) (fun t k => XT.iconstV X39.here hx rfl (1 : Int32) (hb hby d2_47) rfl k) ?_
        refine Gl.st (g' := (mkF m 52 #[.val (.ref a1), .val (.int p1), .unset] [(.int (1 : Int32))])) (fun t k => XS.goto X39.here hx rfl (pc0 := 48) (pc' := 52) rfl (hb hby d2_48) (by decide) (by decide) k) ?_
        refine Gl.st (g' := (mkF m 53 #[.val (.ref a1), .val (.int p1), .val (.int (1 : Int32))] [])) (fun t k => XS.istoreN X39.here hx rfl (hb hby d2_52) rfl (l' := #[.val (.ref a1), .val (.int p1), .val (.int (1 : Int32))]) rfl k) ?_
        refine Gl.st (g' := (mkF m 54 #[.val (.ref a1), .val (.int p1), .val (.int (1 : Int32))] [(.int (1 : Int32))])) (fun t k => XS.iloadN X39.here hx rfl (hb hby d2_53) rfl k) ?_
        refine Gl.st (g' := (mkF m 57 #[.val (.ref a1), .val (.int p1), .val (.int (1 : Int32))] [])) (fun t k => XS.ifNo X39.here hx rfl (hb hby d2_54) rfl (XT.i0_eq_f (by decide)) k) ?_
        refine Gl.st (g' := (mkF m 58 #[.val (.ref a1), .val (.int p1), .val (.int (1 : Int32))] [(.ref a1)])) (fun t k => XS.aloadN X39.here hx rfl (hb hby d2_57) rfl rfl k) ?_
        refine Gl.st (g' := (mkF m 59 #[.val (.ref a1), .val (.int p1), .val (.int (1 : Int32))] [(.int p1), (.ref a1)])) (fun t k => XS.iloadN X39.here hx rfl (hb hby d2_58) rfl k) ?_
        obtain ⟨T41, h41, X41, e41, W41, st41⟩ := putF X39 hx hZ hown (host := "") (Or.inl (hw _ (List.mem_of_getElem? (i := 25) rfl))) Via.refl e39 F19 E21 (Or.inl (hw _ (List.mem_of_getElem? (i := 26) rfl))) (hw _ (List.mem_of_getElem? (i := 1) rfl)) (ty := .boolean) (by decide) (own_bn hp) (own_bf hp) (g := (mkF m 59 #[.val (.ref a1), .val (.int p1), .val (.int (1 : Int32))] [(.int p1), (.ref a1)])) rfl rfl (hb hby d2_59)
        have N41 := Fr.snoc X41 N16 gA
        have Z41 : n0 ≤ h41.size := Nat.le_trans Z16 (Keep.of_wr W41).1
        have F42 : Fld Z h41 a1 "com/example/outlier/outlier/health/HealthState" "healthyThreshold" "I" (.int hT) := (F17.other W41 (Or.inr (slot_ne (Or.inr (hw _ (List.mem_of_getElem? (i := 10) rfl))) (Or.inl (hw _ (List.mem_of_getElem? (i := 26) rfl))) (by decide) (t := .int) (t' := .boolean) (by decide) (by decide))))
        have F43 : Fld Z h41 a1 "com/example/outlier/outlier/health/HealthState" "unhealthyThreshold" "I" (.int uT) := (F18.other W41 (Or.inr (slot_ne (Or.inr (hw _ (List.mem_of_getElem? (i := 12) rfl))) (Or.inl (hw _ (List.mem_of_getElem? (i := 26) rfl))) (by decide) (t := .int) (t' := .boolean) (by decide) (by decide))))
        have F44 : Fld Z h41 a1 "com/example/outlier/outlier/health/HealthState" "healthy" "Z" (.int p1) := (F19.same W41)
        have F45 : Fld Z h41 a1 "com/example/outlier/outlier/health/HealthState" "against" "I" (.int (0 : Int32)) := (F20.other W41 (Or.inr (slot_ne (Or.inl (hw _ (List.mem_of_getElem? (i := 28) rfl))) (Or.inl (hw _ (List.mem_of_getElem? (i := 26) rfl))) (by decide) (t := .int) (t' := .boolean) (by decide) (by decide))))
        have E46 : Exa Z h41 a1 "com/example/outlier/outlier/health/HealthState" := (E21.wr W41)
        refine Gl.st (g' := (mkF m 62 #[.val (.ref a1), .val (.int p1), .val (.int (1 : Int32))] [])) st41 ?_
        refine Gl.st (g' := (mkF m 63 #[.val (.ref a1), .val (.int p1), .val (.int (1 : Int32))] [(.ref a1)])) (fun t k => XS.aloadN X41.here hx rfl (hb hby d2_62) rfl rfl k) ?_
        refine Gl.st (g' := (mkF m 64 #[.val (.ref a1), .val (.int p1), .val (.int (1 : Int32))] [(.int (0 : Int32)), (.ref a1)])) (fun t k => XT.iconstV X41.here hx rfl (0 : Int32) (hb hby d2_63) rfl k) ?_
        obtain ⟨T47, h47, X47, e47, W47, st47⟩ := putF X41 hx hZ hown (host := "") (Or.inl (hw _ (List.mem_of_getElem? (i := 27) rfl))) Via.refl e41 F45 E46 (Or.inl (hw _ (List.mem_of_getElem? (i := 28) rfl))) (hw _ (List.mem_of_getElem? (i := 1) rfl)) (ty := .int) (by decide) rfl rfl (g := (mkF m 64 #[.val (.ref a1), .val (.int p1), .val (.int (1 : Int32))] [(.int (0 : Int32)), (.ref a1)])) rfl rfl (hb hby d2_64)
        have N47 := Fr.snoc X47 N41 gA
        have Z47 : n0 ≤ h47.size := Nat.le_trans Z41 (Keep.of_wr W47).1
        have F48 : Fld Z h47 a1 "com/example/outlier/outlier/health/HealthState" "healthyThreshold" "I" (.int hT) := (F42.other W47 (Or.inr (slot_ne (Or.inr (hw _ (List.mem_of_getElem? (i := 10) rfl))) (Or.inl (hw _ (List.mem_of_getElem? (i := 28) rfl))) (by decide) (t := .int) (t' := .int) (by decide) (by decide))))
        have F49 : Fld Z h47 a1 "com/example/outlier/outlier/health/HealthState" "unhealthyThreshold" "I" (.int uT) := (F43.other W47 (Or.inr (slot_ne (Or.inr (hw _ (List.mem_of_getElem? (i := 12) rfl))) (Or.inl (hw _ (List.mem_of_getElem? (i := 28) rfl))) (by decide) (t := .int) (t' := .int) (by decide) (by decide))))
        have F50 : Fld Z h47 a1 "com/example/outlier/outlier/health/HealthState" "healthy" "Z" (.int p1) := (F44.other W47 (Or.inr (slot_ne (Or.inl (hw _ (List.mem_of_getElem? (i := 26) rfl))) (Or.inl (hw _ (List.mem_of_getElem? (i := 28) rfl))) (by decide) (t := .boolean) (t' := .int) (by decide) (by decide))))
        have F51 : Fld Z h47 a1 "com/example/outlier/outlier/health/HealthState" "against" "I" (.int (0 : Int32)) := (F45.same W47)
        have E52 : Exa Z h47 a1 "com/example/outlier/outlier/health/HealthState" := (E46.wr W47)
        refine Gl.st (g' := (mkF m 67 #[.val (.ref a1), .val (.int p1), .val (.int (1 : Int32))] [])) st47 ?_
        refine Gl.st (g' := (mkF m 68 #[.val (.ref a1), .val (.int p1), .val (.int (1 : Int32))] [(.int (1 : Int32))])) (fun t k => XS.iloadN X47.here hx rfl (hb hby d2_67) rfl k) ?_
        refine Gl.retZ X47 hx hlk .boolean (by simp) Bd.returns (hb hby d2_68) e47 (by decide) (by decide) ?_
        have ep : own_pr hT uT hl ag p1 = ((1 : Int32), p1, (0 : Int32)) := by
          unfold own_pr
          rw [if_pos c15, if_neg c24, if_neg c40]
        rw [Q2, ep, own_z1]
        exact ⟨rfl, N47, Z47, E52, F48, F49, F50, F51⟩
  · skip
    refine Gl.st (g' := (mkF m 13 #[.val (.ref a1), .val (.int p1), .unset] [(.ref a1)])) (fun t k => XS.icmpYes X14.here hx rfl (pc0 := 6) (pc' := 13) rfl (hb hby d2_6) rfl (XT.ii_ne_t c15) (by decide) (by decide) k) ?_
    refine Gl.st (g' := (mkF m 14 #[.val (.ref a1), .val (.int p1), .unset] [(.ref a1), (.ref a1)])) (fun t k => XS.aloadN X14.here hx rfl (hb hby d2_13) rfl rfl k) ?_
    obtain ⟨T53, X53, e53, st53⟩ := getF X14 hx hZ hown (host := "") (Or.inl (hw _ (List.mem_of_getElem? (i := 27) rfl))) Via.refl e14 Fagainst (g := (mkF m 14 #[.val (.ref a1), .val (.int p1), .unset] [(.ref a1), (.ref a1)])) rfl rfl (hb hby d2_14)
    refine Gl.st (g' := (mkF m 17 #[.val (.ref a1), .val (.int p1), .unset] [(.int ag), (.ref a1)])) st53 ?_
    refine Gl.st (g' := (mkF m 18 #[.val (.ref a1), .val (.int p1), .unset] [(.int (1 : Int32)), (.int ag), (.ref a1)])) (fun t k => XT.iconstV X53.here hx rfl (1 : Int32) (hb hby d2_17) rfl k) ?_
    refine Gl.st (g' := (mkF m 19 #[.val (.ref a1), .val (.int p1), .unset] [(.int (ag + (1 : Int32))), (.ref a1)])) (fun t k => XS.iadd X53.here hx rfl (hb hby d2_18) rfl k) ?_
    obtain ⟨T54, h54, X54, e54, W54, st54⟩ := putF X53 hx hZ hown (host := "") (Or.inl (hw _ (List.mem_of_getElem? (i := 27) rfl))) Via.refl e53 Fagainst EX (Or.inl (hw _ (List.mem_of_getElem? (i := 28) rfl))) (hw _ (List.mem_of_getElem? (i := 1) rfl)) (ty := .int) (by decide) rfl rfl (g := (mkF m 19 #[.val (.ref a1), .val (.int p1), .unset] [(.int (ag + (1 : Int32))), (.ref a1)])) rfl rfl (hb hby d2_19)
    have N54 := Fr.snoc X54 N0 gA
    have Z54 : n0 ≤ h54.size := Nat.le_trans Z0 (Keep.of_wr W54).1
    have F55 : Fld Z h54 a1 "com/example/outlier/outlier/health/HealthState" "healthyThreshold" "I" (.int hT) := (FhealthyThreshold.other W54 (Or.inr (slot_ne (Or.inr (hw _ (List.mem_of_getElem? (i := 10) rfl))) (Or.inl (hw _ (List.mem_of_getElem? (i := 28) rfl))) (by decide) (t := .int) (t' := .int) (by decide) (by decide))))
    have F56 : Fld Z h54 a1 "com/example/outlier/outlier/health/HealthState" "unhealthyThreshold" "I" (.int uT) := (FunhealthyThreshold.other W54 (Or.inr (slot_ne (Or.inr (hw _ (List.mem_of_getElem? (i := 12) rfl))) (Or.inl (hw _ (List.mem_of_getElem? (i := 28) rfl))) (by decide) (t := .int) (t' := .int) (by decide) (by decide))))
    have F57 : Fld Z h54 a1 "com/example/outlier/outlier/health/HealthState" "healthy" "Z" (.int hl) := (Fhealthy.other W54 (Or.inr (slot_ne (Or.inl (hw _ (List.mem_of_getElem? (i := 26) rfl))) (Or.inl (hw _ (List.mem_of_getElem? (i := 28) rfl))) (by decide) (t := .boolean) (t' := .int) (by decide) (by decide))))
    have F58 : Fld Z h54 a1 "com/example/outlier/outlier/health/HealthState" "against" "I" (.int (ag + (1 : Int32))) := (Fagainst.same W54)
    have E59 : Exa Z h54 a1 "com/example/outlier/outlier/health/HealthState" := (EX.wr W54)
    refine Gl.st (g' := (mkF m 22 #[.val (.ref a1), .val (.int p1), .unset] [])) st54 ?_
    refine Gl.st (g' := (mkF m 23 #[.val (.ref a1), .val (.int p1), .unset] [(.ref a1)])) (fun t k => XS.aloadN X54.here hx rfl (hb hby d2_22) rfl rfl k) ?_
    obtain ⟨T60, X60, e60, st60⟩ := getF X54 hx hZ hown (host := "") (Or.inl (hw _ (List.mem_of_getElem? (i := 27) rfl))) Via.refl e54 F58 (g := (mkF m 23 #[.val (.ref a1), .val (.int p1), .unset] [(.ref a1)])) rfl rfl (hb hby d2_23)
    refine Gl.st (g' := (mkF m 26 #[.val (.ref a1), .val (.int p1), .unset] [(.int (ag + (1 : Int32)))])) st60 ?_
    refine Gl.st (g' := (mkF m 27 #[.val (.ref a1), .val (.int p1), .unset] [(.ref a1), (.int (ag + (1 : Int32)))])) (fun t k => XS.aloadN X60.here hx rfl (hb hby d2_26) rfl rfl k) ?_
    obtain ⟨T61, X61, e61, st61⟩ := getF X60 hx hZ hown (host := "") (Or.inl (hw _ (List.mem_of_getElem? (i := 25) rfl))) Via.refl e60 F57 (g := (mkF m 27 #[.val (.ref a1), .val (.int p1), .unset] [(.ref a1), (.int (ag + (1 : Int32)))])) rfl rfl (hb hby d2_27)
    refine Gl.st (g' := (mkF m 30 #[.val (.ref a1), .val (.int p1), .unset] [(.int hl), (.int (ag + (1 : Int32)))])) st61 ?_
    by_cases c62 : hl = (0 : Int32)
    · skip
      refine Gl.st (g' := (mkF m 40 #[.val (.ref a1), .val (.int p1), .unset] [(.int (ag + (1 : Int32)))])) (fun t k => XS.ifYes X61.here hx rfl (pc0 := 30) (pc' := 40) rfl (hb hby d2_30) rfl (XT.i0_eq_t c62) (by decide) (by decide) k) ?_
      refine Gl.st (g' := (mkF m 41 #[.val (.ref a1), .val (.int p1), .unset] [(.ref a1), (.int (ag + (1 : Int32)))])) (fun t k => XS.aloadN X61.here hx rfl (hb hby d2_40) rfl rfl k) ?_
      obtain ⟨T63, X63, e63, st63⟩ := getF X61 hx hZ hown (host := "") (Or.inl (hw _ (List.mem_of_getElem? (i := 9) rfl))) Via.refl e61 F55 (g := (mkF m 41 #[.val (.ref a1), .val (.int p1), .unset] [(.ref a1), (.int (ag + (1 : Int32)))])) rfl rfl (hb hby d2_41)
      refine Gl.st (g' := (mkF m 44 #[.val (.ref a1), .val (.int p1), .unset] [(.int hT), (.int (ag + (1 : Int32)))])) st63 ?_
      by_cases c64 : (ag + (1 : Int32)) < hT
      · skip
        refine Gl.st (g' := (mkF m 51 #[.val (.ref a1), .val (.int p1), .unset] [])) (fun t k => XS.icmpYes X63.here hx rfl (pc0 := 44) (pc' := 51) rfl (hb hby d2_44) rfl (XT.ii_lt_t c64) (by decide) (by decide) k) ?_
        refine Gl.st (g' := (mkF m 52 #[.val (.ref a1), .val (.int p1), .unset] [(.int (0 : Int32))])) (fun t k => XT.iconstV X63.here hx rfl (0 : Int32) (hb hby d2_51) rfl k) ?_
        refine Gl.st (g' := (mkF m 53 #[.val (.ref a1), .val (.int p1), .val (.int (0 : Int32))] [])) (fun t k => XS.istoreN X63.here hx rfl (hb hby d2_52) rfl (l' := #[.val (.ref a1), .val (.int p1), .val (.int (0 : Int32))]) rfl k) ?_
        refine Gl.st (g' := (mkF m 54 #[.val (.ref a1), .val (.int p1), .val (.int (0 : Int32))] [(.int (0 : Int32))])) (fun t k => XS.iloadN X63.here hx rfl (hb hby d2_53) rfl k) ?_
        refine Gl.st (g' := (mkF m 67 #[.val (.ref a1), .val (.int p1), .val (.int (0 : Int32))] [])) (fun t k => XS.ifYes X63.here hx rfl (pc0 := 54) (pc' := 67) rfl (hb hby d2_54) rfl (XT.i0_eq_t (by decide)) (by decide) (by decide) k) ?_
        refine Gl.st (g' := (mkF m 68 #[.val (.ref a1), .val (.int p1), .val (.int (0 : Int32))] [(.int (0 : Int32))])) (fun t k => XS.iloadN X63.here hx rfl (hb hby d2_67) rfl k) ?_
        refine Gl.retZ X63 hx hlk .boolean (by simp) Bd.returns (hb hby d2_68) e63 (by decide) (by decide) ?_
        have ep : own_pr hT uT hl ag p1 = ((0 : Int32), hl, (ag + (1 : Int32))) := by
          unfold own_pr
          rw [if_neg c15, if_pos c62, if_pos c64]
        rw [Q2, ep, own_z0]
        exact ⟨rfl, N54, Z54, E59, F55, F56, F57, F58⟩
      · skip
        refine Gl.st (g' := (mkF m 47 #[.val (.ref a1), .val (.int p1), .unset] [])) (fun t k => XS.icmpNo X63.here hx rfl (hb hby d2_44) rfl (XT.ii_lt_f c64) k) ?_
        refine Gl.st (g' := (mkF m 48 #[.val (.ref a1), .val (.int p1), .unset] [(.int (1 : Int32))])) (fun t k => XT.iconstV X63.here hx rfl (1 : Int32) (hb hby d2_47) rfl k) ?_
        refine Gl.st (g' := (mkF m 52 #[.val (.ref a1), .val (.int p1), .unset] [(.int (1 : Int32))])) (fun t k => XS.goto X63.here hx rfl (pc0 := 48) (pc' := 52) rfl (hb hby d2_48) (by decide) (by decide) k) ?_
        refine Gl.st (g' := (mkF m 53 #[.val (.ref a1), .val (.int p1), .val (.int (1 : Int32))] [])) (fun t k => XS.istoreN X63.here hx rfl (hb hby d2_52) rfl (l' := #[.val (.ref a1), .val (.int p1), .val (.int (1 : Int32))]) rfl k) ?_
        refine Gl.st (g' := (mkF m 54 #[.val (.ref a1), .val (.int p1), .val (.int (1 : Int32))] [(.int (1 : Int32))])) (fun t k => XS.iloadN X63.here hx rfl (hb hby d2_53) rfl k) ?_
        refine Gl.st (g' := (mkF m 57 #[.val (.ref a1), .val (.int p1), .val (.int (1 : Int32))] [])) (fun t k => XS.ifNo X63.here hx rfl (hb hby d2_54) rfl (XT.i0_eq_f (by decide)) k) ?_
        refine Gl.st (g' := (mkF m 58 #[.val (.ref a1), .val (.int p1), .val (.int (1 : Int32))] [(.ref a1)])) (fun t k => XS.aloadN X63.here hx rfl (hb hby d2_57) rfl rfl k) ?_
        refine Gl.st (g' := (mkF m 59 #[.val (.ref a1), .val (.int p1), .val (.int (1 : Int32))] [(.int p1), (.ref a1)])) (fun t k => XS.iloadN X63.here hx rfl (hb hby d2_58) rfl k) ?_
        obtain ⟨T65, h65, X65, e65, W65, st65⟩ := putF X63 hx hZ hown (host := "") (Or.inl (hw _ (List.mem_of_getElem? (i := 25) rfl))) Via.refl e63 F57 E59 (Or.inl (hw _ (List.mem_of_getElem? (i := 26) rfl))) (hw _ (List.mem_of_getElem? (i := 1) rfl)) (ty := .boolean) (by decide) (own_bn hp) (own_bf hp) (g := (mkF m 59 #[.val (.ref a1), .val (.int p1), .val (.int (1 : Int32))] [(.int p1), (.ref a1)])) rfl rfl (hb hby d2_59)
        have N65 := Fr.snoc X65 N54 gA
        have Z65 : n0 ≤ h65.size := Nat.le_trans Z54 (Keep.of_wr W65).1
        have F66 : Fld Z h65 a1 "com/example/outlier/outlier/health/HealthState" "healthyThreshold" "I" (.int hT) := (F55.other W65 (Or.inr (slot_ne (Or.inr (hw _ (List.mem_of_getElem? (i := 10) rfl))) (Or.inl (hw _ (List.mem_of_getElem? (i := 26) rfl))) (by decide) (t := .int) (t' := .boolean) (by decide) (by decide))))
        have F67 : Fld Z h65 a1 "com/example/outlier/outlier/health/HealthState" "unhealthyThreshold" "I" (.int uT) := (F56.other W65 (Or.inr (slot_ne (Or.inr (hw _ (List.mem_of_getElem? (i := 12) rfl))) (Or.inl (hw _ (List.mem_of_getElem? (i := 26) rfl))) (by decide) (t := .int) (t' := .boolean) (by decide) (by decide))))
        have F68 : Fld Z h65 a1 "com/example/outlier/outlier/health/HealthState" "healthy" "Z" (.int p1) := (F57.same W65)
        have F69 : Fld Z h65 a1 "com/example/outlier/outlier/health/HealthState" "against" "I" (.int (ag + (1 : Int32))) := (F58.other W65 (Or.inr (slot_ne (Or.inl (hw _ (List.mem_of_getElem? (i := 28) rfl))) (Or.inl (hw _ (List.mem_of_getElem? (i := 26) rfl))) (by decide) (t := .int) (t' := .boolean) (by decide) (by decide))))
        have E70 : Exa Z h65 a1 "com/example/outlier/outlier/health/HealthState" := (E59.wr W65)
        refine Gl.st (g' := (mkF m 62 #[.val (.ref a1), .val (.int p1), .val (.int (1 : Int32))] [])) st65 ?_
        refine Gl.st (g' := (mkF m 63 #[.val (.ref a1), .val (.int p1), .val (.int (1 : Int32))] [(.ref a1)])) (fun t k => XS.aloadN X65.here hx rfl (hb hby d2_62) rfl rfl k) ?_
        refine Gl.st (g' := (mkF m 64 #[.val (.ref a1), .val (.int p1), .val (.int (1 : Int32))] [(.int (0 : Int32)), (.ref a1)])) (fun t k => XT.iconstV X65.here hx rfl (0 : Int32) (hb hby d2_63) rfl k) ?_
        obtain ⟨T71, h71, X71, e71, W71, st71⟩ := putF X65 hx hZ hown (host := "") (Or.inl (hw _ (List.mem_of_getElem? (i := 27) rfl))) Via.refl e65 F69 E70 (Or.inl (hw _ (List.mem_of_getElem? (i := 28) rfl))) (hw _ (List.mem_of_getElem? (i := 1) rfl)) (ty := .int) (by decide) rfl rfl (g := (mkF m 64 #[.val (.ref a1), .val (.int p1), .val (.int (1 : Int32))] [(.int (0 : Int32)), (.ref a1)])) rfl rfl (hb hby d2_64)
        have N71 := Fr.snoc X71 N65 gA
        have Z71 : n0 ≤ h71.size := Nat.le_trans Z65 (Keep.of_wr W71).1
        have F72 : Fld Z h71 a1 "com/example/outlier/outlier/health/HealthState" "healthyThreshold" "I" (.int hT) := (F66.other W71 (Or.inr (slot_ne (Or.inr (hw _ (List.mem_of_getElem? (i := 10) rfl))) (Or.inl (hw _ (List.mem_of_getElem? (i := 28) rfl))) (by decide) (t := .int) (t' := .int) (by decide) (by decide))))
        have F73 : Fld Z h71 a1 "com/example/outlier/outlier/health/HealthState" "unhealthyThreshold" "I" (.int uT) := (F67.other W71 (Or.inr (slot_ne (Or.inr (hw _ (List.mem_of_getElem? (i := 12) rfl))) (Or.inl (hw _ (List.mem_of_getElem? (i := 28) rfl))) (by decide) (t := .int) (t' := .int) (by decide) (by decide))))
        have F74 : Fld Z h71 a1 "com/example/outlier/outlier/health/HealthState" "healthy" "Z" (.int p1) := (F68.other W71 (Or.inr (slot_ne (Or.inl (hw _ (List.mem_of_getElem? (i := 26) rfl))) (Or.inl (hw _ (List.mem_of_getElem? (i := 28) rfl))) (by decide) (t := .boolean) (t' := .int) (by decide) (by decide))))
        have F75 : Fld Z h71 a1 "com/example/outlier/outlier/health/HealthState" "against" "I" (.int (0 : Int32)) := (F69.same W71)
        have E76 : Exa Z h71 a1 "com/example/outlier/outlier/health/HealthState" := (E70.wr W71)
        refine Gl.st (g' := (mkF m 67 #[.val (.ref a1), .val (.int p1), .val (.int (1 : Int32))] [])) st71 ?_
        refine Gl.st (g' := (mkF m 68 #[.val (.ref a1), .val (.int p1), .val (.int (1 : Int32))] [(.int (1 : Int32))])) (fun t k => XS.iloadN X71.here hx rfl (hb hby d2_67) rfl k) ?_
        refine Gl.retZ X71 hx hlk .boolean (by simp) Bd.returns (hb hby d2_68) e71 (by decide) (by decide) ?_
        have ep : own_pr hT uT hl ag p1 = ((1 : Int32), p1, (0 : Int32)) := by
          unfold own_pr
          rw [if_neg c15, if_pos c62, if_neg c64]
        rw [Q2, ep, own_z1]
        exact ⟨rfl, N71, Z71, E76, F72, F73, F74, F75⟩
    · skip
      refine Gl.st (g' := (mkF m 33 #[.val (.ref a1), .val (.int p1), .unset] [(.int (ag + (1 : Int32)))])) (fun t k => XS.ifNo X61.here hx rfl (hb hby d2_30) rfl (XT.i0_eq_f c62) k) ?_
      refine Gl.st (g' := (mkF m 34 #[.val (.ref a1), .val (.int p1), .unset] [(.ref a1), (.int (ag + (1 : Int32)))])) (fun t k => XS.aloadN X61.here hx rfl (hb hby d2_33) rfl rfl k) ?_
      obtain ⟨T77, X77, e77, st77⟩ := getF X61 hx hZ hown (host := "") (Or.inl (hw _ (List.mem_of_getElem? (i := 11) rfl))) Via.refl e61 F56 (g := (mkF m 34 #[.val (.ref a1), .val (.int p1), .unset] [(.ref a1), (.int (ag + (1 : Int32)))])) rfl rfl (hb hby d2_34)
      refine Gl.st (g' := (mkF m 37 #[.val (.ref a1), .val (.int p1), .unset] [(.int uT), (.int (ag + (1 : Int32)))])) st77 ?_
      refine Gl.st (g' := (mkF m 44 #[.val (.ref a1), .val (.int p1), .unset] [(.int uT), (.int (ag + (1 : Int32)))])) (fun t k => XS.goto X77.here hx rfl (pc0 := 37) (pc' := 44) rfl (hb hby d2_37) (by decide) (by decide) k) ?_
      by_cases c78 : (ag + (1 : Int32)) < uT
      · skip
        refine Gl.st (g' := (mkF m 51 #[.val (.ref a1), .val (.int p1), .unset] [])) (fun t k => XS.icmpYes X77.here hx rfl (pc0 := 44) (pc' := 51) rfl (hb hby d2_44) rfl (XT.ii_lt_t c78) (by decide) (by decide) k) ?_
        refine Gl.st (g' := (mkF m 52 #[.val (.ref a1), .val (.int p1), .unset] [(.int (0 : Int32))])) (fun t k => XT.iconstV X77.here hx rfl (0 : Int32) (hb hby d2_51) rfl k) ?_
        refine Gl.st (g' := (mkF m 53 #[.val (.ref a1), .val (.int p1), .val (.int (0 : Int32))] [])) (fun t k => XS.istoreN X77.here hx rfl (hb hby d2_52) rfl (l' := #[.val (.ref a1), .val (.int p1), .val (.int (0 : Int32))]) rfl k) ?_
        refine Gl.st (g' := (mkF m 54 #[.val (.ref a1), .val (.int p1), .val (.int (0 : Int32))] [(.int (0 : Int32))])) (fun t k => XS.iloadN X77.here hx rfl (hb hby d2_53) rfl k) ?_
        refine Gl.st (g' := (mkF m 67 #[.val (.ref a1), .val (.int p1), .val (.int (0 : Int32))] [])) (fun t k => XS.ifYes X77.here hx rfl (pc0 := 54) (pc' := 67) rfl (hb hby d2_54) rfl (XT.i0_eq_t (by decide)) (by decide) (by decide) k) ?_
        refine Gl.st (g' := (mkF m 68 #[.val (.ref a1), .val (.int p1), .val (.int (0 : Int32))] [(.int (0 : Int32))])) (fun t k => XS.iloadN X77.here hx rfl (hb hby d2_67) rfl k) ?_
        refine Gl.retZ X77 hx hlk .boolean (by simp) Bd.returns (hb hby d2_68) e77 (by decide) (by decide) ?_
        have ep : own_pr hT uT hl ag p1 = ((0 : Int32), hl, (ag + (1 : Int32))) := by
          unfold own_pr
          rw [if_neg c15, if_neg c62, if_pos c78]
        rw [Q2, ep, own_z0]
        exact ⟨rfl, N54, Z54, E59, F55, F56, F57, F58⟩
      · skip
        refine Gl.st (g' := (mkF m 47 #[.val (.ref a1), .val (.int p1), .unset] [])) (fun t k => XS.icmpNo X77.here hx rfl (hb hby d2_44) rfl (XT.ii_lt_f c78) k) ?_
        refine Gl.st (g' := (mkF m 48 #[.val (.ref a1), .val (.int p1), .unset] [(.int (1 : Int32))])) (fun t k => XT.iconstV X77.here hx rfl (1 : Int32) (hb hby d2_47) rfl k) ?_
        refine Gl.st (g' := (mkF m 52 #[.val (.ref a1), .val (.int p1), .unset] [(.int (1 : Int32))])) (fun t k => XS.goto X77.here hx rfl (pc0 := 48) (pc' := 52) rfl (hb hby d2_48) (by decide) (by decide) k) ?_
        refine Gl.st (g' := (mkF m 53 #[.val (.ref a1), .val (.int p1), .val (.int (1 : Int32))] [])) (fun t k => XS.istoreN X77.here hx rfl (hb hby d2_52) rfl (l' := #[.val (.ref a1), .val (.int p1), .val (.int (1 : Int32))]) rfl k) ?_
        refine Gl.st (g' := (mkF m 54 #[.val (.ref a1), .val (.int p1), .val (.int (1 : Int32))] [(.int (1 : Int32))])) (fun t k => XS.iloadN X77.here hx rfl (hb hby d2_53) rfl k) ?_
        refine Gl.st (g' := (mkF m 57 #[.val (.ref a1), .val (.int p1), .val (.int (1 : Int32))] [])) (fun t k => XS.ifNo X77.here hx rfl (hb hby d2_54) rfl (XT.i0_eq_f (by decide)) k) ?_
        refine Gl.st (g' := (mkF m 58 #[.val (.ref a1), .val (.int p1), .val (.int (1 : Int32))] [(.ref a1)])) (fun t k => XS.aloadN X77.here hx rfl (hb hby d2_57) rfl rfl k) ?_
        refine Gl.st (g' := (mkF m 59 #[.val (.ref a1), .val (.int p1), .val (.int (1 : Int32))] [(.int p1), (.ref a1)])) (fun t k => XS.iloadN X77.here hx rfl (hb hby d2_58) rfl k) ?_
        obtain ⟨T79, h79, X79, e79, W79, st79⟩ := putF X77 hx hZ hown (host := "") (Or.inl (hw _ (List.mem_of_getElem? (i := 25) rfl))) Via.refl e77 F57 E59 (Or.inl (hw _ (List.mem_of_getElem? (i := 26) rfl))) (hw _ (List.mem_of_getElem? (i := 1) rfl)) (ty := .boolean) (by decide) (own_bn hp) (own_bf hp) (g := (mkF m 59 #[.val (.ref a1), .val (.int p1), .val (.int (1 : Int32))] [(.int p1), (.ref a1)])) rfl rfl (hb hby d2_59)
        have N79 := Fr.snoc X79 N54 gA
        have Z79 : n0 ≤ h79.size := Nat.le_trans Z54 (Keep.of_wr W79).1
        have F80 : Fld Z h79 a1 "com/example/outlier/outlier/health/HealthState" "healthyThreshold" "I" (.int hT) := (F55.other W79 (Or.inr (slot_ne (Or.inr (hw _ (List.mem_of_getElem? (i := 10) rfl))) (Or.inl (hw _ (List.mem_of_getElem? (i := 26) rfl))) (by decide) (t := .int) (t' := .boolean) (by decide) (by decide))))
        have F81 : Fld Z h79 a1 "com/example/outlier/outlier/health/HealthState" "unhealthyThreshold" "I" (.int uT) := (F56.other W79 (Or.inr (slot_ne (Or.inr (hw _ (List.mem_of_getElem? (i := 12) rfl))) (Or.inl (hw _ (List.mem_of_getElem? (i := 26) rfl))) (by decide) (t := .int) (t' := .boolean) (by decide) (by decide))))
        have F82 : Fld Z h79 a1 "com/example/outlier/outlier/health/HealthState" "healthy" "Z" (.int p1) := (F57.same W79)
        have F83 : Fld Z h79 a1 "com/example/outlier/outlier/health/HealthState" "against" "I" (.int (ag + (1 : Int32))) := (F58.other W79 (Or.inr (slot_ne (Or.inl (hw _ (List.mem_of_getElem? (i := 28) rfl))) (Or.inl (hw _ (List.mem_of_getElem? (i := 26) rfl))) (by decide) (t := .int) (t' := .boolean) (by decide) (by decide))))
        have E84 : Exa Z h79 a1 "com/example/outlier/outlier/health/HealthState" := (E59.wr W79)
        refine Gl.st (g' := (mkF m 62 #[.val (.ref a1), .val (.int p1), .val (.int (1 : Int32))] [])) st79 ?_
        refine Gl.st (g' := (mkF m 63 #[.val (.ref a1), .val (.int p1), .val (.int (1 : Int32))] [(.ref a1)])) (fun t k => XS.aloadN X79.here hx rfl (hb hby d2_62) rfl rfl k) ?_
        refine Gl.st (g' := (mkF m 64 #[.val (.ref a1), .val (.int p1), .val (.int (1 : Int32))] [(.int (0 : Int32)), (.ref a1)])) (fun t k => XT.iconstV X79.here hx rfl (0 : Int32) (hb hby d2_63) rfl k) ?_
        obtain ⟨T85, h85, X85, e85, W85, st85⟩ := putF X79 hx hZ hown (host := "") (Or.inl (hw _ (List.mem_of_getElem? (i := 27) rfl))) Via.refl e79 F83 E84 (Or.inl (hw _ (List.mem_of_getElem? (i := 28) rfl))) (hw _ (List.mem_of_getElem? (i := 1) rfl)) (ty := .int) (by decide) rfl rfl (g := (mkF m 64 #[.val (.ref a1), .val (.int p1), .val (.int (1 : Int32))] [(.int (0 : Int32)), (.ref a1)])) rfl rfl (hb hby d2_64)
        have N85 := Fr.snoc X85 N79 gA
        have Z85 : n0 ≤ h85.size := Nat.le_trans Z79 (Keep.of_wr W85).1
        have F86 : Fld Z h85 a1 "com/example/outlier/outlier/health/HealthState" "healthyThreshold" "I" (.int hT) := (F80.other W85 (Or.inr (slot_ne (Or.inr (hw _ (List.mem_of_getElem? (i := 10) rfl))) (Or.inl (hw _ (List.mem_of_getElem? (i := 28) rfl))) (by decide) (t := .int) (t' := .int) (by decide) (by decide))))
        have F87 : Fld Z h85 a1 "com/example/outlier/outlier/health/HealthState" "unhealthyThreshold" "I" (.int uT) := (F81.other W85 (Or.inr (slot_ne (Or.inr (hw _ (List.mem_of_getElem? (i := 12) rfl))) (Or.inl (hw _ (List.mem_of_getElem? (i := 28) rfl))) (by decide) (t := .int) (t' := .int) (by decide) (by decide))))
        have F88 : Fld Z h85 a1 "com/example/outlier/outlier/health/HealthState" "healthy" "Z" (.int p1) := (F82.other W85 (Or.inr (slot_ne (Or.inl (hw _ (List.mem_of_getElem? (i := 26) rfl))) (Or.inl (hw _ (List.mem_of_getElem? (i := 28) rfl))) (by decide) (t := .boolean) (t' := .int) (by decide) (by decide))))
        have F89 : Fld Z h85 a1 "com/example/outlier/outlier/health/HealthState" "against" "I" (.int (0 : Int32)) := (F83.same W85)
        have E90 : Exa Z h85 a1 "com/example/outlier/outlier/health/HealthState" := (E84.wr W85)
        refine Gl.st (g' := (mkF m 67 #[.val (.ref a1), .val (.int p1), .val (.int (1 : Int32))] [])) st85 ?_
        refine Gl.st (g' := (mkF m 68 #[.val (.ref a1), .val (.int p1), .val (.int (1 : Int32))] [(.int (1 : Int32))])) (fun t k => XS.iloadN X85.here hx rfl (hb hby d2_67) rfl k) ?_
        refine Gl.retZ X85 hx hlk .boolean (by simp) Bd.returns (hb hby d2_68) e85 (by decide) (by decide) ?_
        have ep : own_pr hT uT hl ag p1 = ((1 : Int32), p1, (0 : Int32)) := by
          unfold own_pr
          rw [if_neg c15, if_neg c62, if_neg c78]
        rw [Q2, ep, own_z1]
        exact ⟨rfl, N85, Z85, E90, F86, F87, F88, F89⟩
theorem d3_0 : decode prog_63_method_2_code 0 = .ok (.aload_n 0, 1) := by decide +kernel
theorem d3_1 : decode prog_63_method_2_code 1 = .ok (.getfield 16, 3) := by decide +kernel
theorem d3_4 : decode prog_63_method_2_code 4 = .ok (.ireturn, 1) := by decide +kernel
theorem ef_3 (m : MethodId) (a1 : Addr) : entryFrame m #[(.ref a1)] 1 = mkF m 0 #[.val (.ref a1)] [] := by first | (simp [entryFrame, mkF, argsToLocals, Value.category]; done) | rfl
def Q3 (Z : State) (a1 : Addr) (hl : Int32) (h0 : Heap) (n0 : Nat) (v : Option Value) (h : Heap) (L : List Loc) : Prop := v = some (.int (hl)) ∧ Fr n0 L ∧ h = h0
set_option maxRecDepth 65536 in
set_option maxHeartbeats 40000000 in
theorem rm3 (l : Launch) (Z : State) (a0 : Array Value) (hw : ∀ d ∈ tables_1, d.before a0 Z = true) (a1 : Addr) (hl : Int32) (h0 : Heap) (n0 : Nat) (Z0 : n0 ≤ h0.size) (Fhealthy : Fld Z h0 a1 "com/example/outlier/outlier/health/HealthState" "healthy" "Z" (.int hl)) (hp : hl = 0 ∨ hl = 1) :
    MetFree l (⟨"com/example/outlier/outlier/health/HealthState", "healthy", "()Z"⟩ : MethodName) (head1 [Jvm.Cond.code (⟨"com/example/outlier/outlier/health/HealthState", "healthy", "()Z"⟩ : MethodName) prog_63_method_2_code 1 (some .boolean)] ({ frames := 0, cells := 0, slots := 0, locals := 0 } : Room)) (fun a U => a = #[(.ref a1)] ∧ Z.Warmed39 U.vm ∧ U.heap = h0) (fun _ _ _ _ _ => True) (fun _ U o U' => ∃ v L, o = .returned v ∧ Q3 Z a1 hl h0 n0 v U'.heap L ∧ FrameEnd U o U' L ({ frames := 0, cells := 0, slots := 0, locals := 0 } : Room).cells ({ frames := 0, cells := 0, slots := 0, locals := 0 } : Room).slots) := by
  refine MetFree.of_bodySF (plainFor_of_name pn_0) hisR ?_
  intro p e s m args below meth c s₁ Bd hml0 hP hK
  obtain ⟨rfl, hZ, hh⟩ := hP
  have hx := Bd.exec
  have hby := Bd.bytes
  have hlk : meth.locks = false := Bd.notSynchronized
  have hml : c.maxLocals = 1 := hml0
  have hown : s.vm.findClass "com/example/outlier/outlier/health/HealthState" = some m.cls := findClass_of_methodNamed Bd.named
  have hnm := (name_of_methodNamed Bd.named Bd.method).1
  have X0 : Stand p l e ({ frames := 0, cells := 0, slots := 0, locals := 0 } : Room) s m #[(.ref a1)] below meth c s₁ [] 0 0 := Stand.of_body Bd
  have e0 : s₁.heap = h0 := by rw [← hh, Bd.state]; rfl
  have N0 := Fr.nil n0
  show Gl p e below s (Q3 Z a1 hl h0 n0) 0 0 s₁ (entryFrame m #[(.ref a1)] 1)
  rw [ef_3 m a1]
  refine Gl.st (g' := (mkF m 1 #[.val (.ref a1)] [(.ref a1)])) (fun t k => XS.aloadN X0.here hx rfl (hb hby d3_0) rfl rfl k) ?_
  obtain ⟨T91, X91, e91, st91⟩ := getF X0 hx hZ hown (host := "") (Or.inl (hw _ (List.mem_of_getElem? (i := 25) rfl))) Via.refl e0 Fhealthy (g := (mkF m 1 #[.val (.ref a1)] [(.ref a1)])) rfl rfl (hb hby d3_1)
  refine Gl.st (g' := (mkF m 4 #[.val (.ref a1)] [(.int hl)])) st91 ?_
  refine Gl.retZ X91 hx hlk .boolean (by simp) Bd.returns (hb hby d3_4) e91 (by decide) (by decide) ?_
  rw [Q3, own_bz hp]
  exact ⟨rfl, N0, rfl⟩
theorem d4_0 : decode method_2_code 0 = .ok (.iload_n 0, 1) := by decide +kernel
theorem d4_1 : decode method_2_code 1 = .ok (.iload_n 1, 1) := by decide +kernel
theorem d4_2 : decode method_2_code 2 = .ok (.ishr, 1) := by decide +kernel
theorem d4_3 : decode method_2_code 3 = .ok (.iconst 1, 1) := by decide +kernel
theorem d4_4 : decode method_2_code 4 = .ok (.iand, 1) := by decide +kernel
theorem d4_5 : decode method_2_code 5 = .ok (.ifCond .eq 7, 3) := by decide +kernel
theorem d4_8 : decode method_2_code 8 = .ok (.iconst 1, 1) := by decide +kernel
theorem d4_9 : decode method_2_code 9 = .ok (.goto 4, 3) := by decide +kernel
theorem d4_12 : decode method_2_code 12 = .ok (.iconst 0, 1) := by decide +kernel
theorem d4_13 : decode method_2_code 13 = .ok (.istore 5, 2) := by decide +kernel
theorem d4_15 : decode method_2_code 15 = .ok (.iload 5, 2) := by decide +kernel
theorem d4_17 : decode method_2_code 17 = .ok (.iload_n 2, 1) := by decide +kernel
theorem d4_18 : decode method_2_code 18 = .ok (.if_icmp .ne 5, 3) := by decide +kernel
theorem d4_21 : decode method_2_code 21 = .ok (.iconst 0, 1) := by decide +kernel
theorem d4_22 : decode method_2_code 22 = .ok (.ireturn, 1) := by decide +kernel
theorem d4_23 : decode method_2_code 23 = .ok (.iload_n 2, 1) := by decide +kernel
theorem d4_24 : decode method_2_code 24 = .ok (.ifCond .eq 8, 3) := by decide +kernel
theorem d4_27 : decode method_2_code 27 = .ok (.iload 4, 2) := by decide +kernel
theorem d4_29 : decode method_2_code 29 = .ok (.goto 4, 3) := by decide +kernel
theorem d4_32 : decode method_2_code 32 = .ok (.iload_n 3, 1) := by decide +kernel
theorem d4_33 : decode method_2_code 33 = .ok (.istore 6, 2) := by decide +kernel
theorem d4_35 : decode method_2_code 35 = .ok (.iload_n 1, 1) := by decide +kernel
theorem d4_36 : decode method_2_code 36 = .ok (.iconst 1, 1) := by decide +kernel
theorem d4_37 : decode method_2_code 37 = .ok (.iadd, 1) := by decide +kernel
theorem d4_38 : decode method_2_code 38 = .ok (.iload 6, 2) := by decide +kernel
theorem d4_40 : decode method_2_code 40 = .ok (.if_icmp .ge 5, 3) := by decide +kernel
theorem d4_43 : decode method_2_code 43 = .ok (.iconst 0, 1) := by decide +kernel
theorem d4_44 : decode method_2_code 44 = .ok (.ireturn, 1) := by decide +kernel
theorem d4_45 : decode method_2_code 45 = .ok (.iload 5, 2) := by decide +kernel
theorem d4_47 : decode method_2_code 47 = .ok (.ifCond .eq 7, 3) := by decide +kernel
theorem d4_50 : decode method_2_code 50 = .ok (.iload_n 0, 1) := by decide +kernel
theorem d4_51 : decode method_2_code 51 = .ok (.goto 6, 3) := by decide +kernel
theorem d4_54 : decode method_2_code 54 = .ok (.iload_n 0, 1) := by decide +kernel
theorem d4_55 : decode method_2_code 55 = .ok (.iconst (-1), 1) := by decide +kernel
theorem d4_56 : decode method_2_code 56 = .ok (.ixor, 1) := by decide +kernel
theorem d4_57 : decode method_2_code 57 = .ok (.istore 7, 2) := by decide +kernel
theorem d4_59 : decode method_2_code 59 = .ok (.iconst 1, 1) := by decide +kernel
theorem d4_60 : decode method_2_code 60 = .ok (.iload 6, 2) := by decide +kernel
theorem d4_62 : decode method_2_code 62 = .ok (.ishl, 1) := by decide +kernel
theorem d4_63 : decode method_2_code 63 = .ok (.iconst 1, 1) := by decide +kernel
theorem d4_64 : decode method_2_code 64 = .ok (.isub, 1) := by decide +kernel
theorem d4_65 : decode method_2_code 65 = .ok (.iload_n 1, 1) := by decide +kernel
theorem d4_66 : decode method_2_code 66 = .ok (.iconst 1, 1) := by decide +kernel
theorem d4_67 : decode method_2_code 67 = .ok (.iadd, 1) := by decide +kernel
theorem d4_68 : decode method_2_code 68 = .ok (.iload 6, 2) := by decide +kernel
theorem d4_70 : decode method_2_code 70 = .ok (.isub, 1) := by decide +kernel
theorem d4_71 : decode method_2_code 71 = .ok (.ishl, 1) := by decide +kernel
theorem d4_72 : decode method_2_code 72 = .ok (.istore 8, 2) := by decide +kernel
theorem d4_74 : decode method_2_code 74 = .ok (.iload 7, 2) := by decide +kernel
theorem d4_76 : decode method_2_code 76 = .ok (.iload 8, 2) := by decide +kernel
theorem d4_78 : decode method_2_code 78 = .ok (.iand, 1) := by decide +kernel
theorem d4_79 : decode method_2_code 79 = .ok (.iload 8, 2) := by decide +kernel
theorem d4_81 : decode method_2_code 81 = .ok (.if_icmp .ne 7, 3) := by decide +kernel
theorem d4_84 : decode method_2_code 84 = .ok (.iconst 1, 1) := by decide +kernel
theorem d4_85 : decode method_2_code 85 = .ok (.goto 4, 3) := by decide +kernel
theorem d4_88 : decode method_2_code 88 = .ok (.iconst 0, 1) := by decide +kernel
theorem d4_89 : decode method_2_code 89 = .ok (.ireturn, 1) := by decide +kernel
theorem pn_1 : plainName "com/example/outlier/outlier/health/HealthStateProbedPinLaw" = true := by first | (simp [plainName, overriddenIn]; done) | decide +kernel
theorem ef_4 (m : MethodId) (p1 : Int32) (p2 : Int32) (p3 : Int32) (p4 : Int32) (p5 : Int32) : entryFrame m #[(.int p1), (.int p2), (.int p3), (.int p4), (.int p5)] 9 = mkF m 0 #[.val (.int p1), .val (.int p2), .val (.int p3), .val (.int p4), .val (.int p5), .unset, .unset, .unset, .unset] [] := by first | (simp [entryFrame, mkF, argsToLocals, Value.category]; done) | rfl
def Q4 (Z : State) (p1 : Int32) (p2 : Int32) (p3 : Int32) (p4 : Int32) (p5 : Int32)  (h0 : Heap) (n0 : Nat) (v : Option Value) (h : Heap) (L : List Loc) : Prop := v = some (.int (own_ex p1 p2 p3 p4 p5)) ∧ Fr n0 L ∧ h = h0
set_option maxRecDepth 65536 in
set_option maxHeartbeats 40000000 in
theorem rm4 (l : Launch) (Z : State) (a0 : Array Value) (hw : ∀ d ∈ tables_1, d.before a0 Z = true) (p1 : Int32) (p2 : Int32) (p3 : Int32) (p4 : Int32) (p5 : Int32)  (h0 : Heap) (n0 : Nat) (Z0 : n0 ≤ h0.size)  :
    MetFree l (⟨"com/example/outlier/outlier/health/HealthStateProbedPinLaw", "expect", "(IIZII)Z"⟩ : MethodName) (head1 [Jvm.Cond.code (⟨"com/example/outlier/outlier/health/HealthStateProbedPinLaw", "expect", "(IIZII)Z"⟩ : MethodName) method_2_code 9 (some .boolean)] ({ frames := 0, cells := 0, slots := 0, locals := 0 } : Room)) (fun a U => a = #[(.int p1), (.int p2), (.int p3), (.int p4), (.int p5)] ∧ Z.Warmed39 U.vm ∧ U.heap = h0) (fun _ _ _ _ _ => True) (fun _ U o U' => ∃ v L, o = .returned v ∧ Q4 Z p1 p2 p3 p4 p5  h0 n0 v U'.heap L ∧ FrameEnd U o U' L ({ frames := 0, cells := 0, slots := 0, locals := 0 } : Room).cells ({ frames := 0, cells := 0, slots := 0, locals := 0 } : Room).slots) := by
  refine MetFree.of_bodySF (plainFor_of_name pn_1) hisR ?_
  intro p e s m args below meth c s₁ Bd hml0 hP hK
  obtain ⟨rfl, hZ, hh⟩ := hP
  have hx := Bd.exec
  have hby := Bd.bytes
  have hlk : meth.locks = false := Bd.notSynchronized
  have hml : c.maxLocals = 9 := hml0
  have hown : s.vm.findClass "com/example/outlier/outlier/health/HealthStateProbedPinLaw" = some m.cls := findClass_of_methodNamed Bd.named
  have hnm := (name_of_methodNamed Bd.named Bd.method).1
  have X0 : Stand p l e ({ frames := 0, cells := 0, slots := 0, locals := 0 } : Room) s m #[(.int p1), (.int p2), (.int p3), (.int p4), (.int p5)] below meth c s₁ [] 0 0 := Stand.of_body Bd
  have e0 : s₁.heap = h0 := by rw [← hh, Bd.state]; rfl
  have N0 := Fr.nil n0
  show Gl p e below s (Q4 Z p1 p2 p3 p4 p5  h0 n0) 0 0 s₁ (entryFrame m #[(.int p1), (.int p2), (.int p3), (.int p4), (.int p5)] 9)
  rw [ef_4 m p1 p2 p3 p4 p5]
  refine Gl.st (g' := (mkF m 1 #[.val (.int p1), .val (.int p2), .val (.int p3), .val (.int p4), .val (.int p5), .unset, .unset, .unset, .unset] [(.int p1)])) (fun t k => XS.iloadN X0.here hx rfl (hb hby d4_0) rfl k) ?_
  refine Gl.st (g' := (mkF m 2 #[.val (.int p1), .val (.int p2), .val (.int p3), .val (.int p4), .val (.int p5), .unset, .unset, .unset, .unset] [(.int p2), (.int p1)])) (fun t k => XS.iloadN X0.here hx rfl (hb hby d4_1) rfl k) ?_
  refine Gl.st (g' := (mkF m 3 #[.val (.int p1), .val (.int p2), .val (.int p3), .val (.int p4), .val (.int p5), .unset, .unset, .unset, .unset] [(.int (p1 >>> (p2 &&& 31)))])) (fun t k => XS.ishr X0.here hx rfl (hb hby d4_2) rfl k) ?_
  refine Gl.st (g' := (mkF m 4 #[.val (.int p1), .val (.int p2), .val (.int p3), .val (.int p4), .val (.int p5), .unset, .unset, .unset, .unset] [(.int (1 : Int32)), (.int (p1 >>> (p2 &&& 31)))])) (fun t k => XT.iconstV X0.here hx rfl (1 : Int32) (hb hby d4_3) rfl k) ?_
  refine Gl.st (g' := (mkF m 5 #[.val (.int p1), .val (.int p2), .val (.int p3), .val (.int p4), .val (.int p5), .unset, .unset, .unset, .unset] [(.int ((p1 >>> (p2 &&& 31)) &&& (1 : Int32)))])) (fun t k => XS.iand X0.here hx rfl (hb hby d4_4) rfl k) ?_
  by_cases c92 : ((p1 >>> (p2 &&& 31)) &&& (1 : Int32)) = (0 : Int32)
  · skip
    refine Gl.st (g' := (mkF m 12 #[.val (.int p1), .val (.int p2), .val (.int p3), .val (.int p4), .val (.int p5), .unset, .unset, .unset, .unset] [])) (fun t k => XS.ifYes X0.here hx rfl (pc0 := 5) (pc' := 12) rfl (hb hby d4_5) rfl (XT.i0_eq_t c92) (by decide) (by decide) k) ?_
    refine Gl.st (g' := (mkF m 13 #[.val (.int p1), .val (.int p2), .val (.int p3), .val (.int p4), .val (.int p5), .unset, .unset, .unset, .unset] [(.int (0 : Int32))])) (fun t k => XT.iconstV X0.here hx rfl (0 : Int32) (hb hby d4_12) rfl k) ?_
    refine Gl.st (g' := (mkF m 15 #[.val (.int p1), .val (.int p2), .val (.int p3), .val (.int p4), .val (.int p5), .val (.int (0 : Int32)), .unset, .unset, .unset] [])) (fun t k => XS.istore X0.here hx rfl (hb hby d4_13) rfl (l' := #[.val (.int p1), .val (.int p2), .val (.int p3), .val (.int p4), .val (.int p5), .val (.int (0 : Int32)), .unset, .unset, .unset]) rfl k) ?_
    refine Gl.st (g' := (mkF m 17 #[.val (.int p1), .val (.int p2), .val (.int p3), .val (.int p4), .val (.int p5), .val (.int (0 : Int32)), .unset, .unset, .unset] [(.int (0 : Int32))])) (fun t k => XS.iload X0.here hx rfl (hb hby d4_15) rfl k) ?_
    refine Gl.st (g' := (mkF m 18 #[.val (.int p1), .val (.int p2), .val (.int p3), .val (.int p4), .val (.int p5), .val (.int (0 : Int32)), .unset, .unset, .unset] [(.int p3), (.int (0 : Int32))])) (fun t k => XS.iloadN X0.here hx rfl (hb hby d4_17) rfl k) ?_
    by_cases c93 : (0 : Int32) = p3
    · skip
      refine Gl.st (g' := (mkF m 21 #[.val (.int p1), .val (.int p2), .val (.int p3), .val (.int p4), .val (.int p5), .val (.int (0 : Int32)), .unset, .unset, .unset] [])) (fun t k => XS.icmpNo X0.here hx rfl (hb hby d4_18) rfl (XT.ii_ne_f c93) k) ?_
      refine Gl.st (g' := (mkF m 22 #[.val (.int p1), .val (.int p2), .val (.int p3), .val (.int p4), .val (.int p5), .val (.int (0 : Int32)), .unset, .unset, .unset] [(.int (0 : Int32))])) (fun t k => XT.iconstV X0.here hx rfl (0 : Int32) (hb hby d4_21) rfl k) ?_
      refine Gl.retZ X0 hx hlk .boolean (by simp) Bd.returns (hb hby d4_22) e0 (by decide) (by decide) ?_
      refine ⟨?_, N0, rfl⟩
      rw [own_z0]
      unfold own_ex
      rw [if_pos c92, if_pos c93]
    · skip
      refine Gl.st (g' := (mkF m 23 #[.val (.int p1), .val (.int p2), .val (.int p3), .val (.int p4), .val (.int p5), .val (.int (0 : Int32)), .unset, .unset, .unset] [])) (fun t k => XS.icmpYes X0.here hx rfl (pc0 := 18) (pc' := 23) rfl (hb hby d4_18) rfl (XT.ii_ne_t c93) (by decide) (by decide) k) ?_
      refine Gl.st (g' := (mkF m 24 #[.val (.int p1), .val (.int p2), .val (.int p3), .val (.int p4), .val (.int p5), .val (.int (0 : Int32)), .unset, .unset, .unset] [(.int p3)])) (fun t k => XS.iloadN X0.here hx rfl (hb hby d4_23) rfl k) ?_
      by_cases c94 : p3 = (0 : Int32)
      · skip
        refine Gl.st (g' := (mkF m 32 #[.val (.int p1), .val (.int p2), .val (.int p3), .val (.int p4), .val (.int p5), .val (.int (0 : Int32)), .unset, .unset, .unset] [])) (fun t k => XS.ifYes X0.here hx rfl (pc0 := 24) (pc' := 32) rfl (hb hby d4_24) rfl (XT.i0_eq_t c94) (by decide) (by decide) k) ?_
        refine Gl.st (g' := (mkF m 33 #[.val (.int p1), .val (.int p2), .val (.int p3), .val (.int p4), .val (.int p5), .val (.int (0 : Int32)), .unset, .unset, .unset] [(.int p4)])) (fun t k => XS.iloadN X0.here hx rfl (hb hby d4_32) rfl k) ?_
        refine Gl.st (g' := (mkF m 35 #[.val (.int p1), .val (.int p2), .val (.int p3), .val (.int p4), .val (.int p5), .val (.int (0 : Int32)), .val (.int p4), .unset, .unset] [])) (fun t k => XS.istore X0.here hx rfl (hb hby d4_33) rfl (l' := #[.val (.int p1), .val (.int p2), .val (.int p3), .val (.int p4), .val (.int p5), .val (.int (0 : Int32)), .val (.int p4), .unset, .unset]) rfl k) ?_
        refine Gl.st (g' := (mkF m 36 #[.val (.int p1), .val (.int p2), .val (.int p3), .val (.int p4), .val (.int p5), .val (.int (0 : Int32)), .val (.int p4), .unset, .unset] [(.int p2)])) (fun t k => XS.iloadN X0.here hx rfl (hb hby d4_35) rfl k) ?_
        refine Gl.st (g' := (mkF m 37 #[.val (.int p1), .val (.int p2), .val (.int p3), .val (.int p4), .val (.int p5), .val (.int (0 : Int32)), .val (.int p4), .unset, .unset] [(.int (1 : Int32)), (.int p2)])) (fun t k => XT.iconstV X0.here hx rfl (1 : Int32) (hb hby d4_36) rfl k) ?_
        refine Gl.st (g' := (mkF m 38 #[.val (.int p1), .val (.int p2), .val (.int p3), .val (.int p4), .val (.int p5), .val (.int (0 : Int32)), .val (.int p4), .unset, .unset] [(.int (p2 + (1 : Int32)))])) (fun t k => XS.iadd X0.here hx rfl (hb hby d4_37) rfl k) ?_
        refine Gl.st (g' := (mkF m 40 #[.val (.int p1), .val (.int p2), .val (.int p3), .val (.int p4), .val (.int p5), .val (.int (0 : Int32)), .val (.int p4), .unset, .unset] [(.int p4), (.int (p2 + (1 : Int32)))])) (fun t k => XS.iload X0.here hx rfl (hb hby d4_38) rfl k) ?_
        by_cases c95 : (p2 + (1 : Int32)) < p4
        · skip
          refine Gl.st (g' := (mkF m 43 #[.val (.int p1), .val (.int p2), .val (.int p3), .val (.int p4), .val (.int p5), .val (.int (0 : Int32)), .val (.int p4), .unset, .unset] [])) (fun t k => XS.icmpNo X0.here hx rfl (hb hby d4_40) rfl (XT.ii_ge_f c95) k) ?_
          refine Gl.st (g' := (mkF m 44 #[.val (.int p1), .val (.int p2), .val (.int p3), .val (.int p4), .val (.int p5), .val (.int (0 : Int32)), .val (.int p4), .unset, .unset] [(.int (0 : Int32))])) (fun t k => XT.iconstV X0.here hx rfl (0 : Int32) (hb hby d4_43) rfl k) ?_
          refine Gl.retZ X0 hx hlk .boolean (by simp) Bd.returns (hb hby d4_44) e0 (by decide) (by decide) ?_
          refine ⟨?_, N0, rfl⟩
          rw [own_z0]
          unfold own_ex
          rw [if_pos c92, if_neg c93, if_pos c94]
          unfold own_e2 own_w
          rw [if_pos c95]
        · skip
          refine Gl.st (g' := (mkF m 45 #[.val (.int p1), .val (.int p2), .val (.int p3), .val (.int p4), .val (.int p5), .val (.int (0 : Int32)), .val (.int p4), .unset, .unset] [])) (fun t k => XS.icmpYes X0.here hx rfl (pc0 := 40) (pc' := 45) rfl (hb hby d4_40) rfl (XT.ii_ge_t c95) (by decide) (by decide) k) ?_
          refine Gl.st (g' := (mkF m 47 #[.val (.int p1), .val (.int p2), .val (.int p3), .val (.int p4), .val (.int p5), .val (.int (0 : Int32)), .val (.int p4), .unset, .unset] [(.int (0 : Int32))])) (fun t k => XS.iload X0.here hx rfl (hb hby d4_45) rfl k) ?_
          refine Gl.st (g' := (mkF m 54 #[.val (.int p1), .val (.int p2), .val (.int p3), .val (.int p4), .val (.int p5), .val (.int (0 : Int32)), .val (.int p4), .unset, .unset] [])) (fun t k => XS.ifYes X0.here hx rfl (pc0 := 47) (pc' := 54) rfl (hb hby d4_47) rfl (XT.i0_eq_t (by decide)) (by decide) (by decide) k) ?_
          refine Gl.st (g' := (mkF m 55 #[.val (.int p1), .val (.int p2), .val (.int p3), .val (.int p4), .val (.int p5), .val (.int (0 : Int32)), .val (.int p4), .unset, .unset] [(.int p1)])) (fun t k => XS.iloadN X0.here hx rfl (hb hby d4_54) rfl k) ?_
          refine Gl.st (g' := (mkF m 56 #[.val (.int p1), .val (.int p2), .val (.int p3), .val (.int p4), .val (.int p5), .val (.int (0 : Int32)), .val (.int p4), .unset, .unset] [(.int (-1 : Int32)), (.int p1)])) (fun t k => XT.iconstV X0.here hx rfl (-1 : Int32) (hb hby d4_55) rfl k) ?_
          refine Gl.st (g' := (mkF m 57 #[.val (.int p1), .val (.int p2), .val (.int p3), .val (.int p4), .val (.int p5), .val (.int (0 : Int32)), .val (.int p4), .unset, .unset] [(.int (p1 ^^^ (-1 : Int32)))])) (fun t k => XS.ixor X0.here hx rfl (hb hby d4_56) rfl k) ?_
          refine Gl.st (g' := (mkF m 59 #[.val (.int p1), .val (.int p2), .val (.int p3), .val (.int p4), .val (.int p5), .val (.int (0 : Int32)), .val (.int p4), .val (.int (p1 ^^^ (-1 : Int32))), .unset] [])) (fun t k => XS.istore X0.here hx rfl (hb hby d4_57) rfl (l' := #[.val (.int p1), .val (.int p2), .val (.int p3), .val (.int p4), .val (.int p5), .val (.int (0 : Int32)), .val (.int p4), .val (.int (p1 ^^^ (-1 : Int32))), .unset]) rfl k) ?_
          refine Gl.st (g' := (mkF m 60 #[.val (.int p1), .val (.int p2), .val (.int p3), .val (.int p4), .val (.int p5), .val (.int (0 : Int32)), .val (.int p4), .val (.int (p1 ^^^ (-1 : Int32))), .unset] [(.int (1 : Int32))])) (fun t k => XT.iconstV X0.here hx rfl (1 : Int32) (hb hby d4_59) rfl k) ?_
          refine Gl.st (g' := (mkF m 62 #[.val (.int p1), .val (.int p2), .val (.int p3), .val (.int p4), .val (.int p5), .val (.int (0 : Int32)), .val (.int p4), .val (.int (p1 ^^^ (-1 : Int32))), .unset] [(.int p4), (.int (1 : Int32))])) (fun t k => XS.iload X0.here hx rfl (hb hby d4_60) rfl k) ?_
          refine Gl.st (g' := (mkF m 63 #[.val (.int p1), .val (.int p2), .val (.int p3), .val (.int p4), .val (.int p5), .val (.int (0 : Int32)), .val (.int p4), .val (.int (p1 ^^^ (-1 : Int32))), .unset] [(.int ((1 : Int32) <<< (p4 &&& 31)))])) (fun t k => XS.ishl X0.here hx rfl (hb hby d4_62) rfl k) ?_
          refine Gl.st (g' := (mkF m 64 #[.val (.int p1), .val (.int p2), .val (.int p3), .val (.int p4), .val (.int p5), .val (.int (0 : Int32)), .val (.int p4), .val (.int (p1 ^^^ (-1 : Int32))), .unset] [(.int (1 : Int32)), (.int ((1 : Int32) <<< (p4 &&& 31)))])) (fun t k => XT.iconstV X0.here hx rfl (1 : Int32) (hb hby d4_63) rfl k) ?_
          refine Gl.st (g' := (mkF m 65 #[.val (.int p1), .val (.int p2), .val (.int p3), .val (.int p4), .val (.int p5), .val (.int (0 : Int32)), .val (.int p4), .val (.int (p1 ^^^ (-1 : Int32))), .unset] [(.int (((1 : Int32) <<< (p4 &&& 31)) - (1 : Int32)))])) (fun t k => XS.isub X0.here hx rfl (hb hby d4_64) rfl k) ?_
          refine Gl.st (g' := (mkF m 66 #[.val (.int p1), .val (.int p2), .val (.int p3), .val (.int p4), .val (.int p5), .val (.int (0 : Int32)), .val (.int p4), .val (.int (p1 ^^^ (-1 : Int32))), .unset] [(.int p2), (.int (((1 : Int32) <<< (p4 &&& 31)) - (1 : Int32)))])) (fun t k => XS.iloadN X0.here hx rfl (hb hby d4_65) rfl k) ?_
          refine Gl.st (g' := (mkF m 67 #[.val (.int p1), .val (.int p2), .val (.int p3), .val (.int p4), .val (.int p5), .val (.int (0 : Int32)), .val (.int p4), .val (.int (p1 ^^^ (-1 : Int32))), .unset] [(.int (1 : Int32)), (.int p2), (.int (((1 : Int32) <<< (p4 &&& 31)) - (1 : Int32)))])) (fun t k => XT.iconstV X0.here hx rfl (1 : Int32) (hb hby d4_66) rfl k) ?_
          refine Gl.st (g' := (mkF m 68 #[.val (.int p1), .val (.int p2), .val (.int p3), .val (.int p4), .val (.int p5), .val (.int (0 : Int32)), .val (.int p4), .val (.int (p1 ^^^ (-1 : Int32))), .unset] [(.int (p2 + (1 : Int32))), (.int (((1 : Int32) <<< (p4 &&& 31)) - (1 : Int32)))])) (fun t k => XS.iadd X0.here hx rfl (hb hby d4_67) rfl k) ?_
          refine Gl.st (g' := (mkF m 70 #[.val (.int p1), .val (.int p2), .val (.int p3), .val (.int p4), .val (.int p5), .val (.int (0 : Int32)), .val (.int p4), .val (.int (p1 ^^^ (-1 : Int32))), .unset] [(.int p4), (.int (p2 + (1 : Int32))), (.int (((1 : Int32) <<< (p4 &&& 31)) - (1 : Int32)))])) (fun t k => XS.iload X0.here hx rfl (hb hby d4_68) rfl k) ?_
          refine Gl.st (g' := (mkF m 71 #[.val (.int p1), .val (.int p2), .val (.int p3), .val (.int p4), .val (.int p5), .val (.int (0 : Int32)), .val (.int p4), .val (.int (p1 ^^^ (-1 : Int32))), .unset] [(.int ((p2 + (1 : Int32)) - p4)), (.int (((1 : Int32) <<< (p4 &&& 31)) - (1 : Int32)))])) (fun t k => XS.isub X0.here hx rfl (hb hby d4_70) rfl k) ?_
          refine Gl.st (g' := (mkF m 72 #[.val (.int p1), .val (.int p2), .val (.int p3), .val (.int p4), .val (.int p5), .val (.int (0 : Int32)), .val (.int p4), .val (.int (p1 ^^^ (-1 : Int32))), .unset] [(.int ((((1 : Int32) <<< (p4 &&& 31)) - (1 : Int32)) <<< (((p2 + (1 : Int32)) - p4) &&& 31)))])) (fun t k => XS.ishl X0.here hx rfl (hb hby d4_71) rfl k) ?_
          refine Gl.st (g' := (mkF m 74 #[.val (.int p1), .val (.int p2), .val (.int p3), .val (.int p4), .val (.int p5), .val (.int (0 : Int32)), .val (.int p4), .val (.int (p1 ^^^ (-1 : Int32))), .val (.int ((((1 : Int32) <<< (p4 &&& 31)) - (1 : Int32)) <<< (((p2 + (1 : Int32)) - p4) &&& 31)))] [])) (fun t k => XS.istore X0.here hx rfl (hb hby d4_72) rfl (l' := #[.val (.int p1), .val (.int p2), .val (.int p3), .val (.int p4), .val (.int p5), .val (.int (0 : Int32)), .val (.int p4), .val (.int (p1 ^^^ (-1 : Int32))), .val (.int ((((1 : Int32) <<< (p4 &&& 31)) - (1 : Int32)) <<< (((p2 + (1 : Int32)) - p4) &&& 31)))]) rfl k) ?_
          refine Gl.st (g' := (mkF m 76 #[.val (.int p1), .val (.int p2), .val (.int p3), .val (.int p4), .val (.int p5), .val (.int (0 : Int32)), .val (.int p4), .val (.int (p1 ^^^ (-1 : Int32))), .val (.int ((((1 : Int32) <<< (p4 &&& 31)) - (1 : Int32)) <<< (((p2 + (1 : Int32)) - p4) &&& 31)))] [(.int (p1 ^^^ (-1 : Int32)))])) (fun t k => XS.iload X0.here hx rfl (hb hby d4_74) rfl k) ?_
          refine Gl.st (g' := (mkF m 78 #[.val (.int p1), .val (.int p2), .val (.int p3), .val (.int p4), .val (.int p5), .val (.int (0 : Int32)), .val (.int p4), .val (.int (p1 ^^^ (-1 : Int32))), .val (.int ((((1 : Int32) <<< (p4 &&& 31)) - (1 : Int32)) <<< (((p2 + (1 : Int32)) - p4) &&& 31)))] [(.int ((((1 : Int32) <<< (p4 &&& 31)) - (1 : Int32)) <<< (((p2 + (1 : Int32)) - p4) &&& 31))), (.int (p1 ^^^ (-1 : Int32)))])) (fun t k => XS.iload X0.here hx rfl (hb hby d4_76) rfl k) ?_
          refine Gl.st (g' := (mkF m 79 #[.val (.int p1), .val (.int p2), .val (.int p3), .val (.int p4), .val (.int p5), .val (.int (0 : Int32)), .val (.int p4), .val (.int (p1 ^^^ (-1 : Int32))), .val (.int ((((1 : Int32) <<< (p4 &&& 31)) - (1 : Int32)) <<< (((p2 + (1 : Int32)) - p4) &&& 31)))] [(.int ((p1 ^^^ (-1 : Int32)) &&& ((((1 : Int32) <<< (p4 &&& 31)) - (1 : Int32)) <<< (((p2 + (1 : Int32)) - p4) &&& 31))))])) (fun t k => XS.iand X0.here hx rfl (hb hby d4_78) rfl k) ?_
          refine Gl.st (g' := (mkF m 81 #[.val (.int p1), .val (.int p2), .val (.int p3), .val (.int p4), .val (.int p5), .val (.int (0 : Int32)), .val (.int p4), .val (.int (p1 ^^^ (-1 : Int32))), .val (.int ((((1 : Int32) <<< (p4 &&& 31)) - (1 : Int32)) <<< (((p2 + (1 : Int32)) - p4) &&& 31)))] [(.int ((((1 : Int32) <<< (p4 &&& 31)) - (1 : Int32)) <<< (((p2 + (1 : Int32)) - p4) &&& 31))), (.int ((p1 ^^^ (-1 : Int32)) &&& ((((1 : Int32) <<< (p4 &&& 31)) - (1 : Int32)) <<< (((p2 + (1 : Int32)) - p4) &&& 31))))])) (fun t k => XS.iload X0.here hx rfl (hb hby d4_79) rfl k) ?_
          by_cases c96 : ((p1 ^^^ (-1 : Int32)) &&& ((((1 : Int32) <<< (p4 &&& 31)) - (1 : Int32)) <<< (((p2 + (1 : Int32)) - p4) &&& 31))) = ((((1 : Int32) <<< (p4 &&& 31)) - (1 : Int32)) <<< (((p2 + (1 : Int32)) - p4) &&& 31))
          · skip
            refine Gl.st (g' := (mkF m 84 #[.val (.int p1), .val (.int p2), .val (.int p3), .val (.int p4), .val (.int p5), .val (.int (0 : Int32)), .val (.int p4), .val (.int (p1 ^^^ (-1 : Int32))), .val (.int ((((1 : Int32) <<< (p4 &&& 31)) - (1 : Int32)) <<< (((p2 + (1 : Int32)) - p4) &&& 31)))] [])) (fun t k => XS.icmpNo X0.here hx rfl (hb hby d4_81) rfl (XT.ii_ne_f c96) k) ?_
            refine Gl.st (g' := (mkF m 85 #[.val (.int p1), .val (.int p2), .val (.int p3), .val (.int p4), .val (.int p5), .val (.int (0 : Int32)), .val (.int p4), .val (.int (p1 ^^^ (-1 : Int32))), .val (.int ((((1 : Int32) <<< (p4 &&& 31)) - (1 : Int32)) <<< (((p2 + (1 : Int32)) - p4) &&& 31)))] [(.int (1 : Int32))])) (fun t k => XT.iconstV X0.here hx rfl (1 : Int32) (hb hby d4_84) rfl k) ?_
            refine Gl.st (g' := (mkF m 89 #[.val (.int p1), .val (.int p2), .val (.int p3), .val (.int p4), .val (.int p5), .val (.int (0 : Int32)), .val (.int p4), .val (.int (p1 ^^^ (-1 : Int32))), .val (.int ((((1 : Int32) <<< (p4 &&& 31)) - (1 : Int32)) <<< (((p2 + (1 : Int32)) - p4) &&& 31)))] [(.int (1 : Int32))])) (fun t k => XS.goto X0.here hx rfl (pc0 := 85) (pc' := 89) rfl (hb hby d4_85) (by decide) (by decide) k) ?_
            refine Gl.retZ X0 hx hlk .boolean (by simp) Bd.returns (hb hby d4_89) e0 (by decide) (by decide) ?_
            refine ⟨?_, N0, rfl⟩
            rw [own_z1]
            unfold own_ex
            rw [if_pos c92, if_neg c93, if_pos c94]
            unfold own_e2 own_w
            rw [if_neg c95, if_pos c96]
          · skip
            refine Gl.st (g' := (mkF m 88 #[.val (.int p1), .val (.int p2), .val (.int p3), .val (.int p4), .val (.int p5), .val (.int (0 : Int32)), .val (.int p4), .val (.int (p1 ^^^ (-1 : Int32))), .val (.int ((((1 : Int32) <<< (p4 &&& 31)) - (1 : Int32)) <<< (((p2 + (1 : Int32)) - p4) &&& 31)))] [])) (fun t k => XS.icmpYes X0.here hx rfl (pc0 := 81) (pc' := 88) rfl (hb hby d4_81) rfl (XT.ii_ne_t c96) (by decide) (by decide) k) ?_
            refine Gl.st (g' := (mkF m 89 #[.val (.int p1), .val (.int p2), .val (.int p3), .val (.int p4), .val (.int p5), .val (.int (0 : Int32)), .val (.int p4), .val (.int (p1 ^^^ (-1 : Int32))), .val (.int ((((1 : Int32) <<< (p4 &&& 31)) - (1 : Int32)) <<< (((p2 + (1 : Int32)) - p4) &&& 31)))] [(.int (0 : Int32))])) (fun t k => XT.iconstV X0.here hx rfl (0 : Int32) (hb hby d4_88) rfl k) ?_
            refine Gl.retZ X0 hx hlk .boolean (by simp) Bd.returns (hb hby d4_89) e0 (by decide) (by decide) ?_
            refine ⟨?_, N0, rfl⟩
            rw [own_z0]
            unfold own_ex
            rw [if_pos c92, if_neg c93, if_pos c94]
            unfold own_e2 own_w
            rw [if_neg c95, if_neg c96]
      · skip
        refine Gl.st (g' := (mkF m 27 #[.val (.int p1), .val (.int p2), .val (.int p3), .val (.int p4), .val (.int p5), .val (.int (0 : Int32)), .unset, .unset, .unset] [])) (fun t k => XS.ifNo X0.here hx rfl (hb hby d4_24) rfl (XT.i0_eq_f c94) k) ?_
        refine Gl.st (g' := (mkF m 29 #[.val (.int p1), .val (.int p2), .val (.int p3), .val (.int p4), .val (.int p5), .val (.int (0 : Int32)), .unset, .unset, .unset] [(.int p5)])) (fun t k => XS.iload X0.here hx rfl (hb hby d4_27) rfl k) ?_
        refine Gl.st (g' := (mkF m 33 #[.val (.int p1), .val (.int p2), .val (.int p3), .val (.int p4), .val (.int p5), .val (.int (0 : Int32)), .unset, .unset, .unset] [(.int p5)])) (fun t k => XS.goto X0.here hx rfl (pc0 := 29) (pc' := 33) rfl (hb hby d4_29) (by decide) (by decide) k) ?_
        refine Gl.st (g' := (mkF m 35 #[.val (.int p1), .val (.int p2), .val (.int p3), .val (.int p4), .val (.int p5), .val (.int (0 : Int32)), .val (.int p5), .unset, .unset] [])) (fun t k => XS.istore X0.here hx rfl (hb hby d4_33) rfl (l' := #[.val (.int p1), .val (.int p2), .val (.int p3), .val (.int p4), .val (.int p5), .val (.int (0 : Int32)), .val (.int p5), .unset, .unset]) rfl k) ?_
        refine Gl.st (g' := (mkF m 36 #[.val (.int p1), .val (.int p2), .val (.int p3), .val (.int p4), .val (.int p5), .val (.int (0 : Int32)), .val (.int p5), .unset, .unset] [(.int p2)])) (fun t k => XS.iloadN X0.here hx rfl (hb hby d4_35) rfl k) ?_
        refine Gl.st (g' := (mkF m 37 #[.val (.int p1), .val (.int p2), .val (.int p3), .val (.int p4), .val (.int p5), .val (.int (0 : Int32)), .val (.int p5), .unset, .unset] [(.int (1 : Int32)), (.int p2)])) (fun t k => XT.iconstV X0.here hx rfl (1 : Int32) (hb hby d4_36) rfl k) ?_
        refine Gl.st (g' := (mkF m 38 #[.val (.int p1), .val (.int p2), .val (.int p3), .val (.int p4), .val (.int p5), .val (.int (0 : Int32)), .val (.int p5), .unset, .unset] [(.int (p2 + (1 : Int32)))])) (fun t k => XS.iadd X0.here hx rfl (hb hby d4_37) rfl k) ?_
        refine Gl.st (g' := (mkF m 40 #[.val (.int p1), .val (.int p2), .val (.int p3), .val (.int p4), .val (.int p5), .val (.int (0 : Int32)), .val (.int p5), .unset, .unset] [(.int p5), (.int (p2 + (1 : Int32)))])) (fun t k => XS.iload X0.here hx rfl (hb hby d4_38) rfl k) ?_
        by_cases c97 : (p2 + (1 : Int32)) < p5
        · skip
          refine Gl.st (g' := (mkF m 43 #[.val (.int p1), .val (.int p2), .val (.int p3), .val (.int p4), .val (.int p5), .val (.int (0 : Int32)), .val (.int p5), .unset, .unset] [])) (fun t k => XS.icmpNo X0.here hx rfl (hb hby d4_40) rfl (XT.ii_ge_f c97) k) ?_
          refine Gl.st (g' := (mkF m 44 #[.val (.int p1), .val (.int p2), .val (.int p3), .val (.int p4), .val (.int p5), .val (.int (0 : Int32)), .val (.int p5), .unset, .unset] [(.int (0 : Int32))])) (fun t k => XT.iconstV X0.here hx rfl (0 : Int32) (hb hby d4_43) rfl k) ?_
          refine Gl.retZ X0 hx hlk .boolean (by simp) Bd.returns (hb hby d4_44) e0 (by decide) (by decide) ?_
          refine ⟨?_, N0, rfl⟩
          rw [own_z0]
          unfold own_ex
          rw [if_pos c92, if_neg c93, if_neg c94]
          unfold own_e2 own_w
          rw [if_pos c97]
        · skip
          refine Gl.st (g' := (mkF m 45 #[.val (.int p1), .val (.int p2), .val (.int p3), .val (.int p4), .val (.int p5), .val (.int (0 : Int32)), .val (.int p5), .unset, .unset] [])) (fun t k => XS.icmpYes X0.here hx rfl (pc0 := 40) (pc' := 45) rfl (hb hby d4_40) rfl (XT.ii_ge_t c97) (by decide) (by decide) k) ?_
          refine Gl.st (g' := (mkF m 47 #[.val (.int p1), .val (.int p2), .val (.int p3), .val (.int p4), .val (.int p5), .val (.int (0 : Int32)), .val (.int p5), .unset, .unset] [(.int (0 : Int32))])) (fun t k => XS.iload X0.here hx rfl (hb hby d4_45) rfl k) ?_
          refine Gl.st (g' := (mkF m 54 #[.val (.int p1), .val (.int p2), .val (.int p3), .val (.int p4), .val (.int p5), .val (.int (0 : Int32)), .val (.int p5), .unset, .unset] [])) (fun t k => XS.ifYes X0.here hx rfl (pc0 := 47) (pc' := 54) rfl (hb hby d4_47) rfl (XT.i0_eq_t (by decide)) (by decide) (by decide) k) ?_
          refine Gl.st (g' := (mkF m 55 #[.val (.int p1), .val (.int p2), .val (.int p3), .val (.int p4), .val (.int p5), .val (.int (0 : Int32)), .val (.int p5), .unset, .unset] [(.int p1)])) (fun t k => XS.iloadN X0.here hx rfl (hb hby d4_54) rfl k) ?_
          refine Gl.st (g' := (mkF m 56 #[.val (.int p1), .val (.int p2), .val (.int p3), .val (.int p4), .val (.int p5), .val (.int (0 : Int32)), .val (.int p5), .unset, .unset] [(.int (-1 : Int32)), (.int p1)])) (fun t k => XT.iconstV X0.here hx rfl (-1 : Int32) (hb hby d4_55) rfl k) ?_
          refine Gl.st (g' := (mkF m 57 #[.val (.int p1), .val (.int p2), .val (.int p3), .val (.int p4), .val (.int p5), .val (.int (0 : Int32)), .val (.int p5), .unset, .unset] [(.int (p1 ^^^ (-1 : Int32)))])) (fun t k => XS.ixor X0.here hx rfl (hb hby d4_56) rfl k) ?_
          refine Gl.st (g' := (mkF m 59 #[.val (.int p1), .val (.int p2), .val (.int p3), .val (.int p4), .val (.int p5), .val (.int (0 : Int32)), .val (.int p5), .val (.int (p1 ^^^ (-1 : Int32))), .unset] [])) (fun t k => XS.istore X0.here hx rfl (hb hby d4_57) rfl (l' := #[.val (.int p1), .val (.int p2), .val (.int p3), .val (.int p4), .val (.int p5), .val (.int (0 : Int32)), .val (.int p5), .val (.int (p1 ^^^ (-1 : Int32))), .unset]) rfl k) ?_
          refine Gl.st (g' := (mkF m 60 #[.val (.int p1), .val (.int p2), .val (.int p3), .val (.int p4), .val (.int p5), .val (.int (0 : Int32)), .val (.int p5), .val (.int (p1 ^^^ (-1 : Int32))), .unset] [(.int (1 : Int32))])) (fun t k => XT.iconstV X0.here hx rfl (1 : Int32) (hb hby d4_59) rfl k) ?_
          refine Gl.st (g' := (mkF m 62 #[.val (.int p1), .val (.int p2), .val (.int p3), .val (.int p4), .val (.int p5), .val (.int (0 : Int32)), .val (.int p5), .val (.int (p1 ^^^ (-1 : Int32))), .unset] [(.int p5), (.int (1 : Int32))])) (fun t k => XS.iload X0.here hx rfl (hb hby d4_60) rfl k) ?_
          refine Gl.st (g' := (mkF m 63 #[.val (.int p1), .val (.int p2), .val (.int p3), .val (.int p4), .val (.int p5), .val (.int (0 : Int32)), .val (.int p5), .val (.int (p1 ^^^ (-1 : Int32))), .unset] [(.int ((1 : Int32) <<< (p5 &&& 31)))])) (fun t k => XS.ishl X0.here hx rfl (hb hby d4_62) rfl k) ?_
          refine Gl.st (g' := (mkF m 64 #[.val (.int p1), .val (.int p2), .val (.int p3), .val (.int p4), .val (.int p5), .val (.int (0 : Int32)), .val (.int p5), .val (.int (p1 ^^^ (-1 : Int32))), .unset] [(.int (1 : Int32)), (.int ((1 : Int32) <<< (p5 &&& 31)))])) (fun t k => XT.iconstV X0.here hx rfl (1 : Int32) (hb hby d4_63) rfl k) ?_
          refine Gl.st (g' := (mkF m 65 #[.val (.int p1), .val (.int p2), .val (.int p3), .val (.int p4), .val (.int p5), .val (.int (0 : Int32)), .val (.int p5), .val (.int (p1 ^^^ (-1 : Int32))), .unset] [(.int (((1 : Int32) <<< (p5 &&& 31)) - (1 : Int32)))])) (fun t k => XS.isub X0.here hx rfl (hb hby d4_64) rfl k) ?_
          refine Gl.st (g' := (mkF m 66 #[.val (.int p1), .val (.int p2), .val (.int p3), .val (.int p4), .val (.int p5), .val (.int (0 : Int32)), .val (.int p5), .val (.int (p1 ^^^ (-1 : Int32))), .unset] [(.int p2), (.int (((1 : Int32) <<< (p5 &&& 31)) - (1 : Int32)))])) (fun t k => XS.iloadN X0.here hx rfl (hb hby d4_65) rfl k) ?_
          refine Gl.st (g' := (mkF m 67 #[.val (.int p1), .val (.int p2), .val (.int p3), .val (.int p4), .val (.int p5), .val (.int (0 : Int32)), .val (.int p5), .val (.int (p1 ^^^ (-1 : Int32))), .unset] [(.int (1 : Int32)), (.int p2), (.int (((1 : Int32) <<< (p5 &&& 31)) - (1 : Int32)))])) (fun t k => XT.iconstV X0.here hx rfl (1 : Int32) (hb hby d4_66) rfl k) ?_
          refine Gl.st (g' := (mkF m 68 #[.val (.int p1), .val (.int p2), .val (.int p3), .val (.int p4), .val (.int p5), .val (.int (0 : Int32)), .val (.int p5), .val (.int (p1 ^^^ (-1 : Int32))), .unset] [(.int (p2 + (1 : Int32))), (.int (((1 : Int32) <<< (p5 &&& 31)) - (1 : Int32)))])) (fun t k => XS.iadd X0.here hx rfl (hb hby d4_67) rfl k) ?_
          refine Gl.st (g' := (mkF m 70 #[.val (.int p1), .val (.int p2), .val (.int p3), .val (.int p4), .val (.int p5), .val (.int (0 : Int32)), .val (.int p5), .val (.int (p1 ^^^ (-1 : Int32))), .unset] [(.int p5), (.int (p2 + (1 : Int32))), (.int (((1 : Int32) <<< (p5 &&& 31)) - (1 : Int32)))])) (fun t k => XS.iload X0.here hx rfl (hb hby d4_68) rfl k) ?_
          refine Gl.st (g' := (mkF m 71 #[.val (.int p1), .val (.int p2), .val (.int p3), .val (.int p4), .val (.int p5), .val (.int (0 : Int32)), .val (.int p5), .val (.int (p1 ^^^ (-1 : Int32))), .unset] [(.int ((p2 + (1 : Int32)) - p5)), (.int (((1 : Int32) <<< (p5 &&& 31)) - (1 : Int32)))])) (fun t k => XS.isub X0.here hx rfl (hb hby d4_70) rfl k) ?_
          refine Gl.st (g' := (mkF m 72 #[.val (.int p1), .val (.int p2), .val (.int p3), .val (.int p4), .val (.int p5), .val (.int (0 : Int32)), .val (.int p5), .val (.int (p1 ^^^ (-1 : Int32))), .unset] [(.int ((((1 : Int32) <<< (p5 &&& 31)) - (1 : Int32)) <<< (((p2 + (1 : Int32)) - p5) &&& 31)))])) (fun t k => XS.ishl X0.here hx rfl (hb hby d4_71) rfl k) ?_
          refine Gl.st (g' := (mkF m 74 #[.val (.int p1), .val (.int p2), .val (.int p3), .val (.int p4), .val (.int p5), .val (.int (0 : Int32)), .val (.int p5), .val (.int (p1 ^^^ (-1 : Int32))), .val (.int ((((1 : Int32) <<< (p5 &&& 31)) - (1 : Int32)) <<< (((p2 + (1 : Int32)) - p5) &&& 31)))] [])) (fun t k => XS.istore X0.here hx rfl (hb hby d4_72) rfl (l' := #[.val (.int p1), .val (.int p2), .val (.int p3), .val (.int p4), .val (.int p5), .val (.int (0 : Int32)), .val (.int p5), .val (.int (p1 ^^^ (-1 : Int32))), .val (.int ((((1 : Int32) <<< (p5 &&& 31)) - (1 : Int32)) <<< (((p2 + (1 : Int32)) - p5) &&& 31)))]) rfl k) ?_
          refine Gl.st (g' := (mkF m 76 #[.val (.int p1), .val (.int p2), .val (.int p3), .val (.int p4), .val (.int p5), .val (.int (0 : Int32)), .val (.int p5), .val (.int (p1 ^^^ (-1 : Int32))), .val (.int ((((1 : Int32) <<< (p5 &&& 31)) - (1 : Int32)) <<< (((p2 + (1 : Int32)) - p5) &&& 31)))] [(.int (p1 ^^^ (-1 : Int32)))])) (fun t k => XS.iload X0.here hx rfl (hb hby d4_74) rfl k) ?_
          refine Gl.st (g' := (mkF m 78 #[.val (.int p1), .val (.int p2), .val (.int p3), .val (.int p4), .val (.int p5), .val (.int (0 : Int32)), .val (.int p5), .val (.int (p1 ^^^ (-1 : Int32))), .val (.int ((((1 : Int32) <<< (p5 &&& 31)) - (1 : Int32)) <<< (((p2 + (1 : Int32)) - p5) &&& 31)))] [(.int ((((1 : Int32) <<< (p5 &&& 31)) - (1 : Int32)) <<< (((p2 + (1 : Int32)) - p5) &&& 31))), (.int (p1 ^^^ (-1 : Int32)))])) (fun t k => XS.iload X0.here hx rfl (hb hby d4_76) rfl k) ?_
          refine Gl.st (g' := (mkF m 79 #[.val (.int p1), .val (.int p2), .val (.int p3), .val (.int p4), .val (.int p5), .val (.int (0 : Int32)), .val (.int p5), .val (.int (p1 ^^^ (-1 : Int32))), .val (.int ((((1 : Int32) <<< (p5 &&& 31)) - (1 : Int32)) <<< (((p2 + (1 : Int32)) - p5) &&& 31)))] [(.int ((p1 ^^^ (-1 : Int32)) &&& ((((1 : Int32) <<< (p5 &&& 31)) - (1 : Int32)) <<< (((p2 + (1 : Int32)) - p5) &&& 31))))])) (fun t k => XS.iand X0.here hx rfl (hb hby d4_78) rfl k) ?_
          refine Gl.st (g' := (mkF m 81 #[.val (.int p1), .val (.int p2), .val (.int p3), .val (.int p4), .val (.int p5), .val (.int (0 : Int32)), .val (.int p5), .val (.int (p1 ^^^ (-1 : Int32))), .val (.int ((((1 : Int32) <<< (p5 &&& 31)) - (1 : Int32)) <<< (((p2 + (1 : Int32)) - p5) &&& 31)))] [(.int ((((1 : Int32) <<< (p5 &&& 31)) - (1 : Int32)) <<< (((p2 + (1 : Int32)) - p5) &&& 31))), (.int ((p1 ^^^ (-1 : Int32)) &&& ((((1 : Int32) <<< (p5 &&& 31)) - (1 : Int32)) <<< (((p2 + (1 : Int32)) - p5) &&& 31))))])) (fun t k => XS.iload X0.here hx rfl (hb hby d4_79) rfl k) ?_
          by_cases c98 : ((p1 ^^^ (-1 : Int32)) &&& ((((1 : Int32) <<< (p5 &&& 31)) - (1 : Int32)) <<< (((p2 + (1 : Int32)) - p5) &&& 31))) = ((((1 : Int32) <<< (p5 &&& 31)) - (1 : Int32)) <<< (((p2 + (1 : Int32)) - p5) &&& 31))
          · skip
            refine Gl.st (g' := (mkF m 84 #[.val (.int p1), .val (.int p2), .val (.int p3), .val (.int p4), .val (.int p5), .val (.int (0 : Int32)), .val (.int p5), .val (.int (p1 ^^^ (-1 : Int32))), .val (.int ((((1 : Int32) <<< (p5 &&& 31)) - (1 : Int32)) <<< (((p2 + (1 : Int32)) - p5) &&& 31)))] [])) (fun t k => XS.icmpNo X0.here hx rfl (hb hby d4_81) rfl (XT.ii_ne_f c98) k) ?_
            refine Gl.st (g' := (mkF m 85 #[.val (.int p1), .val (.int p2), .val (.int p3), .val (.int p4), .val (.int p5), .val (.int (0 : Int32)), .val (.int p5), .val (.int (p1 ^^^ (-1 : Int32))), .val (.int ((((1 : Int32) <<< (p5 &&& 31)) - (1 : Int32)) <<< (((p2 + (1 : Int32)) - p5) &&& 31)))] [(.int (1 : Int32))])) (fun t k => XT.iconstV X0.here hx rfl (1 : Int32) (hb hby d4_84) rfl k) ?_
            refine Gl.st (g' := (mkF m 89 #[.val (.int p1), .val (.int p2), .val (.int p3), .val (.int p4), .val (.int p5), .val (.int (0 : Int32)), .val (.int p5), .val (.int (p1 ^^^ (-1 : Int32))), .val (.int ((((1 : Int32) <<< (p5 &&& 31)) - (1 : Int32)) <<< (((p2 + (1 : Int32)) - p5) &&& 31)))] [(.int (1 : Int32))])) (fun t k => XS.goto X0.here hx rfl (pc0 := 85) (pc' := 89) rfl (hb hby d4_85) (by decide) (by decide) k) ?_
            refine Gl.retZ X0 hx hlk .boolean (by simp) Bd.returns (hb hby d4_89) e0 (by decide) (by decide) ?_
            refine ⟨?_, N0, rfl⟩
            rw [own_z1]
            unfold own_ex
            rw [if_pos c92, if_neg c93, if_neg c94]
            unfold own_e2 own_w
            rw [if_neg c97, if_pos c98]
          · skip
            refine Gl.st (g' := (mkF m 88 #[.val (.int p1), .val (.int p2), .val (.int p3), .val (.int p4), .val (.int p5), .val (.int (0 : Int32)), .val (.int p5), .val (.int (p1 ^^^ (-1 : Int32))), .val (.int ((((1 : Int32) <<< (p5 &&& 31)) - (1 : Int32)) <<< (((p2 + (1 : Int32)) - p5) &&& 31)))] [])) (fun t k => XS.icmpYes X0.here hx rfl (pc0 := 81) (pc' := 88) rfl (hb hby d4_81) rfl (XT.ii_ne_t c98) (by decide) (by decide) k) ?_
            refine Gl.st (g' := (mkF m 89 #[.val (.int p1), .val (.int p2), .val (.int p3), .val (.int p4), .val (.int p5), .val (.int (0 : Int32)), .val (.int p5), .val (.int (p1 ^^^ (-1 : Int32))), .val (.int ((((1 : Int32) <<< (p5 &&& 31)) - (1 : Int32)) <<< (((p2 + (1 : Int32)) - p5) &&& 31)))] [(.int (0 : Int32))])) (fun t k => XT.iconstV X0.here hx rfl (0 : Int32) (hb hby d4_88) rfl k) ?_
            refine Gl.retZ X0 hx hlk .boolean (by simp) Bd.returns (hb hby d4_89) e0 (by decide) (by decide) ?_
            refine ⟨?_, N0, rfl⟩
            rw [own_z0]
            unfold own_ex
            rw [if_pos c92, if_neg c93, if_neg c94]
            unfold own_e2 own_w
            rw [if_neg c97, if_neg c98]
  · skip
    refine Gl.st (g' := (mkF m 8 #[.val (.int p1), .val (.int p2), .val (.int p3), .val (.int p4), .val (.int p5), .unset, .unset, .unset, .unset] [])) (fun t k => XS.ifNo X0.here hx rfl (hb hby d4_5) rfl (XT.i0_eq_f c92) k) ?_
    refine Gl.st (g' := (mkF m 9 #[.val (.int p1), .val (.int p2), .val (.int p3), .val (.int p4), .val (.int p5), .unset, .unset, .unset, .unset] [(.int (1 : Int32))])) (fun t k => XT.iconstV X0.here hx rfl (1 : Int32) (hb hby d4_8) rfl k) ?_
    refine Gl.st (g' := (mkF m 13 #[.val (.int p1), .val (.int p2), .val (.int p3), .val (.int p4), .val (.int p5), .unset, .unset, .unset, .unset] [(.int (1 : Int32))])) (fun t k => XS.goto X0.here hx rfl (pc0 := 9) (pc' := 13) rfl (hb hby d4_9) (by decide) (by decide) k) ?_
    refine Gl.st (g' := (mkF m 15 #[.val (.int p1), .val (.int p2), .val (.int p3), .val (.int p4), .val (.int p5), .val (.int (1 : Int32)), .unset, .unset, .unset] [])) (fun t k => XS.istore X0.here hx rfl (hb hby d4_13) rfl (l' := #[.val (.int p1), .val (.int p2), .val (.int p3), .val (.int p4), .val (.int p5), .val (.int (1 : Int32)), .unset, .unset, .unset]) rfl k) ?_
    refine Gl.st (g' := (mkF m 17 #[.val (.int p1), .val (.int p2), .val (.int p3), .val (.int p4), .val (.int p5), .val (.int (1 : Int32)), .unset, .unset, .unset] [(.int (1 : Int32))])) (fun t k => XS.iload X0.here hx rfl (hb hby d4_15) rfl k) ?_
    refine Gl.st (g' := (mkF m 18 #[.val (.int p1), .val (.int p2), .val (.int p3), .val (.int p4), .val (.int p5), .val (.int (1 : Int32)), .unset, .unset, .unset] [(.int p3), (.int (1 : Int32))])) (fun t k => XS.iloadN X0.here hx rfl (hb hby d4_17) rfl k) ?_
    by_cases c99 : (1 : Int32) = p3
    · skip
      refine Gl.st (g' := (mkF m 21 #[.val (.int p1), .val (.int p2), .val (.int p3), .val (.int p4), .val (.int p5), .val (.int (1 : Int32)), .unset, .unset, .unset] [])) (fun t k => XS.icmpNo X0.here hx rfl (hb hby d4_18) rfl (XT.ii_ne_f c99) k) ?_
      refine Gl.st (g' := (mkF m 22 #[.val (.int p1), .val (.int p2), .val (.int p3), .val (.int p4), .val (.int p5), .val (.int (1 : Int32)), .unset, .unset, .unset] [(.int (0 : Int32))])) (fun t k => XT.iconstV X0.here hx rfl (0 : Int32) (hb hby d4_21) rfl k) ?_
      refine Gl.retZ X0 hx hlk .boolean (by simp) Bd.returns (hb hby d4_22) e0 (by decide) (by decide) ?_
      refine ⟨?_, N0, rfl⟩
      rw [own_z0]
      unfold own_ex
      rw [if_neg c92, if_pos c99]
    · skip
      refine Gl.st (g' := (mkF m 23 #[.val (.int p1), .val (.int p2), .val (.int p3), .val (.int p4), .val (.int p5), .val (.int (1 : Int32)), .unset, .unset, .unset] [])) (fun t k => XS.icmpYes X0.here hx rfl (pc0 := 18) (pc' := 23) rfl (hb hby d4_18) rfl (XT.ii_ne_t c99) (by decide) (by decide) k) ?_
      refine Gl.st (g' := (mkF m 24 #[.val (.int p1), .val (.int p2), .val (.int p3), .val (.int p4), .val (.int p5), .val (.int (1 : Int32)), .unset, .unset, .unset] [(.int p3)])) (fun t k => XS.iloadN X0.here hx rfl (hb hby d4_23) rfl k) ?_
      by_cases c100 : p3 = (0 : Int32)
      · skip
        refine Gl.st (g' := (mkF m 32 #[.val (.int p1), .val (.int p2), .val (.int p3), .val (.int p4), .val (.int p5), .val (.int (1 : Int32)), .unset, .unset, .unset] [])) (fun t k => XS.ifYes X0.here hx rfl (pc0 := 24) (pc' := 32) rfl (hb hby d4_24) rfl (XT.i0_eq_t c100) (by decide) (by decide) k) ?_
        refine Gl.st (g' := (mkF m 33 #[.val (.int p1), .val (.int p2), .val (.int p3), .val (.int p4), .val (.int p5), .val (.int (1 : Int32)), .unset, .unset, .unset] [(.int p4)])) (fun t k => XS.iloadN X0.here hx rfl (hb hby d4_32) rfl k) ?_
        refine Gl.st (g' := (mkF m 35 #[.val (.int p1), .val (.int p2), .val (.int p3), .val (.int p4), .val (.int p5), .val (.int (1 : Int32)), .val (.int p4), .unset, .unset] [])) (fun t k => XS.istore X0.here hx rfl (hb hby d4_33) rfl (l' := #[.val (.int p1), .val (.int p2), .val (.int p3), .val (.int p4), .val (.int p5), .val (.int (1 : Int32)), .val (.int p4), .unset, .unset]) rfl k) ?_
        refine Gl.st (g' := (mkF m 36 #[.val (.int p1), .val (.int p2), .val (.int p3), .val (.int p4), .val (.int p5), .val (.int (1 : Int32)), .val (.int p4), .unset, .unset] [(.int p2)])) (fun t k => XS.iloadN X0.here hx rfl (hb hby d4_35) rfl k) ?_
        refine Gl.st (g' := (mkF m 37 #[.val (.int p1), .val (.int p2), .val (.int p3), .val (.int p4), .val (.int p5), .val (.int (1 : Int32)), .val (.int p4), .unset, .unset] [(.int (1 : Int32)), (.int p2)])) (fun t k => XT.iconstV X0.here hx rfl (1 : Int32) (hb hby d4_36) rfl k) ?_
        refine Gl.st (g' := (mkF m 38 #[.val (.int p1), .val (.int p2), .val (.int p3), .val (.int p4), .val (.int p5), .val (.int (1 : Int32)), .val (.int p4), .unset, .unset] [(.int (p2 + (1 : Int32)))])) (fun t k => XS.iadd X0.here hx rfl (hb hby d4_37) rfl k) ?_
        refine Gl.st (g' := (mkF m 40 #[.val (.int p1), .val (.int p2), .val (.int p3), .val (.int p4), .val (.int p5), .val (.int (1 : Int32)), .val (.int p4), .unset, .unset] [(.int p4), (.int (p2 + (1 : Int32)))])) (fun t k => XS.iload X0.here hx rfl (hb hby d4_38) rfl k) ?_
        by_cases c101 : (p2 + (1 : Int32)) < p4
        · skip
          refine Gl.st (g' := (mkF m 43 #[.val (.int p1), .val (.int p2), .val (.int p3), .val (.int p4), .val (.int p5), .val (.int (1 : Int32)), .val (.int p4), .unset, .unset] [])) (fun t k => XS.icmpNo X0.here hx rfl (hb hby d4_40) rfl (XT.ii_ge_f c101) k) ?_
          refine Gl.st (g' := (mkF m 44 #[.val (.int p1), .val (.int p2), .val (.int p3), .val (.int p4), .val (.int p5), .val (.int (1 : Int32)), .val (.int p4), .unset, .unset] [(.int (0 : Int32))])) (fun t k => XT.iconstV X0.here hx rfl (0 : Int32) (hb hby d4_43) rfl k) ?_
          refine Gl.retZ X0 hx hlk .boolean (by simp) Bd.returns (hb hby d4_44) e0 (by decide) (by decide) ?_
          refine ⟨?_, N0, rfl⟩
          rw [own_z0]
          unfold own_ex
          rw [if_neg c92, if_neg c99, if_pos c100]
          unfold own_e2 own_w
          rw [if_pos c101]
        · skip
          refine Gl.st (g' := (mkF m 45 #[.val (.int p1), .val (.int p2), .val (.int p3), .val (.int p4), .val (.int p5), .val (.int (1 : Int32)), .val (.int p4), .unset, .unset] [])) (fun t k => XS.icmpYes X0.here hx rfl (pc0 := 40) (pc' := 45) rfl (hb hby d4_40) rfl (XT.ii_ge_t c101) (by decide) (by decide) k) ?_
          refine Gl.st (g' := (mkF m 47 #[.val (.int p1), .val (.int p2), .val (.int p3), .val (.int p4), .val (.int p5), .val (.int (1 : Int32)), .val (.int p4), .unset, .unset] [(.int (1 : Int32))])) (fun t k => XS.iload X0.here hx rfl (hb hby d4_45) rfl k) ?_
          refine Gl.st (g' := (mkF m 50 #[.val (.int p1), .val (.int p2), .val (.int p3), .val (.int p4), .val (.int p5), .val (.int (1 : Int32)), .val (.int p4), .unset, .unset] [])) (fun t k => XS.ifNo X0.here hx rfl (hb hby d4_47) rfl (XT.i0_eq_f (by decide)) k) ?_
          refine Gl.st (g' := (mkF m 51 #[.val (.int p1), .val (.int p2), .val (.int p3), .val (.int p4), .val (.int p5), .val (.int (1 : Int32)), .val (.int p4), .unset, .unset] [(.int p1)])) (fun t k => XS.iloadN X0.here hx rfl (hb hby d4_50) rfl k) ?_
          refine Gl.st (g' := (mkF m 57 #[.val (.int p1), .val (.int p2), .val (.int p3), .val (.int p4), .val (.int p5), .val (.int (1 : Int32)), .val (.int p4), .unset, .unset] [(.int p1)])) (fun t k => XS.goto X0.here hx rfl (pc0 := 51) (pc' := 57) rfl (hb hby d4_51) (by decide) (by decide) k) ?_
          refine Gl.st (g' := (mkF m 59 #[.val (.int p1), .val (.int p2), .val (.int p3), .val (.int p4), .val (.int p5), .val (.int (1 : Int32)), .val (.int p4), .val (.int p1), .unset] [])) (fun t k => XS.istore X0.here hx rfl (hb hby d4_57) rfl (l' := #[.val (.int p1), .val (.int p2), .val (.int p3), .val (.int p4), .val (.int p5), .val (.int (1 : Int32)), .val (.int p4), .val (.int p1), .unset]) rfl k) ?_
          refine Gl.st (g' := (mkF m 60 #[.val (.int p1), .val (.int p2), .val (.int p3), .val (.int p4), .val (.int p5), .val (.int (1 : Int32)), .val (.int p4), .val (.int p1), .unset] [(.int (1 : Int32))])) (fun t k => XT.iconstV X0.here hx rfl (1 : Int32) (hb hby d4_59) rfl k) ?_
          refine Gl.st (g' := (mkF m 62 #[.val (.int p1), .val (.int p2), .val (.int p3), .val (.int p4), .val (.int p5), .val (.int (1 : Int32)), .val (.int p4), .val (.int p1), .unset] [(.int p4), (.int (1 : Int32))])) (fun t k => XS.iload X0.here hx rfl (hb hby d4_60) rfl k) ?_
          refine Gl.st (g' := (mkF m 63 #[.val (.int p1), .val (.int p2), .val (.int p3), .val (.int p4), .val (.int p5), .val (.int (1 : Int32)), .val (.int p4), .val (.int p1), .unset] [(.int ((1 : Int32) <<< (p4 &&& 31)))])) (fun t k => XS.ishl X0.here hx rfl (hb hby d4_62) rfl k) ?_
          refine Gl.st (g' := (mkF m 64 #[.val (.int p1), .val (.int p2), .val (.int p3), .val (.int p4), .val (.int p5), .val (.int (1 : Int32)), .val (.int p4), .val (.int p1), .unset] [(.int (1 : Int32)), (.int ((1 : Int32) <<< (p4 &&& 31)))])) (fun t k => XT.iconstV X0.here hx rfl (1 : Int32) (hb hby d4_63) rfl k) ?_
          refine Gl.st (g' := (mkF m 65 #[.val (.int p1), .val (.int p2), .val (.int p3), .val (.int p4), .val (.int p5), .val (.int (1 : Int32)), .val (.int p4), .val (.int p1), .unset] [(.int (((1 : Int32) <<< (p4 &&& 31)) - (1 : Int32)))])) (fun t k => XS.isub X0.here hx rfl (hb hby d4_64) rfl k) ?_
          refine Gl.st (g' := (mkF m 66 #[.val (.int p1), .val (.int p2), .val (.int p3), .val (.int p4), .val (.int p5), .val (.int (1 : Int32)), .val (.int p4), .val (.int p1), .unset] [(.int p2), (.int (((1 : Int32) <<< (p4 &&& 31)) - (1 : Int32)))])) (fun t k => XS.iloadN X0.here hx rfl (hb hby d4_65) rfl k) ?_
          refine Gl.st (g' := (mkF m 67 #[.val (.int p1), .val (.int p2), .val (.int p3), .val (.int p4), .val (.int p5), .val (.int (1 : Int32)), .val (.int p4), .val (.int p1), .unset] [(.int (1 : Int32)), (.int p2), (.int (((1 : Int32) <<< (p4 &&& 31)) - (1 : Int32)))])) (fun t k => XT.iconstV X0.here hx rfl (1 : Int32) (hb hby d4_66) rfl k) ?_
          refine Gl.st (g' := (mkF m 68 #[.val (.int p1), .val (.int p2), .val (.int p3), .val (.int p4), .val (.int p5), .val (.int (1 : Int32)), .val (.int p4), .val (.int p1), .unset] [(.int (p2 + (1 : Int32))), (.int (((1 : Int32) <<< (p4 &&& 31)) - (1 : Int32)))])) (fun t k => XS.iadd X0.here hx rfl (hb hby d4_67) rfl k) ?_
          refine Gl.st (g' := (mkF m 70 #[.val (.int p1), .val (.int p2), .val (.int p3), .val (.int p4), .val (.int p5), .val (.int (1 : Int32)), .val (.int p4), .val (.int p1), .unset] [(.int p4), (.int (p2 + (1 : Int32))), (.int (((1 : Int32) <<< (p4 &&& 31)) - (1 : Int32)))])) (fun t k => XS.iload X0.here hx rfl (hb hby d4_68) rfl k) ?_
          refine Gl.st (g' := (mkF m 71 #[.val (.int p1), .val (.int p2), .val (.int p3), .val (.int p4), .val (.int p5), .val (.int (1 : Int32)), .val (.int p4), .val (.int p1), .unset] [(.int ((p2 + (1 : Int32)) - p4)), (.int (((1 : Int32) <<< (p4 &&& 31)) - (1 : Int32)))])) (fun t k => XS.isub X0.here hx rfl (hb hby d4_70) rfl k) ?_
          refine Gl.st (g' := (mkF m 72 #[.val (.int p1), .val (.int p2), .val (.int p3), .val (.int p4), .val (.int p5), .val (.int (1 : Int32)), .val (.int p4), .val (.int p1), .unset] [(.int ((((1 : Int32) <<< (p4 &&& 31)) - (1 : Int32)) <<< (((p2 + (1 : Int32)) - p4) &&& 31)))])) (fun t k => XS.ishl X0.here hx rfl (hb hby d4_71) rfl k) ?_
          refine Gl.st (g' := (mkF m 74 #[.val (.int p1), .val (.int p2), .val (.int p3), .val (.int p4), .val (.int p5), .val (.int (1 : Int32)), .val (.int p4), .val (.int p1), .val (.int ((((1 : Int32) <<< (p4 &&& 31)) - (1 : Int32)) <<< (((p2 + (1 : Int32)) - p4) &&& 31)))] [])) (fun t k => XS.istore X0.here hx rfl (hb hby d4_72) rfl (l' := #[.val (.int p1), .val (.int p2), .val (.int p3), .val (.int p4), .val (.int p5), .val (.int (1 : Int32)), .val (.int p4), .val (.int p1), .val (.int ((((1 : Int32) <<< (p4 &&& 31)) - (1 : Int32)) <<< (((p2 + (1 : Int32)) - p4) &&& 31)))]) rfl k) ?_
          refine Gl.st (g' := (mkF m 76 #[.val (.int p1), .val (.int p2), .val (.int p3), .val (.int p4), .val (.int p5), .val (.int (1 : Int32)), .val (.int p4), .val (.int p1), .val (.int ((((1 : Int32) <<< (p4 &&& 31)) - (1 : Int32)) <<< (((p2 + (1 : Int32)) - p4) &&& 31)))] [(.int p1)])) (fun t k => XS.iload X0.here hx rfl (hb hby d4_74) rfl k) ?_
          refine Gl.st (g' := (mkF m 78 #[.val (.int p1), .val (.int p2), .val (.int p3), .val (.int p4), .val (.int p5), .val (.int (1 : Int32)), .val (.int p4), .val (.int p1), .val (.int ((((1 : Int32) <<< (p4 &&& 31)) - (1 : Int32)) <<< (((p2 + (1 : Int32)) - p4) &&& 31)))] [(.int ((((1 : Int32) <<< (p4 &&& 31)) - (1 : Int32)) <<< (((p2 + (1 : Int32)) - p4) &&& 31))), (.int p1)])) (fun t k => XS.iload X0.here hx rfl (hb hby d4_76) rfl k) ?_
          refine Gl.st (g' := (mkF m 79 #[.val (.int p1), .val (.int p2), .val (.int p3), .val (.int p4), .val (.int p5), .val (.int (1 : Int32)), .val (.int p4), .val (.int p1), .val (.int ((((1 : Int32) <<< (p4 &&& 31)) - (1 : Int32)) <<< (((p2 + (1 : Int32)) - p4) &&& 31)))] [(.int (p1 &&& ((((1 : Int32) <<< (p4 &&& 31)) - (1 : Int32)) <<< (((p2 + (1 : Int32)) - p4) &&& 31))))])) (fun t k => XS.iand X0.here hx rfl (hb hby d4_78) rfl k) ?_
          refine Gl.st (g' := (mkF m 81 #[.val (.int p1), .val (.int p2), .val (.int p3), .val (.int p4), .val (.int p5), .val (.int (1 : Int32)), .val (.int p4), .val (.int p1), .val (.int ((((1 : Int32) <<< (p4 &&& 31)) - (1 : Int32)) <<< (((p2 + (1 : Int32)) - p4) &&& 31)))] [(.int ((((1 : Int32) <<< (p4 &&& 31)) - (1 : Int32)) <<< (((p2 + (1 : Int32)) - p4) &&& 31))), (.int (p1 &&& ((((1 : Int32) <<< (p4 &&& 31)) - (1 : Int32)) <<< (((p2 + (1 : Int32)) - p4) &&& 31))))])) (fun t k => XS.iload X0.here hx rfl (hb hby d4_79) rfl k) ?_
          by_cases c102 : (p1 &&& ((((1 : Int32) <<< (p4 &&& 31)) - (1 : Int32)) <<< (((p2 + (1 : Int32)) - p4) &&& 31))) = ((((1 : Int32) <<< (p4 &&& 31)) - (1 : Int32)) <<< (((p2 + (1 : Int32)) - p4) &&& 31))
          · skip
            refine Gl.st (g' := (mkF m 84 #[.val (.int p1), .val (.int p2), .val (.int p3), .val (.int p4), .val (.int p5), .val (.int (1 : Int32)), .val (.int p4), .val (.int p1), .val (.int ((((1 : Int32) <<< (p4 &&& 31)) - (1 : Int32)) <<< (((p2 + (1 : Int32)) - p4) &&& 31)))] [])) (fun t k => XS.icmpNo X0.here hx rfl (hb hby d4_81) rfl (XT.ii_ne_f c102) k) ?_
            refine Gl.st (g' := (mkF m 85 #[.val (.int p1), .val (.int p2), .val (.int p3), .val (.int p4), .val (.int p5), .val (.int (1 : Int32)), .val (.int p4), .val (.int p1), .val (.int ((((1 : Int32) <<< (p4 &&& 31)) - (1 : Int32)) <<< (((p2 + (1 : Int32)) - p4) &&& 31)))] [(.int (1 : Int32))])) (fun t k => XT.iconstV X0.here hx rfl (1 : Int32) (hb hby d4_84) rfl k) ?_
            refine Gl.st (g' := (mkF m 89 #[.val (.int p1), .val (.int p2), .val (.int p3), .val (.int p4), .val (.int p5), .val (.int (1 : Int32)), .val (.int p4), .val (.int p1), .val (.int ((((1 : Int32) <<< (p4 &&& 31)) - (1 : Int32)) <<< (((p2 + (1 : Int32)) - p4) &&& 31)))] [(.int (1 : Int32))])) (fun t k => XS.goto X0.here hx rfl (pc0 := 85) (pc' := 89) rfl (hb hby d4_85) (by decide) (by decide) k) ?_
            refine Gl.retZ X0 hx hlk .boolean (by simp) Bd.returns (hb hby d4_89) e0 (by decide) (by decide) ?_
            refine ⟨?_, N0, rfl⟩
            rw [own_z1]
            unfold own_ex
            rw [if_neg c92, if_neg c99, if_pos c100]
            unfold own_e2 own_w
            rw [if_neg c101, if_pos c102]
          · skip
            refine Gl.st (g' := (mkF m 88 #[.val (.int p1), .val (.int p2), .val (.int p3), .val (.int p4), .val (.int p5), .val (.int (1 : Int32)), .val (.int p4), .val (.int p1), .val (.int ((((1 : Int32) <<< (p4 &&& 31)) - (1 : Int32)) <<< (((p2 + (1 : Int32)) - p4) &&& 31)))] [])) (fun t k => XS.icmpYes X0.here hx rfl (pc0 := 81) (pc' := 88) rfl (hb hby d4_81) rfl (XT.ii_ne_t c102) (by decide) (by decide) k) ?_
            refine Gl.st (g' := (mkF m 89 #[.val (.int p1), .val (.int p2), .val (.int p3), .val (.int p4), .val (.int p5), .val (.int (1 : Int32)), .val (.int p4), .val (.int p1), .val (.int ((((1 : Int32) <<< (p4 &&& 31)) - (1 : Int32)) <<< (((p2 + (1 : Int32)) - p4) &&& 31)))] [(.int (0 : Int32))])) (fun t k => XT.iconstV X0.here hx rfl (0 : Int32) (hb hby d4_88) rfl k) ?_
            refine Gl.retZ X0 hx hlk .boolean (by simp) Bd.returns (hb hby d4_89) e0 (by decide) (by decide) ?_
            refine ⟨?_, N0, rfl⟩
            rw [own_z0]
            unfold own_ex
            rw [if_neg c92, if_neg c99, if_pos c100]
            unfold own_e2 own_w
            rw [if_neg c101, if_neg c102]
      · skip
        refine Gl.st (g' := (mkF m 27 #[.val (.int p1), .val (.int p2), .val (.int p3), .val (.int p4), .val (.int p5), .val (.int (1 : Int32)), .unset, .unset, .unset] [])) (fun t k => XS.ifNo X0.here hx rfl (hb hby d4_24) rfl (XT.i0_eq_f c100) k) ?_
        refine Gl.st (g' := (mkF m 29 #[.val (.int p1), .val (.int p2), .val (.int p3), .val (.int p4), .val (.int p5), .val (.int (1 : Int32)), .unset, .unset, .unset] [(.int p5)])) (fun t k => XS.iload X0.here hx rfl (hb hby d4_27) rfl k) ?_
        refine Gl.st (g' := (mkF m 33 #[.val (.int p1), .val (.int p2), .val (.int p3), .val (.int p4), .val (.int p5), .val (.int (1 : Int32)), .unset, .unset, .unset] [(.int p5)])) (fun t k => XS.goto X0.here hx rfl (pc0 := 29) (pc' := 33) rfl (hb hby d4_29) (by decide) (by decide) k) ?_
        refine Gl.st (g' := (mkF m 35 #[.val (.int p1), .val (.int p2), .val (.int p3), .val (.int p4), .val (.int p5), .val (.int (1 : Int32)), .val (.int p5), .unset, .unset] [])) (fun t k => XS.istore X0.here hx rfl (hb hby d4_33) rfl (l' := #[.val (.int p1), .val (.int p2), .val (.int p3), .val (.int p4), .val (.int p5), .val (.int (1 : Int32)), .val (.int p5), .unset, .unset]) rfl k) ?_
        refine Gl.st (g' := (mkF m 36 #[.val (.int p1), .val (.int p2), .val (.int p3), .val (.int p4), .val (.int p5), .val (.int (1 : Int32)), .val (.int p5), .unset, .unset] [(.int p2)])) (fun t k => XS.iloadN X0.here hx rfl (hb hby d4_35) rfl k) ?_
        refine Gl.st (g' := (mkF m 37 #[.val (.int p1), .val (.int p2), .val (.int p3), .val (.int p4), .val (.int p5), .val (.int (1 : Int32)), .val (.int p5), .unset, .unset] [(.int (1 : Int32)), (.int p2)])) (fun t k => XT.iconstV X0.here hx rfl (1 : Int32) (hb hby d4_36) rfl k) ?_
        refine Gl.st (g' := (mkF m 38 #[.val (.int p1), .val (.int p2), .val (.int p3), .val (.int p4), .val (.int p5), .val (.int (1 : Int32)), .val (.int p5), .unset, .unset] [(.int (p2 + (1 : Int32)))])) (fun t k => XS.iadd X0.here hx rfl (hb hby d4_37) rfl k) ?_
        refine Gl.st (g' := (mkF m 40 #[.val (.int p1), .val (.int p2), .val (.int p3), .val (.int p4), .val (.int p5), .val (.int (1 : Int32)), .val (.int p5), .unset, .unset] [(.int p5), (.int (p2 + (1 : Int32)))])) (fun t k => XS.iload X0.here hx rfl (hb hby d4_38) rfl k) ?_
        by_cases c103 : (p2 + (1 : Int32)) < p5
        · skip
          refine Gl.st (g' := (mkF m 43 #[.val (.int p1), .val (.int p2), .val (.int p3), .val (.int p4), .val (.int p5), .val (.int (1 : Int32)), .val (.int p5), .unset, .unset] [])) (fun t k => XS.icmpNo X0.here hx rfl (hb hby d4_40) rfl (XT.ii_ge_f c103) k) ?_
          refine Gl.st (g' := (mkF m 44 #[.val (.int p1), .val (.int p2), .val (.int p3), .val (.int p4), .val (.int p5), .val (.int (1 : Int32)), .val (.int p5), .unset, .unset] [(.int (0 : Int32))])) (fun t k => XT.iconstV X0.here hx rfl (0 : Int32) (hb hby d4_43) rfl k) ?_
          refine Gl.retZ X0 hx hlk .boolean (by simp) Bd.returns (hb hby d4_44) e0 (by decide) (by decide) ?_
          refine ⟨?_, N0, rfl⟩
          rw [own_z0]
          unfold own_ex
          rw [if_neg c92, if_neg c99, if_neg c100]
          unfold own_e2 own_w
          rw [if_pos c103]
        · skip
          refine Gl.st (g' := (mkF m 45 #[.val (.int p1), .val (.int p2), .val (.int p3), .val (.int p4), .val (.int p5), .val (.int (1 : Int32)), .val (.int p5), .unset, .unset] [])) (fun t k => XS.icmpYes X0.here hx rfl (pc0 := 40) (pc' := 45) rfl (hb hby d4_40) rfl (XT.ii_ge_t c103) (by decide) (by decide) k) ?_
          refine Gl.st (g' := (mkF m 47 #[.val (.int p1), .val (.int p2), .val (.int p3), .val (.int p4), .val (.int p5), .val (.int (1 : Int32)), .val (.int p5), .unset, .unset] [(.int (1 : Int32))])) (fun t k => XS.iload X0.here hx rfl (hb hby d4_45) rfl k) ?_
          refine Gl.st (g' := (mkF m 50 #[.val (.int p1), .val (.int p2), .val (.int p3), .val (.int p4), .val (.int p5), .val (.int (1 : Int32)), .val (.int p5), .unset, .unset] [])) (fun t k => XS.ifNo X0.here hx rfl (hb hby d4_47) rfl (XT.i0_eq_f (by decide)) k) ?_
          refine Gl.st (g' := (mkF m 51 #[.val (.int p1), .val (.int p2), .val (.int p3), .val (.int p4), .val (.int p5), .val (.int (1 : Int32)), .val (.int p5), .unset, .unset] [(.int p1)])) (fun t k => XS.iloadN X0.here hx rfl (hb hby d4_50) rfl k) ?_
          refine Gl.st (g' := (mkF m 57 #[.val (.int p1), .val (.int p2), .val (.int p3), .val (.int p4), .val (.int p5), .val (.int (1 : Int32)), .val (.int p5), .unset, .unset] [(.int p1)])) (fun t k => XS.goto X0.here hx rfl (pc0 := 51) (pc' := 57) rfl (hb hby d4_51) (by decide) (by decide) k) ?_
          refine Gl.st (g' := (mkF m 59 #[.val (.int p1), .val (.int p2), .val (.int p3), .val (.int p4), .val (.int p5), .val (.int (1 : Int32)), .val (.int p5), .val (.int p1), .unset] [])) (fun t k => XS.istore X0.here hx rfl (hb hby d4_57) rfl (l' := #[.val (.int p1), .val (.int p2), .val (.int p3), .val (.int p4), .val (.int p5), .val (.int (1 : Int32)), .val (.int p5), .val (.int p1), .unset]) rfl k) ?_
          refine Gl.st (g' := (mkF m 60 #[.val (.int p1), .val (.int p2), .val (.int p3), .val (.int p4), .val (.int p5), .val (.int (1 : Int32)), .val (.int p5), .val (.int p1), .unset] [(.int (1 : Int32))])) (fun t k => XT.iconstV X0.here hx rfl (1 : Int32) (hb hby d4_59) rfl k) ?_
          refine Gl.st (g' := (mkF m 62 #[.val (.int p1), .val (.int p2), .val (.int p3), .val (.int p4), .val (.int p5), .val (.int (1 : Int32)), .val (.int p5), .val (.int p1), .unset] [(.int p5), (.int (1 : Int32))])) (fun t k => XS.iload X0.here hx rfl (hb hby d4_60) rfl k) ?_
          refine Gl.st (g' := (mkF m 63 #[.val (.int p1), .val (.int p2), .val (.int p3), .val (.int p4), .val (.int p5), .val (.int (1 : Int32)), .val (.int p5), .val (.int p1), .unset] [(.int ((1 : Int32) <<< (p5 &&& 31)))])) (fun t k => XS.ishl X0.here hx rfl (hb hby d4_62) rfl k) ?_
          refine Gl.st (g' := (mkF m 64 #[.val (.int p1), .val (.int p2), .val (.int p3), .val (.int p4), .val (.int p5), .val (.int (1 : Int32)), .val (.int p5), .val (.int p1), .unset] [(.int (1 : Int32)), (.int ((1 : Int32) <<< (p5 &&& 31)))])) (fun t k => XT.iconstV X0.here hx rfl (1 : Int32) (hb hby d4_63) rfl k) ?_
          refine Gl.st (g' := (mkF m 65 #[.val (.int p1), .val (.int p2), .val (.int p3), .val (.int p4), .val (.int p5), .val (.int (1 : Int32)), .val (.int p5), .val (.int p1), .unset] [(.int (((1 : Int32) <<< (p5 &&& 31)) - (1 : Int32)))])) (fun t k => XS.isub X0.here hx rfl (hb hby d4_64) rfl k) ?_
          refine Gl.st (g' := (mkF m 66 #[.val (.int p1), .val (.int p2), .val (.int p3), .val (.int p4), .val (.int p5), .val (.int (1 : Int32)), .val (.int p5), .val (.int p1), .unset] [(.int p2), (.int (((1 : Int32) <<< (p5 &&& 31)) - (1 : Int32)))])) (fun t k => XS.iloadN X0.here hx rfl (hb hby d4_65) rfl k) ?_
          refine Gl.st (g' := (mkF m 67 #[.val (.int p1), .val (.int p2), .val (.int p3), .val (.int p4), .val (.int p5), .val (.int (1 : Int32)), .val (.int p5), .val (.int p1), .unset] [(.int (1 : Int32)), (.int p2), (.int (((1 : Int32) <<< (p5 &&& 31)) - (1 : Int32)))])) (fun t k => XT.iconstV X0.here hx rfl (1 : Int32) (hb hby d4_66) rfl k) ?_
          refine Gl.st (g' := (mkF m 68 #[.val (.int p1), .val (.int p2), .val (.int p3), .val (.int p4), .val (.int p5), .val (.int (1 : Int32)), .val (.int p5), .val (.int p1), .unset] [(.int (p2 + (1 : Int32))), (.int (((1 : Int32) <<< (p5 &&& 31)) - (1 : Int32)))])) (fun t k => XS.iadd X0.here hx rfl (hb hby d4_67) rfl k) ?_
          refine Gl.st (g' := (mkF m 70 #[.val (.int p1), .val (.int p2), .val (.int p3), .val (.int p4), .val (.int p5), .val (.int (1 : Int32)), .val (.int p5), .val (.int p1), .unset] [(.int p5), (.int (p2 + (1 : Int32))), (.int (((1 : Int32) <<< (p5 &&& 31)) - (1 : Int32)))])) (fun t k => XS.iload X0.here hx rfl (hb hby d4_68) rfl k) ?_
          refine Gl.st (g' := (mkF m 71 #[.val (.int p1), .val (.int p2), .val (.int p3), .val (.int p4), .val (.int p5), .val (.int (1 : Int32)), .val (.int p5), .val (.int p1), .unset] [(.int ((p2 + (1 : Int32)) - p5)), (.int (((1 : Int32) <<< (p5 &&& 31)) - (1 : Int32)))])) (fun t k => XS.isub X0.here hx rfl (hb hby d4_70) rfl k) ?_
          refine Gl.st (g' := (mkF m 72 #[.val (.int p1), .val (.int p2), .val (.int p3), .val (.int p4), .val (.int p5), .val (.int (1 : Int32)), .val (.int p5), .val (.int p1), .unset] [(.int ((((1 : Int32) <<< (p5 &&& 31)) - (1 : Int32)) <<< (((p2 + (1 : Int32)) - p5) &&& 31)))])) (fun t k => XS.ishl X0.here hx rfl (hb hby d4_71) rfl k) ?_
          refine Gl.st (g' := (mkF m 74 #[.val (.int p1), .val (.int p2), .val (.int p3), .val (.int p4), .val (.int p5), .val (.int (1 : Int32)), .val (.int p5), .val (.int p1), .val (.int ((((1 : Int32) <<< (p5 &&& 31)) - (1 : Int32)) <<< (((p2 + (1 : Int32)) - p5) &&& 31)))] [])) (fun t k => XS.istore X0.here hx rfl (hb hby d4_72) rfl (l' := #[.val (.int p1), .val (.int p2), .val (.int p3), .val (.int p4), .val (.int p5), .val (.int (1 : Int32)), .val (.int p5), .val (.int p1), .val (.int ((((1 : Int32) <<< (p5 &&& 31)) - (1 : Int32)) <<< (((p2 + (1 : Int32)) - p5) &&& 31)))]) rfl k) ?_
          refine Gl.st (g' := (mkF m 76 #[.val (.int p1), .val (.int p2), .val (.int p3), .val (.int p4), .val (.int p5), .val (.int (1 : Int32)), .val (.int p5), .val (.int p1), .val (.int ((((1 : Int32) <<< (p5 &&& 31)) - (1 : Int32)) <<< (((p2 + (1 : Int32)) - p5) &&& 31)))] [(.int p1)])) (fun t k => XS.iload X0.here hx rfl (hb hby d4_74) rfl k) ?_
          refine Gl.st (g' := (mkF m 78 #[.val (.int p1), .val (.int p2), .val (.int p3), .val (.int p4), .val (.int p5), .val (.int (1 : Int32)), .val (.int p5), .val (.int p1), .val (.int ((((1 : Int32) <<< (p5 &&& 31)) - (1 : Int32)) <<< (((p2 + (1 : Int32)) - p5) &&& 31)))] [(.int ((((1 : Int32) <<< (p5 &&& 31)) - (1 : Int32)) <<< (((p2 + (1 : Int32)) - p5) &&& 31))), (.int p1)])) (fun t k => XS.iload X0.here hx rfl (hb hby d4_76) rfl k) ?_
          refine Gl.st (g' := (mkF m 79 #[.val (.int p1), .val (.int p2), .val (.int p3), .val (.int p4), .val (.int p5), .val (.int (1 : Int32)), .val (.int p5), .val (.int p1), .val (.int ((((1 : Int32) <<< (p5 &&& 31)) - (1 : Int32)) <<< (((p2 + (1 : Int32)) - p5) &&& 31)))] [(.int (p1 &&& ((((1 : Int32) <<< (p5 &&& 31)) - (1 : Int32)) <<< (((p2 + (1 : Int32)) - p5) &&& 31))))])) (fun t k => XS.iand X0.here hx rfl (hb hby d4_78) rfl k) ?_
          refine Gl.st (g' := (mkF m 81 #[.val (.int p1), .val (.int p2), .val (.int p3), .val (.int p4), .val (.int p5), .val (.int (1 : Int32)), .val (.int p5), .val (.int p1), .val (.int ((((1 : Int32) <<< (p5 &&& 31)) - (1 : Int32)) <<< (((p2 + (1 : Int32)) - p5) &&& 31)))] [(.int ((((1 : Int32) <<< (p5 &&& 31)) - (1 : Int32)) <<< (((p2 + (1 : Int32)) - p5) &&& 31))), (.int (p1 &&& ((((1 : Int32) <<< (p5 &&& 31)) - (1 : Int32)) <<< (((p2 + (1 : Int32)) - p5) &&& 31))))])) (fun t k => XS.iload X0.here hx rfl (hb hby d4_79) rfl k) ?_
          by_cases c104 : (p1 &&& ((((1 : Int32) <<< (p5 &&& 31)) - (1 : Int32)) <<< (((p2 + (1 : Int32)) - p5) &&& 31))) = ((((1 : Int32) <<< (p5 &&& 31)) - (1 : Int32)) <<< (((p2 + (1 : Int32)) - p5) &&& 31))
          · skip
            refine Gl.st (g' := (mkF m 84 #[.val (.int p1), .val (.int p2), .val (.int p3), .val (.int p4), .val (.int p5), .val (.int (1 : Int32)), .val (.int p5), .val (.int p1), .val (.int ((((1 : Int32) <<< (p5 &&& 31)) - (1 : Int32)) <<< (((p2 + (1 : Int32)) - p5) &&& 31)))] [])) (fun t k => XS.icmpNo X0.here hx rfl (hb hby d4_81) rfl (XT.ii_ne_f c104) k) ?_
            refine Gl.st (g' := (mkF m 85 #[.val (.int p1), .val (.int p2), .val (.int p3), .val (.int p4), .val (.int p5), .val (.int (1 : Int32)), .val (.int p5), .val (.int p1), .val (.int ((((1 : Int32) <<< (p5 &&& 31)) - (1 : Int32)) <<< (((p2 + (1 : Int32)) - p5) &&& 31)))] [(.int (1 : Int32))])) (fun t k => XT.iconstV X0.here hx rfl (1 : Int32) (hb hby d4_84) rfl k) ?_
            refine Gl.st (g' := (mkF m 89 #[.val (.int p1), .val (.int p2), .val (.int p3), .val (.int p4), .val (.int p5), .val (.int (1 : Int32)), .val (.int p5), .val (.int p1), .val (.int ((((1 : Int32) <<< (p5 &&& 31)) - (1 : Int32)) <<< (((p2 + (1 : Int32)) - p5) &&& 31)))] [(.int (1 : Int32))])) (fun t k => XS.goto X0.here hx rfl (pc0 := 85) (pc' := 89) rfl (hb hby d4_85) (by decide) (by decide) k) ?_
            refine Gl.retZ X0 hx hlk .boolean (by simp) Bd.returns (hb hby d4_89) e0 (by decide) (by decide) ?_
            refine ⟨?_, N0, rfl⟩
            rw [own_z1]
            unfold own_ex
            rw [if_neg c92, if_neg c99, if_neg c100]
            unfold own_e2 own_w
            rw [if_neg c103, if_pos c104]
          · skip
            refine Gl.st (g' := (mkF m 88 #[.val (.int p1), .val (.int p2), .val (.int p3), .val (.int p4), .val (.int p5), .val (.int (1 : Int32)), .val (.int p5), .val (.int p1), .val (.int ((((1 : Int32) <<< (p5 &&& 31)) - (1 : Int32)) <<< (((p2 + (1 : Int32)) - p5) &&& 31)))] [])) (fun t k => XS.icmpYes X0.here hx rfl (pc0 := 81) (pc' := 88) rfl (hb hby d4_81) rfl (XT.ii_ne_t c104) (by decide) (by decide) k) ?_
            refine Gl.st (g' := (mkF m 89 #[.val (.int p1), .val (.int p2), .val (.int p3), .val (.int p4), .val (.int p5), .val (.int (1 : Int32)), .val (.int p5), .val (.int p1), .val (.int ((((1 : Int32) <<< (p5 &&& 31)) - (1 : Int32)) <<< (((p2 + (1 : Int32)) - p5) &&& 31)))] [(.int (0 : Int32))])) (fun t k => XT.iconstV X0.here hx rfl (0 : Int32) (hb hby d4_88) rfl k) ?_
            refine Gl.retZ X0 hx hlk .boolean (by simp) Bd.returns (hb hby d4_89) e0 (by decide) (by decide) ?_
            refine ⟨?_, N0, rfl⟩
            rw [own_z0]
            unfold own_ex
            rw [if_neg c92, if_neg c99, if_neg c100]
            unfold own_e2 own_w
            rw [if_neg c103, if_neg c104]
theorem pd_0 : parseMethodDescriptor "(II)V" = some ⟨[.int, .int], none⟩ := by decide +kernel
theorem pd_1 : parseMethodDescriptor "(Z)Z" = some ⟨[.boolean], some .boolean⟩ := by decide +kernel
theorem pd_2 : parseMethodDescriptor "()Z" = some ⟨[], some .boolean⟩ := by decide +kernel
theorem pd_3 : parseMethodDescriptor "(IIZII)Z" = some ⟨[.int, .int, .boolean, .int, .int], some .boolean⟩ := by decide +kernel
theorem d5_0 : decode method_3_code 0 = .ok (.iload_n 1, 1) := by decide +kernel
theorem d5_1 : decode method_3_code 1 = .ok (.iload_n 2, 1) := by decide +kernel
theorem d5_2 : decode method_3_code 2 = .ok (.iload_n 3, 1) := by decide +kernel
theorem d5_3 : decode method_3_code 3 = .ok (.iload 4, 2) := by decide +kernel
theorem d5_5 : decode method_3_code 5 = .ok (.iload 5, 2) := by decide +kernel
theorem d5_7 : decode method_3_code 7 = .ok (.invokestatic 7, 3) := by decide +kernel
theorem d5_10 : decode method_3_code 10 = .ok (.istore 6, 2) := by decide +kernel
theorem d5_12 : decode method_3_code 12 = .ok (.aload_n 0, 1) := by decide +kernel
theorem d5_13 : decode method_3_code 13 = .ok (.iload_n 1, 1) := by decide +kernel
theorem d5_14 : decode method_3_code 14 = .ok (.iload_n 2, 1) := by decide +kernel
theorem d5_15 : decode method_3_code 15 = .ok (.ishr, 1) := by decide +kernel
theorem d5_16 : decode method_3_code 16 = .ok (.iconst 1, 1) := by decide +kernel
theorem d5_17 : decode method_3_code 17 = .ok (.iand, 1) := by decide +kernel
theorem d5_18 : decode method_3_code 18 = .ok (.ifCond .eq 7, 3) := by decide +kernel
theorem d5_21 : decode method_3_code 21 = .ok (.iconst 1, 1) := by decide +kernel
theorem d5_22 : decode method_3_code 22 = .ok (.goto 4, 3) := by decide +kernel
theorem d5_25 : decode method_3_code 25 = .ok (.iconst 0, 1) := by decide +kernel
theorem d5_26 : decode method_3_code 26 = .ok (.invokevirtual 13, 3) := by decide +kernel
theorem d5_29 : decode method_3_code 29 = .ok (.istore 7, 2) := by decide +kernel
theorem d5_31 : decode method_3_code 31 = .ok (.iload 6, 2) := by decide +kernel
theorem d5_33 : decode method_3_code 33 = .ok (.ifCond .eq 15, 3) := by decide +kernel
theorem d5_36 : decode method_3_code 36 = .ok (.iload_n 3, 1) := by decide +kernel
theorem d5_37 : decode method_3_code 37 = .ok (.ifCond .ne 7, 3) := by decide +kernel
theorem d5_40 : decode method_3_code 40 = .ok (.iconst 1, 1) := by decide +kernel
theorem d5_41 : decode method_3_code 41 = .ok (.goto 8, 3) := by decide +kernel
theorem d5_44 : decode method_3_code 44 = .ok (.iconst 0, 1) := by decide +kernel
theorem d5_45 : decode method_3_code 45 = .ok (.goto 4, 3) := by decide +kernel
theorem d5_48 : decode method_3_code 48 = .ok (.iload_n 3, 1) := by decide +kernel
theorem d5_49 : decode method_3_code 49 = .ok (.istore 8, 2) := by decide +kernel
theorem d5_51 : decode method_3_code 51 = .ok (.iload 7, 2) := by decide +kernel
theorem d5_53 : decode method_3_code 53 = .ok (.iload 6, 2) := by decide +kernel
theorem d5_55 : decode method_3_code 55 = .ok (.if_icmp .ne 7, 3) := by decide +kernel
theorem d5_58 : decode method_3_code 58 = .ok (.iconst 1, 1) := by decide +kernel
theorem d5_59 : decode method_3_code 59 = .ok (.goto 4, 3) := by decide +kernel
theorem d5_62 : decode method_3_code 62 = .ok (.iconst 0, 1) := by decide +kernel
theorem d5_63 : decode method_3_code 63 = .ok (.iload 8, 2) := by decide +kernel
theorem d5_65 : decode method_3_code 65 = .ok (.ifCond .eq 7, 3) := by decide +kernel
theorem d5_68 : decode method_3_code 68 = .ok (.iconst 2, 1) := by decide +kernel
theorem d5_69 : decode method_3_code 69 = .ok (.goto 4, 3) := by decide +kernel
theorem d5_72 : decode method_3_code 72 = .ok (.iconst 0, 1) := by decide +kernel
theorem d5_73 : decode method_3_code 73 = .ok (.ior, 1) := by decide +kernel
theorem d5_74 : decode method_3_code 74 = .ok (.ireturn, 1) := by decide +kernel
theorem ef_5 (m : MethodId) (a1 : Addr) (p1 : Int32) (p2 : Int32) (p3 : Int32) (p4 : Int32) (p5 : Int32) : entryFrame m #[(.ref a1), (.int p1), (.int p2), (.int p3), (.int p4), (.int p5)] 9 = mkF m 0 #[.val (.ref a1), .val (.int p1), .val (.int p2), .val (.int p3), .val (.int p4), .val (.int p5), .unset, .unset, .unset] [] := by first | (simp [entryFrame, mkF, argsToLocals, Value.category]; done) | rfl
def Q5 (Z : State) (a1 : Addr) (p1 : Int32) (p2 : Int32) (p3 : Int32) (p4 : Int32) (p5 : Int32) (hl ag : Int32) (h0 : Heap) (n0 : Nat) (v : Option Value) (h : Heap) (L : List Loc) : Prop := v = some (.int (own_sv (own_ex p1 p2 p3 p4 p5) (own_pr p4 p5 hl ag (own_pb p1 p2)).1 p3)) ∧ Fr n0 L ∧ n0 ≤ h.size ∧ Exa Z h a1 "com/example/outlier/outlier/health/HealthState" ∧ Fld Z h a1 "com/example/outlier/outlier/health/HealthState" "healthyThreshold" "I" (.int p4) ∧ Fld Z h a1 "com/example/outlier/outlier/health/HealthState" "unhealthyThreshold" "I" (.int p5) ∧ Fld Z h a1 "com/example/outlier/outlier/health/HealthState" "healthy" "Z" (.int (own_pr p4 p5 hl ag (own_pb p1 p2)).2.1) ∧ Fld Z h a1 "com/example/outlier/outlier/health/HealthState" "against" "I" (.int (own_pr p4 p5 hl ag (own_pb p1 p2)).2.2)
set_option maxRecDepth 65536 in
set_option maxHeartbeats 40000000 in
theorem rm5 (l : Launch) (Z : State) (a0 : Array Value) (hw : ∀ d ∈ tables_1, d.before a0 Z = true) (a1 : Addr) (p1 : Int32) (p2 : Int32) (p3 : Int32) (p4 : Int32) (p5 : Int32) (hl ag : Int32) (h0 : Heap) (n0 : Nat) (Z0 : n0 ≤ h0.size) (EX : Exa Z h0 a1 "com/example/outlier/outlier/health/HealthState") (FhealthyThreshold : Fld Z h0 a1 "com/example/outlier/outlier/health/HealthState" "healthyThreshold" "I" (.int p4)) (FunhealthyThreshold : Fld Z h0 a1 "com/example/outlier/outlier/health/HealthState" "unhealthyThreshold" "I" (.int p5)) (Fhealthy : Fld Z h0 a1 "com/example/outlier/outlier/health/HealthState" "healthy" "Z" (.int hl)) (Fagainst : Fld Z h0 a1 "com/example/outlier/outlier/health/HealthState" "against" "I" (.int ag)) (gA : n0 ≤ a1) :
    MetFree l (⟨"com/example/outlier/outlier/health/HealthStateProbedPinLaw", "step", "(Lcom/example/outlier/outlier/health/HealthState;IIZII)I"⟩ : MethodName) (head1 [Jvm.Cond.code (⟨"com/example/outlier/outlier/health/HealthStateProbedPinLaw", "step", "(Lcom/example/outlier/outlier/health/HealthState;IIZII)I"⟩ : MethodName) method_3_code 9 (some .int)] ({ frames := 1, cells := 0, slots := 0, locals := 20 } : Room)) (fun a U => a = #[(.ref a1), (.int p1), (.int p2), (.int p3), (.int p4), (.int p5)] ∧ Z.Warmed39 U.vm ∧ U.heap = h0) (fun _ _ _ _ _ => True) (fun _ U o U' => ∃ v L, o = .returned v ∧ Q5 Z a1 p1 p2 p3 p4 p5 hl ag h0 n0 v U'.heap L ∧ FrameEnd U o U' L ({ frames := 1, cells := 0, slots := 0, locals := 20 } : Room).cells ({ frames := 1, cells := 0, slots := 0, locals := 20 } : Room).slots) := by
  refine MetFree.of_bodySF (plainFor_of_name pn_1) hisR ?_
  intro p e s m args below meth c s₁ Bd hml0 hP hK
  obtain ⟨rfl, hZ, hh⟩ := hP
  have hx := Bd.exec
  have hby := Bd.bytes
  have hlk : meth.locks = false := Bd.notSynchronized
  have hml : c.maxLocals = 9 := hml0
  have hown : s.vm.findClass "com/example/outlier/outlier/health/HealthStateProbedPinLaw" = some m.cls := findClass_of_methodNamed Bd.named
  have hnm := (name_of_methodNamed Bd.named Bd.method).1
  have X0 : Stand p l e ({ frames := 1, cells := 0, slots := 0, locals := 20 } : Room) s m #[(.ref a1), (.int p1), (.int p2), (.int p3), (.int p4), (.int p5)] below meth c s₁ [] 0 0 := Stand.of_body Bd
  have e0 : s₁.heap = h0 := by rw [← hh, Bd.state]; rfl
  have N0 := Fr.nil n0
  show Gl p e below s (Q5 Z a1 p1 p2 p3 p4 p5 hl ag h0 n0) 0 0 s₁ (entryFrame m #[(.ref a1), (.int p1), (.int p2), (.int p3), (.int p4), (.int p5)] 9)
  rw [ef_5 m a1 p1 p2 p3 p4 p5]
  refine Gl.st (g' := (mkF m 1 #[.val (.ref a1), .val (.int p1), .val (.int p2), .val (.int p3), .val (.int p4), .val (.int p5), .unset, .unset, .unset] [(.int p1)])) (fun t k => XS.iloadN X0.here hx rfl (hb hby d5_0) rfl k) ?_
  refine Gl.st (g' := (mkF m 2 #[.val (.ref a1), .val (.int p1), .val (.int p2), .val (.int p3), .val (.int p4), .val (.int p5), .unset, .unset, .unset] [(.int p2), (.int p1)])) (fun t k => XS.iloadN X0.here hx rfl (hb hby d5_1) rfl k) ?_
  refine Gl.st (g' := (mkF m 3 #[.val (.ref a1), .val (.int p1), .val (.int p2), .val (.int p3), .val (.int p4), .val (.int p5), .unset, .unset, .unset] [(.int p3), (.int p2), (.int p1)])) (fun t k => XS.iloadN X0.here hx rfl (hb hby d5_2) rfl k) ?_
  refine Gl.st (g' := (mkF m 5 #[.val (.ref a1), .val (.int p1), .val (.int p2), .val (.int p3), .val (.int p4), .val (.int p5), .unset, .unset, .unset] [(.int p4), (.int p3), (.int p2), (.int p1)])) (fun t k => XS.iload X0.here hx rfl (hb hby d5_3) rfl k) ?_
  refine Gl.st (g' := (mkF m 7 #[.val (.ref a1), .val (.int p1), .val (.int p2), .val (.int p3), .val (.int p4), .val (.int p5), .unset, .unset, .unset] [(.int p5), (.int p4), (.int p3), (.int p2), (.int p1)])) (fun t k => XS.iload X0.here hx rfl (hb hby d5_5) rfl k) ?_
  obtain ⟨_, _, ⟨T105, L105, k105, n105⟩, -, X105, ⟨Lc105, hQ105, l105, y105, z105⟩, st105⟩ := Jvm.LawKit.callS X0 hx (y := (⟨"com/example/outlier/outlier/health/HealthStateProbedPinLaw", "expect", "(IIZII)Z"⟩ : MethodName)) hown (mvT hZ (hw _ (List.mem_of_getElem? (i := 17) rfl))) (mvT hZ (hw _ (List.mem_of_getElem? (i := 18) rfl))) (mvT hZ (hw _ (List.mem_of_getElem? (i := 15) rfl))) (mvT hZ (hw _ (List.mem_of_getElem? (i := 19) rfl))) (by decide) (backOf (W := 0) (rm4 l Z a0 hw p1 p2 p3 p4 p5  h0 n0 Z0 ) hZ (hw _ (List.mem_of_getElem? (i := 19) rfl)) (hw _ (List.mem_of_getElem? (i := 15) rfl)) (by decide) (by decide)) (g := (mkF m 7 #[.val (.ref a1), .val (.int p1), .val (.int p2), .val (.int p3), .val (.int p4), .val (.int p5), .unset, .unset, .unset] [(.int p5), (.int p4), (.int p3), (.int p2), (.int p1)])) rfl (by rw [hml]; rfl) (argsL := [(.int p1), (.int p2), (.int p3), (.int p4), (.int p5)]) (rest := []) (lenOf pd_3 rfl) rfl (by show 2 * 0 + _ ≤ _; exact Nat.le_of_eq rfl) (hb hby d5_7) (fun _ _ => ⟨rfl, e0, (by decide : 0 + 0 ≤ _), (by decide : 0 + 0 ≤ _)⟩)
  dsimp only [Pt.U, Pt.locs, Pt.cells, Pt.slots] at X105 l105 y105 z105 st105 hQ105
  subst l105 y105 z105
  obtain ⟨rfl, Nq105, e105⟩ := hQ105
  have N105 := Fr.app N0 Nq105
  refine Gl.st (g' := (mkF m 10 #[.val (.ref a1), .val (.int p1), .val (.int p2), .val (.int p3), .val (.int p4), .val (.int p5), .unset, .unset, .unset] [(.int (own_ex p1 p2 p3 p4 p5))])) st105 ?_
  refine Gl.st (g' := (mkF m 12 #[.val (.ref a1), .val (.int p1), .val (.int p2), .val (.int p3), .val (.int p4), .val (.int p5), .val (.int (own_ex p1 p2 p3 p4 p5)), .unset, .unset] [])) (fun t k => XS.istore X105.here hx rfl (hb hby d5_10) rfl (l' := #[.val (.ref a1), .val (.int p1), .val (.int p2), .val (.int p3), .val (.int p4), .val (.int p5), .val (.int (own_ex p1 p2 p3 p4 p5)), .unset, .unset]) rfl k) ?_
  refine Gl.st (g' := (mkF m 13 #[.val (.ref a1), .val (.int p1), .val (.int p2), .val (.int p3), .val (.int p4), .val (.int p5), .val (.int (own_ex p1 p2 p3 p4 p5)), .unset, .unset] [(.ref a1)])) (fun t k => XS.aloadN X105.here hx rfl (hb hby d5_12) rfl rfl k) ?_
  refine Gl.st (g' := (mkF m 14 #[.val (.ref a1), .val (.int p1), .val (.int p2), .val (.int p3), .val (.int p4), .val (.int p5), .val (.int (own_ex p1 p2 p3 p4 p5)), .unset, .unset] [(.int p1), (.ref a1)])) (fun t k => XS.iloadN X105.here hx rfl (hb hby d5_13) rfl k) ?_
  refine Gl.st (g' := (mkF m 15 #[.val (.ref a1), .val (.int p1), .val (.int p2), .val (.int p3), .val (.int p4), .val (.int p5), .val (.int (own_ex p1 p2 p3 p4 p5)), .unset, .unset] [(.int p2), (.int p1), (.ref a1)])) (fun t k => XS.iloadN X105.here hx rfl (hb hby d5_14) rfl k) ?_
  refine Gl.st (g' := (mkF m 16 #[.val (.ref a1), .val (.int p1), .val (.int p2), .val (.int p3), .val (.int p4), .val (.int p5), .val (.int (own_ex p1 p2 p3 p4 p5)), .unset, .unset] [(.int (p1 >>> (p2 &&& 31))), (.ref a1)])) (fun t k => XS.ishr X105.here hx rfl (hb hby d5_15) rfl k) ?_
  refine Gl.st (g' := (mkF m 17 #[.val (.ref a1), .val (.int p1), .val (.int p2), .val (.int p3), .val (.int p4), .val (.int p5), .val (.int (own_ex p1 p2 p3 p4 p5)), .unset, .unset] [(.int (1 : Int32)), (.int (p1 >>> (p2 &&& 31))), (.ref a1)])) (fun t k => XT.iconstV X105.here hx rfl (1 : Int32) (hb hby d5_16) rfl k) ?_
  refine Gl.st (g' := (mkF m 18 #[.val (.ref a1), .val (.int p1), .val (.int p2), .val (.int p3), .val (.int p4), .val (.int p5), .val (.int (own_ex p1 p2 p3 p4 p5)), .unset, .unset] [(.int ((p1 >>> (p2 &&& 31)) &&& (1 : Int32))), (.ref a1)])) (fun t k => XS.iand X105.here hx rfl (hb hby d5_17) rfl k) ?_
  -- join at 26
  have j106 : ∀ w106 : Int32, w106 = own_pb p1 p2 → Gl p e below s (Q5 Z a1 p1 p2 p3 p4 p5 hl ag h0 n0) 0 0 T105 (mkF m 26 #[.val (.ref a1), .val (.int p1), .val (.int p2), .val (.int p3), .val (.int p4), .val (.int p5), .val (.int (own_ex p1 p2 p3 p4 p5)), .unset, .unset] [(.int w106), (.ref a1)]) := by
    intro w106 hj106
    obtain ⟨cq107, kq107, qa107, qb107, qc107⟩ := isOf hZ e105 EX
    obtain ⟨_, _, ⟨T107, L107, k107, n107⟩, -, X107, ⟨Lc107, hQ107, l107, y107, z107⟩, st107⟩ := X105.virtualBack hx (y := (⟨"com/example/outlier/outlier/health/HealthState", "probed", "(Z)Z"⟩ : MethodName)) (z := (⟨"com/example/outlier/outlier/health/HealthState", "probed", "(Z)Z"⟩ : MethodName)) hown (mvT hZ (hw _ (List.mem_of_getElem? (i := 20) rfl))) (mvT hZ (hw _ (List.mem_of_getElem? (i := 21) rfl))) (notFace_of_selects (args := #[]) (mvT hZ (hw _ (List.mem_of_getElem? (i := 23) rfl)))) (mvT hZ (hw _ (List.mem_of_getElem? (i := 23) rfl))) (mvT hZ (hw _ (List.mem_of_getElem? (i := 22) rfl))) (by decide) (backOf (W := 0) (rm2 l Z a0 hw a1 w106 p4 p5 hl ag h0 n0 Z0 EX FhealthyThreshold FunhealthyThreshold Fhealthy Fagainst gA (own_pb01 hj106)) hZ (hw _ (List.mem_of_getElem? (i := 24) rfl)) (hw _ (List.mem_of_getElem? (i := 2) rfl)) (by decide) (by decide)) qa107 qc107 (g := (mkF m 26 #[.val (.ref a1), .val (.int p1), .val (.int p2), .val (.int p3), .val (.int p4), .val (.int p5), .val (.int (own_ex p1 p2 p3 p4 p5)), .unset, .unset] [(.int w106), (.ref a1)])) rfl (by rw [hml]; rfl) (Steps.refl _) (argsL := [(.int w106)]) (rest := []) (lenOf pd_1 rfl) rfl (by show 2 * 0 + _ ≤ _; exact Nat.le_of_eq rfl) (hb hby d5_26) (fun _ _ => ⟨rfl, e105, (by decide : 0 + 0 + 0 ≤ _), (by decide : 0 + 0 + 0 ≤ _)⟩)
    dsimp only [Pt.U, Pt.locs, Pt.cells, Pt.slots] at X107 l107 y107 z107 st107 hQ107
    subst l107 y107 z107
    obtain ⟨rfl, Nq107, Z107, E107, Fa107, Fb107, Fc107, Fd107⟩ := hQ107
    have N107 := Fr.app N105 Nq107
    have e107 : T107.heap = T107.heap := rfl
    refine Gl.st (g' := (mkF m 29 #[.val (.ref a1), .val (.int p1), .val (.int p2), .val (.int p3), .val (.int p4), .val (.int p5), .val (.int (own_ex p1 p2 p3 p4 p5)), .unset, .unset] [(.int (own_pr p4 p5 hl ag w106).1)])) (fun t k => st107.trans k) ?_
    refine Gl.st (g' := (mkF m 31 #[.val (.ref a1), .val (.int p1), .val (.int p2), .val (.int p3), .val (.int p4), .val (.int p5), .val (.int (own_ex p1 p2 p3 p4 p5)), .val (.int (own_pr p4 p5 hl ag w106).1), .unset] [])) (fun t k => XS.istore X107.here hx rfl (hb hby d5_29) rfl (l' := #[.val (.ref a1), .val (.int p1), .val (.int p2), .val (.int p3), .val (.int p4), .val (.int p5), .val (.int (own_ex p1 p2 p3 p4 p5)), .val (.int (own_pr p4 p5 hl ag w106).1), .unset]) rfl k) ?_
    refine Gl.st (g' := (mkF m 33 #[.val (.ref a1), .val (.int p1), .val (.int p2), .val (.int p3), .val (.int p4), .val (.int p5), .val (.int (own_ex p1 p2 p3 p4 p5)), .val (.int (own_pr p4 p5 hl ag w106).1), .unset] [(.int (own_ex p1 p2 p3 p4 p5))])) (fun t k => XS.iload X107.here hx rfl (hb hby d5_31) rfl k) ?_
    by_cases c108 : (own_ex p1 p2 p3 p4 p5) = (0 : Int32)
    · skip
      refine Gl.st (g' := (mkF m 48 #[.val (.ref a1), .val (.int p1), .val (.int p2), .val (.int p3), .val (.int p4), .val (.int p5), .val (.int (own_ex p1 p2 p3 p4 p5)), .val (.int (own_pr p4 p5 hl ag w106).1), .unset] [])) (fun t k => XS.ifYes X107.here hx rfl (pc0 := 33) (pc' := 48) rfl (hb hby d5_33) rfl (XT.i0_eq_t c108) (by decide) (by decide) k) ?_
      refine Gl.st (g' := (mkF m 49 #[.val (.ref a1), .val (.int p1), .val (.int p2), .val (.int p3), .val (.int p4), .val (.int p5), .val (.int (own_ex p1 p2 p3 p4 p5)), .val (.int (own_pr p4 p5 hl ag w106).1), .unset] [(.int p3)])) (fun t k => XS.iloadN X107.here hx rfl (hb hby d5_48) rfl k) ?_
      refine Gl.st (g' := (mkF m 51 #[.val (.ref a1), .val (.int p1), .val (.int p2), .val (.int p3), .val (.int p4), .val (.int p5), .val (.int (own_ex p1 p2 p3 p4 p5)), .val (.int (own_pr p4 p5 hl ag w106).1), .val (.int p3)] [])) (fun t k => XS.istore X107.here hx rfl (hb hby d5_49) rfl (l' := #[.val (.ref a1), .val (.int p1), .val (.int p2), .val (.int p3), .val (.int p4), .val (.int p5), .val (.int (own_ex p1 p2 p3 p4 p5)), .val (.int (own_pr p4 p5 hl ag w106).1), .val (.int p3)]) rfl k) ?_
      refine Gl.st (g' := (mkF m 53 #[.val (.ref a1), .val (.int p1), .val (.int p2), .val (.int p3), .val (.int p4), .val (.int p5), .val (.int (own_ex p1 p2 p3 p4 p5)), .val (.int (own_pr p4 p5 hl ag w106).1), .val (.int p3)] [(.int (own_pr p4 p5 hl ag w106).1)])) (fun t k => XS.iload X107.here hx rfl (hb hby d5_51) rfl k) ?_
      refine Gl.st (g' := (mkF m 55 #[.val (.ref a1), .val (.int p1), .val (.int p2), .val (.int p3), .val (.int p4), .val (.int p5), .val (.int (own_ex p1 p2 p3 p4 p5)), .val (.int (own_pr p4 p5 hl ag w106).1), .val (.int p3)] [(.int (own_ex p1 p2 p3 p4 p5)), (.int (own_pr p4 p5 hl ag w106).1)])) (fun t k => XS.iload X107.here hx rfl (hb hby d5_53) rfl k) ?_
      by_cases c109 : (own_pr p4 p5 hl ag w106).1 = (own_ex p1 p2 p3 p4 p5)
      · skip
        refine Gl.st (g' := (mkF m 58 #[.val (.ref a1), .val (.int p1), .val (.int p2), .val (.int p3), .val (.int p4), .val (.int p5), .val (.int (own_ex p1 p2 p3 p4 p5)), .val (.int (own_pr p4 p5 hl ag w106).1), .val (.int p3)] [])) (fun t k => XS.icmpNo X107.here hx rfl (hb hby d5_55) rfl (XT.ii_ne_f c109) k) ?_
        refine Gl.st (g' := (mkF m 59 #[.val (.ref a1), .val (.int p1), .val (.int p2), .val (.int p3), .val (.int p4), .val (.int p5), .val (.int (own_ex p1 p2 p3 p4 p5)), .val (.int (own_pr p4 p5 hl ag w106).1), .val (.int p3)] [(.int (1 : Int32))])) (fun t k => XT.iconstV X107.here hx rfl (1 : Int32) (hb hby d5_58) rfl k) ?_
        refine Gl.st (g' := (mkF m 63 #[.val (.ref a1), .val (.int p1), .val (.int p2), .val (.int p3), .val (.int p4), .val (.int p5), .val (.int (own_ex p1 p2 p3 p4 p5)), .val (.int (own_pr p4 p5 hl ag w106).1), .val (.int p3)] [(.int (1 : Int32))])) (fun t k => XS.goto X107.here hx rfl (pc0 := 59) (pc' := 63) rfl (hb hby d5_59) (by decide) (by decide) k) ?_
        refine Gl.st (g' := (mkF m 65 #[.val (.ref a1), .val (.int p1), .val (.int p2), .val (.int p3), .val (.int p4), .val (.int p5), .val (.int (own_ex p1 p2 p3 p4 p5)), .val (.int (own_pr p4 p5 hl ag w106).1), .val (.int p3)] [(.int p3), (.int (1 : Int32))])) (fun t k => XS.iload X107.here hx rfl (hb hby d5_63) rfl k) ?_
        by_cases c110 : p3 = (0 : Int32)
        · skip
          refine Gl.st (g' := (mkF m 72 #[.val (.ref a1), .val (.int p1), .val (.int p2), .val (.int p3), .val (.int p4), .val (.int p5), .val (.int (own_ex p1 p2 p3 p4 p5)), .val (.int (own_pr p4 p5 hl ag w106).1), .val (.int p3)] [(.int (1 : Int32))])) (fun t k => XS.ifYes X107.here hx rfl (pc0 := 65) (pc' := 72) rfl (hb hby d5_65) rfl (XT.i0_eq_t c110) (by decide) (by decide) k) ?_
          refine Gl.st (g' := (mkF m 73 #[.val (.ref a1), .val (.int p1), .val (.int p2), .val (.int p3), .val (.int p4), .val (.int p5), .val (.int (own_ex p1 p2 p3 p4 p5)), .val (.int (own_pr p4 p5 hl ag w106).1), .val (.int p3)] [(.int (0 : Int32)), (.int (1 : Int32))])) (fun t k => XT.iconstV X107.here hx rfl (0 : Int32) (hb hby d5_72) rfl k) ?_
          refine Gl.st (g' := (mkF m 74 #[.val (.ref a1), .val (.int p1), .val (.int p2), .val (.int p3), .val (.int p4), .val (.int p5), .val (.int (own_ex p1 p2 p3 p4 p5)), .val (.int (own_pr p4 p5 hl ag w106).1), .val (.int p3)] [(.int ((1 : Int32) ||| (0 : Int32)))])) (fun t k => XS.ior X107.here hx rfl (hb hby d5_73) rfl k) ?_
          refine Gl.retI X107 hx hlk Bd.returns (hb hby d5_74) e107 (by decide) (by decide) ?_
          subst hj106
          have ev : own_sv (own_ex p1 p2 p3 p4 p5) (own_pr p4 p5 hl ag (own_pb p1 p2)).1 p3 = ((1 : Int32) ||| (0 : Int32)) := by
            unfold own_sv
            rw [if_pos c108, if_pos c109, if_pos c110]
          rw [Q5, ev]
          exact ⟨rfl, N107, Z107, E107, Fa107, Fb107, Fc107, Fd107⟩
        · skip
          refine Gl.st (g' := (mkF m 68 #[.val (.ref a1), .val (.int p1), .val (.int p2), .val (.int p3), .val (.int p4), .val (.int p5), .val (.int (own_ex p1 p2 p3 p4 p5)), .val (.int (own_pr p4 p5 hl ag w106).1), .val (.int p3)] [(.int (1 : Int32))])) (fun t k => XS.ifNo X107.here hx rfl (hb hby d5_65) rfl (XT.i0_eq_f c110) k) ?_
          refine Gl.st (g' := (mkF m 69 #[.val (.ref a1), .val (.int p1), .val (.int p2), .val (.int p3), .val (.int p4), .val (.int p5), .val (.int (own_ex p1 p2 p3 p4 p5)), .val (.int (own_pr p4 p5 hl ag w106).1), .val (.int p3)] [(.int (2 : Int32)), (.int (1 : Int32))])) (fun t k => XT.iconstV X107.here hx rfl (2 : Int32) (hb hby d5_68) rfl k) ?_
          refine Gl.st (g' := (mkF m 73 #[.val (.ref a1), .val (.int p1), .val (.int p2), .val (.int p3), .val (.int p4), .val (.int p5), .val (.int (own_ex p1 p2 p3 p4 p5)), .val (.int (own_pr p4 p5 hl ag w106).1), .val (.int p3)] [(.int (2 : Int32)), (.int (1 : Int32))])) (fun t k => XS.goto X107.here hx rfl (pc0 := 69) (pc' := 73) rfl (hb hby d5_69) (by decide) (by decide) k) ?_
          refine Gl.st (g' := (mkF m 74 #[.val (.ref a1), .val (.int p1), .val (.int p2), .val (.int p3), .val (.int p4), .val (.int p5), .val (.int (own_ex p1 p2 p3 p4 p5)), .val (.int (own_pr p4 p5 hl ag w106).1), .val (.int p3)] [(.int ((1 : Int32) ||| (2 : Int32)))])) (fun t k => XS.ior X107.here hx rfl (hb hby d5_73) rfl k) ?_
          refine Gl.retI X107 hx hlk Bd.returns (hb hby d5_74) e107 (by decide) (by decide) ?_
          subst hj106
          have ev : own_sv (own_ex p1 p2 p3 p4 p5) (own_pr p4 p5 hl ag (own_pb p1 p2)).1 p3 = ((1 : Int32) ||| (2 : Int32)) := by
            unfold own_sv
            rw [if_pos c108, if_pos c109, if_neg c110]
          rw [Q5, ev]
          exact ⟨rfl, N107, Z107, E107, Fa107, Fb107, Fc107, Fd107⟩
      · skip
        refine Gl.st (g' := (mkF m 62 #[.val (.ref a1), .val (.int p1), .val (.int p2), .val (.int p3), .val (.int p4), .val (.int p5), .val (.int (own_ex p1 p2 p3 p4 p5)), .val (.int (own_pr p4 p5 hl ag w106).1), .val (.int p3)] [])) (fun t k => XS.icmpYes X107.here hx rfl (pc0 := 55) (pc' := 62) rfl (hb hby d5_55) rfl (XT.ii_ne_t c109) (by decide) (by decide) k) ?_
        refine Gl.st (g' := (mkF m 63 #[.val (.ref a1), .val (.int p1), .val (.int p2), .val (.int p3), .val (.int p4), .val (.int p5), .val (.int (own_ex p1 p2 p3 p4 p5)), .val (.int (own_pr p4 p5 hl ag w106).1), .val (.int p3)] [(.int (0 : Int32))])) (fun t k => XT.iconstV X107.here hx rfl (0 : Int32) (hb hby d5_62) rfl k) ?_
        refine Gl.st (g' := (mkF m 65 #[.val (.ref a1), .val (.int p1), .val (.int p2), .val (.int p3), .val (.int p4), .val (.int p5), .val (.int (own_ex p1 p2 p3 p4 p5)), .val (.int (own_pr p4 p5 hl ag w106).1), .val (.int p3)] [(.int p3), (.int (0 : Int32))])) (fun t k => XS.iload X107.here hx rfl (hb hby d5_63) rfl k) ?_
        by_cases c111 : p3 = (0 : Int32)
        · skip
          refine Gl.st (g' := (mkF m 72 #[.val (.ref a1), .val (.int p1), .val (.int p2), .val (.int p3), .val (.int p4), .val (.int p5), .val (.int (own_ex p1 p2 p3 p4 p5)), .val (.int (own_pr p4 p5 hl ag w106).1), .val (.int p3)] [(.int (0 : Int32))])) (fun t k => XS.ifYes X107.here hx rfl (pc0 := 65) (pc' := 72) rfl (hb hby d5_65) rfl (XT.i0_eq_t c111) (by decide) (by decide) k) ?_
          refine Gl.st (g' := (mkF m 73 #[.val (.ref a1), .val (.int p1), .val (.int p2), .val (.int p3), .val (.int p4), .val (.int p5), .val (.int (own_ex p1 p2 p3 p4 p5)), .val (.int (own_pr p4 p5 hl ag w106).1), .val (.int p3)] [(.int (0 : Int32)), (.int (0 : Int32))])) (fun t k => XT.iconstV X107.here hx rfl (0 : Int32) (hb hby d5_72) rfl k) ?_
          refine Gl.st (g' := (mkF m 74 #[.val (.ref a1), .val (.int p1), .val (.int p2), .val (.int p3), .val (.int p4), .val (.int p5), .val (.int (own_ex p1 p2 p3 p4 p5)), .val (.int (own_pr p4 p5 hl ag w106).1), .val (.int p3)] [(.int ((0 : Int32) ||| (0 : Int32)))])) (fun t k => XS.ior X107.here hx rfl (hb hby d5_73) rfl k) ?_
          refine Gl.retI X107 hx hlk Bd.returns (hb hby d5_74) e107 (by decide) (by decide) ?_
          subst hj106
          have ev : own_sv (own_ex p1 p2 p3 p4 p5) (own_pr p4 p5 hl ag (own_pb p1 p2)).1 p3 = ((0 : Int32) ||| (0 : Int32)) := by
            unfold own_sv
            rw [if_pos c108, if_neg c109, if_pos c111]
          rw [Q5, ev]
          exact ⟨rfl, N107, Z107, E107, Fa107, Fb107, Fc107, Fd107⟩
        · skip
          refine Gl.st (g' := (mkF m 68 #[.val (.ref a1), .val (.int p1), .val (.int p2), .val (.int p3), .val (.int p4), .val (.int p5), .val (.int (own_ex p1 p2 p3 p4 p5)), .val (.int (own_pr p4 p5 hl ag w106).1), .val (.int p3)] [(.int (0 : Int32))])) (fun t k => XS.ifNo X107.here hx rfl (hb hby d5_65) rfl (XT.i0_eq_f c111) k) ?_
          refine Gl.st (g' := (mkF m 69 #[.val (.ref a1), .val (.int p1), .val (.int p2), .val (.int p3), .val (.int p4), .val (.int p5), .val (.int (own_ex p1 p2 p3 p4 p5)), .val (.int (own_pr p4 p5 hl ag w106).1), .val (.int p3)] [(.int (2 : Int32)), (.int (0 : Int32))])) (fun t k => XT.iconstV X107.here hx rfl (2 : Int32) (hb hby d5_68) rfl k) ?_
          refine Gl.st (g' := (mkF m 73 #[.val (.ref a1), .val (.int p1), .val (.int p2), .val (.int p3), .val (.int p4), .val (.int p5), .val (.int (own_ex p1 p2 p3 p4 p5)), .val (.int (own_pr p4 p5 hl ag w106).1), .val (.int p3)] [(.int (2 : Int32)), (.int (0 : Int32))])) (fun t k => XS.goto X107.here hx rfl (pc0 := 69) (pc' := 73) rfl (hb hby d5_69) (by decide) (by decide) k) ?_
          refine Gl.st (g' := (mkF m 74 #[.val (.ref a1), .val (.int p1), .val (.int p2), .val (.int p3), .val (.int p4), .val (.int p5), .val (.int (own_ex p1 p2 p3 p4 p5)), .val (.int (own_pr p4 p5 hl ag w106).1), .val (.int p3)] [(.int ((0 : Int32) ||| (2 : Int32)))])) (fun t k => XS.ior X107.here hx rfl (hb hby d5_73) rfl k) ?_
          refine Gl.retI X107 hx hlk Bd.returns (hb hby d5_74) e107 (by decide) (by decide) ?_
          subst hj106
          have ev : own_sv (own_ex p1 p2 p3 p4 p5) (own_pr p4 p5 hl ag (own_pb p1 p2)).1 p3 = ((0 : Int32) ||| (2 : Int32)) := by
            unfold own_sv
            rw [if_pos c108, if_neg c109, if_neg c111]
          rw [Q5, ev]
          exact ⟨rfl, N107, Z107, E107, Fa107, Fb107, Fc107, Fd107⟩
    · skip
      refine Gl.st (g' := (mkF m 36 #[.val (.ref a1), .val (.int p1), .val (.int p2), .val (.int p3), .val (.int p4), .val (.int p5), .val (.int (own_ex p1 p2 p3 p4 p5)), .val (.int (own_pr p4 p5 hl ag w106).1), .unset] [])) (fun t k => XS.ifNo X107.here hx rfl (hb hby d5_33) rfl (XT.i0_eq_f c108) k) ?_
      refine Gl.st (g' := (mkF m 37 #[.val (.ref a1), .val (.int p1), .val (.int p2), .val (.int p3), .val (.int p4), .val (.int p5), .val (.int (own_ex p1 p2 p3 p4 p5)), .val (.int (own_pr p4 p5 hl ag w106).1), .unset] [(.int p3)])) (fun t k => XS.iloadN X107.here hx rfl (hb hby d5_36) rfl k) ?_
      by_cases c112 : p3 = (0 : Int32)
      · skip
        refine Gl.st (g' := (mkF m 40 #[.val (.ref a1), .val (.int p1), .val (.int p2), .val (.int p3), .val (.int p4), .val (.int p5), .val (.int (own_ex p1 p2 p3 p4 p5)), .val (.int (own_pr p4 p5 hl ag w106).1), .unset] [])) (fun t k => XS.ifNo X107.here hx rfl (hb hby d5_37) rfl (XT.i0_ne_f c112) k) ?_
        refine Gl.st (g' := (mkF m 41 #[.val (.ref a1), .val (.int p1), .val (.int p2), .val (.int p3), .val (.int p4), .val (.int p5), .val (.int (own_ex p1 p2 p3 p4 p5)), .val (.int (own_pr p4 p5 hl ag w106).1), .unset] [(.int (1 : Int32))])) (fun t k => XT.iconstV X107.here hx rfl (1 : Int32) (hb hby d5_40) rfl k) ?_
        refine Gl.st (g' := (mkF m 49 #[.val (.ref a1), .val (.int p1), .val (.int p2), .val (.int p3), .val (.int p4), .val (.int p5), .val (.int (own_ex p1 p2 p3 p4 p5)), .val (.int (own_pr p4 p5 hl ag w106).1), .unset] [(.int (1 : Int32))])) (fun t k => XS.goto X107.here hx rfl (pc0 := 41) (pc' := 49) rfl (hb hby d5_41) (by decide) (by decide) k) ?_
        refine Gl.st (g' := (mkF m 51 #[.val (.ref a1), .val (.int p1), .val (.int p2), .val (.int p3), .val (.int p4), .val (.int p5), .val (.int (own_ex p1 p2 p3 p4 p5)), .val (.int (own_pr p4 p5 hl ag w106).1), .val (.int (1 : Int32))] [])) (fun t k => XS.istore X107.here hx rfl (hb hby d5_49) rfl (l' := #[.val (.ref a1), .val (.int p1), .val (.int p2), .val (.int p3), .val (.int p4), .val (.int p5), .val (.int (own_ex p1 p2 p3 p4 p5)), .val (.int (own_pr p4 p5 hl ag w106).1), .val (.int (1 : Int32))]) rfl k) ?_
        refine Gl.st (g' := (mkF m 53 #[.val (.ref a1), .val (.int p1), .val (.int p2), .val (.int p3), .val (.int p4), .val (.int p5), .val (.int (own_ex p1 p2 p3 p4 p5)), .val (.int (own_pr p4 p5 hl ag w106).1), .val (.int (1 : Int32))] [(.int (own_pr p4 p5 hl ag w106).1)])) (fun t k => XS.iload X107.here hx rfl (hb hby d5_51) rfl k) ?_
        refine Gl.st (g' := (mkF m 55 #[.val (.ref a1), .val (.int p1), .val (.int p2), .val (.int p3), .val (.int p4), .val (.int p5), .val (.int (own_ex p1 p2 p3 p4 p5)), .val (.int (own_pr p4 p5 hl ag w106).1), .val (.int (1 : Int32))] [(.int (own_ex p1 p2 p3 p4 p5)), (.int (own_pr p4 p5 hl ag w106).1)])) (fun t k => XS.iload X107.here hx rfl (hb hby d5_53) rfl k) ?_
        by_cases c113 : (own_pr p4 p5 hl ag w106).1 = (own_ex p1 p2 p3 p4 p5)
        · skip
          refine Gl.st (g' := (mkF m 58 #[.val (.ref a1), .val (.int p1), .val (.int p2), .val (.int p3), .val (.int p4), .val (.int p5), .val (.int (own_ex p1 p2 p3 p4 p5)), .val (.int (own_pr p4 p5 hl ag w106).1), .val (.int (1 : Int32))] [])) (fun t k => XS.icmpNo X107.here hx rfl (hb hby d5_55) rfl (XT.ii_ne_f c113) k) ?_
          refine Gl.st (g' := (mkF m 59 #[.val (.ref a1), .val (.int p1), .val (.int p2), .val (.int p3), .val (.int p4), .val (.int p5), .val (.int (own_ex p1 p2 p3 p4 p5)), .val (.int (own_pr p4 p5 hl ag w106).1), .val (.int (1 : Int32))] [(.int (1 : Int32))])) (fun t k => XT.iconstV X107.here hx rfl (1 : Int32) (hb hby d5_58) rfl k) ?_
          refine Gl.st (g' := (mkF m 63 #[.val (.ref a1), .val (.int p1), .val (.int p2), .val (.int p3), .val (.int p4), .val (.int p5), .val (.int (own_ex p1 p2 p3 p4 p5)), .val (.int (own_pr p4 p5 hl ag w106).1), .val (.int (1 : Int32))] [(.int (1 : Int32))])) (fun t k => XS.goto X107.here hx rfl (pc0 := 59) (pc' := 63) rfl (hb hby d5_59) (by decide) (by decide) k) ?_
          refine Gl.st (g' := (mkF m 65 #[.val (.ref a1), .val (.int p1), .val (.int p2), .val (.int p3), .val (.int p4), .val (.int p5), .val (.int (own_ex p1 p2 p3 p4 p5)), .val (.int (own_pr p4 p5 hl ag w106).1), .val (.int (1 : Int32))] [(.int (1 : Int32)), (.int (1 : Int32))])) (fun t k => XS.iload X107.here hx rfl (hb hby d5_63) rfl k) ?_
          refine Gl.st (g' := (mkF m 68 #[.val (.ref a1), .val (.int p1), .val (.int p2), .val (.int p3), .val (.int p4), .val (.int p5), .val (.int (own_ex p1 p2 p3 p4 p5)), .val (.int (own_pr p4 p5 hl ag w106).1), .val (.int (1 : Int32))] [(.int (1 : Int32))])) (fun t k => XS.ifNo X107.here hx rfl (hb hby d5_65) rfl (XT.i0_eq_f (by decide)) k) ?_
          refine Gl.st (g' := (mkF m 69 #[.val (.ref a1), .val (.int p1), .val (.int p2), .val (.int p3), .val (.int p4), .val (.int p5), .val (.int (own_ex p1 p2 p3 p4 p5)), .val (.int (own_pr p4 p5 hl ag w106).1), .val (.int (1 : Int32))] [(.int (2 : Int32)), (.int (1 : Int32))])) (fun t k => XT.iconstV X107.here hx rfl (2 : Int32) (hb hby d5_68) rfl k) ?_
          refine Gl.st (g' := (mkF m 73 #[.val (.ref a1), .val (.int p1), .val (.int p2), .val (.int p3), .val (.int p4), .val (.int p5), .val (.int (own_ex p1 p2 p3 p4 p5)), .val (.int (own_pr p4 p5 hl ag w106).1), .val (.int (1 : Int32))] [(.int (2 : Int32)), (.int (1 : Int32))])) (fun t k => XS.goto X107.here hx rfl (pc0 := 69) (pc' := 73) rfl (hb hby d5_69) (by decide) (by decide) k) ?_
          refine Gl.st (g' := (mkF m 74 #[.val (.ref a1), .val (.int p1), .val (.int p2), .val (.int p3), .val (.int p4), .val (.int p5), .val (.int (own_ex p1 p2 p3 p4 p5)), .val (.int (own_pr p4 p5 hl ag w106).1), .val (.int (1 : Int32))] [(.int ((1 : Int32) ||| (2 : Int32)))])) (fun t k => XS.ior X107.here hx rfl (hb hby d5_73) rfl k) ?_
          refine Gl.retI X107 hx hlk Bd.returns (hb hby d5_74) e107 (by decide) (by decide) ?_
          subst hj106
          have ev : own_sv (own_ex p1 p2 p3 p4 p5) (own_pr p4 p5 hl ag (own_pb p1 p2)).1 p3 = ((1 : Int32) ||| (2 : Int32)) := by
            unfold own_sv
            rw [if_neg c108, if_pos c112, if_pos c113]
          rw [Q5, ev]
          exact ⟨rfl, N107, Z107, E107, Fa107, Fb107, Fc107, Fd107⟩
        · skip
          refine Gl.st (g' := (mkF m 62 #[.val (.ref a1), .val (.int p1), .val (.int p2), .val (.int p3), .val (.int p4), .val (.int p5), .val (.int (own_ex p1 p2 p3 p4 p5)), .val (.int (own_pr p4 p5 hl ag w106).1), .val (.int (1 : Int32))] [])) (fun t k => XS.icmpYes X107.here hx rfl (pc0 := 55) (pc' := 62) rfl (hb hby d5_55) rfl (XT.ii_ne_t c113) (by decide) (by decide) k) ?_
          refine Gl.st (g' := (mkF m 63 #[.val (.ref a1), .val (.int p1), .val (.int p2), .val (.int p3), .val (.int p4), .val (.int p5), .val (.int (own_ex p1 p2 p3 p4 p5)), .val (.int (own_pr p4 p5 hl ag w106).1), .val (.int (1 : Int32))] [(.int (0 : Int32))])) (fun t k => XT.iconstV X107.here hx rfl (0 : Int32) (hb hby d5_62) rfl k) ?_
          refine Gl.st (g' := (mkF m 65 #[.val (.ref a1), .val (.int p1), .val (.int p2), .val (.int p3), .val (.int p4), .val (.int p5), .val (.int (own_ex p1 p2 p3 p4 p5)), .val (.int (own_pr p4 p5 hl ag w106).1), .val (.int (1 : Int32))] [(.int (1 : Int32)), (.int (0 : Int32))])) (fun t k => XS.iload X107.here hx rfl (hb hby d5_63) rfl k) ?_
          refine Gl.st (g' := (mkF m 68 #[.val (.ref a1), .val (.int p1), .val (.int p2), .val (.int p3), .val (.int p4), .val (.int p5), .val (.int (own_ex p1 p2 p3 p4 p5)), .val (.int (own_pr p4 p5 hl ag w106).1), .val (.int (1 : Int32))] [(.int (0 : Int32))])) (fun t k => XS.ifNo X107.here hx rfl (hb hby d5_65) rfl (XT.i0_eq_f (by decide)) k) ?_
          refine Gl.st (g' := (mkF m 69 #[.val (.ref a1), .val (.int p1), .val (.int p2), .val (.int p3), .val (.int p4), .val (.int p5), .val (.int (own_ex p1 p2 p3 p4 p5)), .val (.int (own_pr p4 p5 hl ag w106).1), .val (.int (1 : Int32))] [(.int (2 : Int32)), (.int (0 : Int32))])) (fun t k => XT.iconstV X107.here hx rfl (2 : Int32) (hb hby d5_68) rfl k) ?_
          refine Gl.st (g' := (mkF m 73 #[.val (.ref a1), .val (.int p1), .val (.int p2), .val (.int p3), .val (.int p4), .val (.int p5), .val (.int (own_ex p1 p2 p3 p4 p5)), .val (.int (own_pr p4 p5 hl ag w106).1), .val (.int (1 : Int32))] [(.int (2 : Int32)), (.int (0 : Int32))])) (fun t k => XS.goto X107.here hx rfl (pc0 := 69) (pc' := 73) rfl (hb hby d5_69) (by decide) (by decide) k) ?_
          refine Gl.st (g' := (mkF m 74 #[.val (.ref a1), .val (.int p1), .val (.int p2), .val (.int p3), .val (.int p4), .val (.int p5), .val (.int (own_ex p1 p2 p3 p4 p5)), .val (.int (own_pr p4 p5 hl ag w106).1), .val (.int (1 : Int32))] [(.int ((0 : Int32) ||| (2 : Int32)))])) (fun t k => XS.ior X107.here hx rfl (hb hby d5_73) rfl k) ?_
          refine Gl.retI X107 hx hlk Bd.returns (hb hby d5_74) e107 (by decide) (by decide) ?_
          subst hj106
          have ev : own_sv (own_ex p1 p2 p3 p4 p5) (own_pr p4 p5 hl ag (own_pb p1 p2)).1 p3 = ((0 : Int32) ||| (2 : Int32)) := by
            unfold own_sv
            rw [if_neg c108, if_pos c112, if_neg c113]
          rw [Q5, ev]
          exact ⟨rfl, N107, Z107, E107, Fa107, Fb107, Fc107, Fd107⟩
      · skip
        refine Gl.st (g' := (mkF m 44 #[.val (.ref a1), .val (.int p1), .val (.int p2), .val (.int p3), .val (.int p4), .val (.int p5), .val (.int (own_ex p1 p2 p3 p4 p5)), .val (.int (own_pr p4 p5 hl ag w106).1), .unset] [])) (fun t k => XS.ifYes X107.here hx rfl (pc0 := 37) (pc' := 44) rfl (hb hby d5_37) rfl (XT.i0_ne_t c112) (by decide) (by decide) k) ?_
        refine Gl.st (g' := (mkF m 45 #[.val (.ref a1), .val (.int p1), .val (.int p2), .val (.int p3), .val (.int p4), .val (.int p5), .val (.int (own_ex p1 p2 p3 p4 p5)), .val (.int (own_pr p4 p5 hl ag w106).1), .unset] [(.int (0 : Int32))])) (fun t k => XT.iconstV X107.here hx rfl (0 : Int32) (hb hby d5_44) rfl k) ?_
        refine Gl.st (g' := (mkF m 49 #[.val (.ref a1), .val (.int p1), .val (.int p2), .val (.int p3), .val (.int p4), .val (.int p5), .val (.int (own_ex p1 p2 p3 p4 p5)), .val (.int (own_pr p4 p5 hl ag w106).1), .unset] [(.int (0 : Int32))])) (fun t k => XS.goto X107.here hx rfl (pc0 := 45) (pc' := 49) rfl (hb hby d5_45) (by decide) (by decide) k) ?_
        refine Gl.st (g' := (mkF m 51 #[.val (.ref a1), .val (.int p1), .val (.int p2), .val (.int p3), .val (.int p4), .val (.int p5), .val (.int (own_ex p1 p2 p3 p4 p5)), .val (.int (own_pr p4 p5 hl ag w106).1), .val (.int (0 : Int32))] [])) (fun t k => XS.istore X107.here hx rfl (hb hby d5_49) rfl (l' := #[.val (.ref a1), .val (.int p1), .val (.int p2), .val (.int p3), .val (.int p4), .val (.int p5), .val (.int (own_ex p1 p2 p3 p4 p5)), .val (.int (own_pr p4 p5 hl ag w106).1), .val (.int (0 : Int32))]) rfl k) ?_
        refine Gl.st (g' := (mkF m 53 #[.val (.ref a1), .val (.int p1), .val (.int p2), .val (.int p3), .val (.int p4), .val (.int p5), .val (.int (own_ex p1 p2 p3 p4 p5)), .val (.int (own_pr p4 p5 hl ag w106).1), .val (.int (0 : Int32))] [(.int (own_pr p4 p5 hl ag w106).1)])) (fun t k => XS.iload X107.here hx rfl (hb hby d5_51) rfl k) ?_
        refine Gl.st (g' := (mkF m 55 #[.val (.ref a1), .val (.int p1), .val (.int p2), .val (.int p3), .val (.int p4), .val (.int p5), .val (.int (own_ex p1 p2 p3 p4 p5)), .val (.int (own_pr p4 p5 hl ag w106).1), .val (.int (0 : Int32))] [(.int (own_ex p1 p2 p3 p4 p5)), (.int (own_pr p4 p5 hl ag w106).1)])) (fun t k => XS.iload X107.here hx rfl (hb hby d5_53) rfl k) ?_
        by_cases c114 : (own_pr p4 p5 hl ag w106).1 = (own_ex p1 p2 p3 p4 p5)
        · skip
          refine Gl.st (g' := (mkF m 58 #[.val (.ref a1), .val (.int p1), .val (.int p2), .val (.int p3), .val (.int p4), .val (.int p5), .val (.int (own_ex p1 p2 p3 p4 p5)), .val (.int (own_pr p4 p5 hl ag w106).1), .val (.int (0 : Int32))] [])) (fun t k => XS.icmpNo X107.here hx rfl (hb hby d5_55) rfl (XT.ii_ne_f c114) k) ?_
          refine Gl.st (g' := (mkF m 59 #[.val (.ref a1), .val (.int p1), .val (.int p2), .val (.int p3), .val (.int p4), .val (.int p5), .val (.int (own_ex p1 p2 p3 p4 p5)), .val (.int (own_pr p4 p5 hl ag w106).1), .val (.int (0 : Int32))] [(.int (1 : Int32))])) (fun t k => XT.iconstV X107.here hx rfl (1 : Int32) (hb hby d5_58) rfl k) ?_
          refine Gl.st (g' := (mkF m 63 #[.val (.ref a1), .val (.int p1), .val (.int p2), .val (.int p3), .val (.int p4), .val (.int p5), .val (.int (own_ex p1 p2 p3 p4 p5)), .val (.int (own_pr p4 p5 hl ag w106).1), .val (.int (0 : Int32))] [(.int (1 : Int32))])) (fun t k => XS.goto X107.here hx rfl (pc0 := 59) (pc' := 63) rfl (hb hby d5_59) (by decide) (by decide) k) ?_
          refine Gl.st (g' := (mkF m 65 #[.val (.ref a1), .val (.int p1), .val (.int p2), .val (.int p3), .val (.int p4), .val (.int p5), .val (.int (own_ex p1 p2 p3 p4 p5)), .val (.int (own_pr p4 p5 hl ag w106).1), .val (.int (0 : Int32))] [(.int (0 : Int32)), (.int (1 : Int32))])) (fun t k => XS.iload X107.here hx rfl (hb hby d5_63) rfl k) ?_
          refine Gl.st (g' := (mkF m 72 #[.val (.ref a1), .val (.int p1), .val (.int p2), .val (.int p3), .val (.int p4), .val (.int p5), .val (.int (own_ex p1 p2 p3 p4 p5)), .val (.int (own_pr p4 p5 hl ag w106).1), .val (.int (0 : Int32))] [(.int (1 : Int32))])) (fun t k => XS.ifYes X107.here hx rfl (pc0 := 65) (pc' := 72) rfl (hb hby d5_65) rfl (XT.i0_eq_t (by decide)) (by decide) (by decide) k) ?_
          refine Gl.st (g' := (mkF m 73 #[.val (.ref a1), .val (.int p1), .val (.int p2), .val (.int p3), .val (.int p4), .val (.int p5), .val (.int (own_ex p1 p2 p3 p4 p5)), .val (.int (own_pr p4 p5 hl ag w106).1), .val (.int (0 : Int32))] [(.int (0 : Int32)), (.int (1 : Int32))])) (fun t k => XT.iconstV X107.here hx rfl (0 : Int32) (hb hby d5_72) rfl k) ?_
          refine Gl.st (g' := (mkF m 74 #[.val (.ref a1), .val (.int p1), .val (.int p2), .val (.int p3), .val (.int p4), .val (.int p5), .val (.int (own_ex p1 p2 p3 p4 p5)), .val (.int (own_pr p4 p5 hl ag w106).1), .val (.int (0 : Int32))] [(.int ((1 : Int32) ||| (0 : Int32)))])) (fun t k => XS.ior X107.here hx rfl (hb hby d5_73) rfl k) ?_
          refine Gl.retI X107 hx hlk Bd.returns (hb hby d5_74) e107 (by decide) (by decide) ?_
          subst hj106
          have ev : own_sv (own_ex p1 p2 p3 p4 p5) (own_pr p4 p5 hl ag (own_pb p1 p2)).1 p3 = ((1 : Int32) ||| (0 : Int32)) := by
            unfold own_sv
            rw [if_neg c108, if_neg c112, if_pos c114]
          rw [Q5, ev]
          exact ⟨rfl, N107, Z107, E107, Fa107, Fb107, Fc107, Fd107⟩
        · skip
          refine Gl.st (g' := (mkF m 62 #[.val (.ref a1), .val (.int p1), .val (.int p2), .val (.int p3), .val (.int p4), .val (.int p5), .val (.int (own_ex p1 p2 p3 p4 p5)), .val (.int (own_pr p4 p5 hl ag w106).1), .val (.int (0 : Int32))] [])) (fun t k => XS.icmpYes X107.here hx rfl (pc0 := 55) (pc' := 62) rfl (hb hby d5_55) rfl (XT.ii_ne_t c114) (by decide) (by decide) k) ?_
          refine Gl.st (g' := (mkF m 63 #[.val (.ref a1), .val (.int p1), .val (.int p2), .val (.int p3), .val (.int p4), .val (.int p5), .val (.int (own_ex p1 p2 p3 p4 p5)), .val (.int (own_pr p4 p5 hl ag w106).1), .val (.int (0 : Int32))] [(.int (0 : Int32))])) (fun t k => XT.iconstV X107.here hx rfl (0 : Int32) (hb hby d5_62) rfl k) ?_
          refine Gl.st (g' := (mkF m 65 #[.val (.ref a1), .val (.int p1), .val (.int p2), .val (.int p3), .val (.int p4), .val (.int p5), .val (.int (own_ex p1 p2 p3 p4 p5)), .val (.int (own_pr p4 p5 hl ag w106).1), .val (.int (0 : Int32))] [(.int (0 : Int32)), (.int (0 : Int32))])) (fun t k => XS.iload X107.here hx rfl (hb hby d5_63) rfl k) ?_
          refine Gl.st (g' := (mkF m 72 #[.val (.ref a1), .val (.int p1), .val (.int p2), .val (.int p3), .val (.int p4), .val (.int p5), .val (.int (own_ex p1 p2 p3 p4 p5)), .val (.int (own_pr p4 p5 hl ag w106).1), .val (.int (0 : Int32))] [(.int (0 : Int32))])) (fun t k => XS.ifYes X107.here hx rfl (pc0 := 65) (pc' := 72) rfl (hb hby d5_65) rfl (XT.i0_eq_t (by decide)) (by decide) (by decide) k) ?_
          refine Gl.st (g' := (mkF m 73 #[.val (.ref a1), .val (.int p1), .val (.int p2), .val (.int p3), .val (.int p4), .val (.int p5), .val (.int (own_ex p1 p2 p3 p4 p5)), .val (.int (own_pr p4 p5 hl ag w106).1), .val (.int (0 : Int32))] [(.int (0 : Int32)), (.int (0 : Int32))])) (fun t k => XT.iconstV X107.here hx rfl (0 : Int32) (hb hby d5_72) rfl k) ?_
          refine Gl.st (g' := (mkF m 74 #[.val (.ref a1), .val (.int p1), .val (.int p2), .val (.int p3), .val (.int p4), .val (.int p5), .val (.int (own_ex p1 p2 p3 p4 p5)), .val (.int (own_pr p4 p5 hl ag w106).1), .val (.int (0 : Int32))] [(.int ((0 : Int32) ||| (0 : Int32)))])) (fun t k => XS.ior X107.here hx rfl (hb hby d5_73) rfl k) ?_
          refine Gl.retI X107 hx hlk Bd.returns (hb hby d5_74) e107 (by decide) (by decide) ?_
          subst hj106
          have ev : own_sv (own_ex p1 p2 p3 p4 p5) (own_pr p4 p5 hl ag (own_pb p1 p2)).1 p3 = ((0 : Int32) ||| (0 : Int32)) := by
            unfold own_sv
            rw [if_neg c108, if_neg c112, if_neg c114]
          rw [Q5, ev]
          exact ⟨rfl, N107, Z107, E107, Fa107, Fb107, Fc107, Fd107⟩
  by_cases c115 : ((p1 >>> (p2 &&& 31)) &&& (1 : Int32)) = (0 : Int32)
  · skip
    refine Gl.st (g' := (mkF m 25 #[.val (.ref a1), .val (.int p1), .val (.int p2), .val (.int p3), .val (.int p4), .val (.int p5), .val (.int (own_ex p1 p2 p3 p4 p5)), .unset, .unset] [(.ref a1)])) (fun t k => XS.ifYes X105.here hx rfl (pc0 := 18) (pc' := 25) rfl (hb hby d5_18) rfl (XT.i0_eq_t c115) (by decide) (by decide) k) ?_
    refine Gl.st (g' := (mkF m 26 #[.val (.ref a1), .val (.int p1), .val (.int p2), .val (.int p3), .val (.int p4), .val (.int p5), .val (.int (own_ex p1 p2 p3 p4 p5)), .unset, .unset] [(.int (0 : Int32)), (.ref a1)])) (fun t k => XT.iconstV X105.here hx rfl (0 : Int32) (hb hby d5_25) rfl k) ?_
    exact j106 _ (by unfold own_pb; rw [if_pos c115])
  · skip
    refine Gl.st (g' := (mkF m 21 #[.val (.ref a1), .val (.int p1), .val (.int p2), .val (.int p3), .val (.int p4), .val (.int p5), .val (.int (own_ex p1 p2 p3 p4 p5)), .unset, .unset] [(.ref a1)])) (fun t k => XS.ifNo X105.here hx rfl (hb hby d5_18) rfl (XT.i0_eq_f c115) k) ?_
    refine Gl.st (g' := (mkF m 22 #[.val (.ref a1), .val (.int p1), .val (.int p2), .val (.int p3), .val (.int p4), .val (.int p5), .val (.int (own_ex p1 p2 p3 p4 p5)), .unset, .unset] [(.int (1 : Int32)), (.ref a1)])) (fun t k => XT.iconstV X105.here hx rfl (1 : Int32) (hb hby d5_21) rfl k) ?_
    refine Gl.st (g' := (mkF m 26 #[.val (.ref a1), .val (.int p1), .val (.int p2), .val (.int p3), .val (.int p4), .val (.int p5), .val (.int (own_ex p1 p2 p3 p4 p5)), .unset, .unset] [(.int (1 : Int32)), (.ref a1)])) (fun t k => XS.goto X105.here hx rfl (pc0 := 22) (pc' := 26) rfl (hb hby d5_22) (by decide) (by decide) k) ?_
    exact j106 _ (by unfold own_pb; rw [if_neg c115])
theorem pd_4 : parseMethodDescriptor "(Lcom/example/outlier/outlier/health/HealthState;IIZII)I" = some ⟨[(.object "com/example/outlier/outlier/health/HealthState"), .int, .int, .boolean, .int, .int], some .int⟩ := by decide +kernel
theorem ef_0 (m : MethodId) (p1 : Int32) (p2 : Int32) (p3 : Int32) : entryFrame m #[(.int p1), (.int p2), (.int p3)] maxLocals = mkF m 0 #[.val (.int p1), .val (.int p2), .val (.int p3), .unset, .unset, .unset, .unset, .unset, .unset] [] := by first | (simp [entryFrame, mkF, argsToLocals, Value.category, maxLocals]; done) | rfl
def Q0 (Z : State) (p1 : Int32) (p2 : Int32) (p3 : Int32)  (h0 : Heap) (n0 : Nat) (v : Option Value) (h : Heap) (L : List Loc) : Prop := v = some (.int 1) ∧ Fr n0 L
set_option maxRecDepth 65536 in
set_option maxHeartbeats 40000000 in
theorem rm0 (l : Launch) (Z : State) (a0 : Array Value) (hw : ∀ d ∈ tables_1, d.before a0 Z = true) (ws : List Jvm.Cond) (p1 : Int32) (p2 : Int32) (p3 : Int32)  (h0 : Heap) (n0 : Nat) (Z0 : n0 ≤ h0.size)  :
    MetFree l x (head1 (Jvm.Cond.code x code maxLocals ret :: ws) room_1) (fun a U => a = #[(.int p1), (.int p2), (.int p3)] ∧ Z.Warmed39 U.vm ∧ U.heap = h0) (fun _ _ _ _ _ => True) (fun _ U o U' => ∃ v L, o = .returned v ∧ Q0 Z p1 p2 p3  h0 n0 v U'.heap L ∧ FrameEnd U o U' L 16 128) := by
  refine MetFree.of_bodySF (plainFor_of_name pn_1) hisR ?_
  intro p e s m args below meth c s₁ Bd hml0 hP hK
  obtain ⟨rfl, hZ, hh⟩ := hP
  have hx := Bd.exec
  have hby := Bd.bytes
  have hlk : meth.locks = false := Bd.notSynchronized
  have hml : c.maxLocals = 9 := hml0
  have hown : s.vm.findClass "com/example/outlier/outlier/health/HealthStateProbedPinLaw" = some m.cls := findClass_of_methodNamed Bd.named
  have hnm := (name_of_methodNamed Bd.named Bd.method).1
  have X0 : Stand p l e room_1 s m #[(.int p1), (.int p2), (.int p3)] below meth c s₁ [] 0 0 := Stand.of_body Bd
  have e0 : s₁.heap = h0 := by rw [← hh, Bd.state]; rfl
  have N0 := Fr.nil n0
  show Gl p e below s (Q0 Z p1 p2 p3  h0 n0) 16 128 s₁ (entryFrame m #[(.int p1), (.int p2), (.int p3)] maxLocals)
  rw [ef_0 m p1 p2 p3]
  refine Gl.st (g' := (mkF m 1 #[.val (.int p1), .val (.int p2), .val (.int p3), .unset, .unset, .unset, .unset, .unset, .unset] [(.int p1)])) (fun t k => XS.iloadN X0.here hx rfl (hb hby at_0) rfl k) ?_
  refine Gl.st (g' := (mkF m 2 #[.val (.int p1), .val (.int p2), .val (.int p3), .unset, .unset, .unset, .unset, .unset, .unset] [(.int (3 : Int32)), (.int p1)])) (fun t k => XT.iconstV X0.here hx rfl (3 : Int32) (hb hby at_1) rfl k) ?_
  refine Gl.st (g' := (mkF m 3 #[.val (.int p1), .val (.int p2), .val (.int p3), .unset, .unset, .unset, .unset, .unset, .unset] [(.int (p1 &&& (3 : Int32)))])) (fun t k => XS.iand X0.here hx rfl (hb hby at_2) rfl k) ?_
  refine Gl.st (g' := (mkF m 4 #[.val (.int p1), .val (.int p2), .val (.int p3), .unset, .unset, .unset, .unset, .unset, .unset] [(.int (1 : Int32)), (.int (p1 &&& (3 : Int32)))])) (fun t k => XT.iconstV X0.here hx rfl (1 : Int32) (hb hby at_3) rfl k) ?_
  refine Gl.st (g' := (mkF m 5 #[.val (.int p1), .val (.int p2), .val (.int p3), .unset, .unset, .unset, .unset, .unset, .unset] [(.int ((p1 &&& (3 : Int32)) + (1 : Int32)))])) (fun t k => XS.iadd X0.here hx rfl (hb hby at_4) rfl k) ?_
  generalize hv116 : ((p1 &&& (3 : Int32)) + (1 : Int32)) = v116
  refine Gl.st (g' := (mkF m 6 #[.val (.int p1), .val (.int p2), .val (.int p3), .val (.int v116), .unset, .unset, .unset, .unset, .unset] [])) (fun t k => XS.istoreN X0.here hx rfl (hb hby at_5) rfl (l' := #[.val (.int p1), .val (.int p2), .val (.int p3), .val (.int v116), .unset, .unset, .unset, .unset, .unset]) rfl k) ?_
  refine Gl.st (g' := (mkF m 7 #[.val (.int p1), .val (.int p2), .val (.int p3), .val (.int v116), .unset, .unset, .unset, .unset, .unset] [(.int p2)])) (fun t k => XS.iloadN X0.here hx rfl (hb hby at_6) rfl k) ?_
  refine Gl.st (g' := (mkF m 8 #[.val (.int p1), .val (.int p2), .val (.int p3), .val (.int v116), .unset, .unset, .unset, .unset, .unset] [(.int (3 : Int32)), (.int p2)])) (fun t k => XT.iconstV X0.here hx rfl (3 : Int32) (hb hby at_7) rfl k) ?_
  refine Gl.st (g' := (mkF m 9 #[.val (.int p1), .val (.int p2), .val (.int p3), .val (.int v116), .unset, .unset, .unset, .unset, .unset] [(.int (p2 &&& (3 : Int32)))])) (fun t k => XS.iand X0.here hx rfl (hb hby at_8) rfl k) ?_
  refine Gl.st (g' := (mkF m 10 #[.val (.int p1), .val (.int p2), .val (.int p3), .val (.int v116), .unset, .unset, .unset, .unset, .unset] [(.int (1 : Int32)), (.int (p2 &&& (3 : Int32)))])) (fun t k => XT.iconstV X0.here hx rfl (1 : Int32) (hb hby at_9) rfl k) ?_
  refine Gl.st (g' := (mkF m 11 #[.val (.int p1), .val (.int p2), .val (.int p3), .val (.int v116), .unset, .unset, .unset, .unset, .unset] [(.int ((p2 &&& (3 : Int32)) + (1 : Int32)))])) (fun t k => XS.iadd X0.here hx rfl (hb hby at_10) rfl k) ?_
  generalize hv117 : ((p2 &&& (3 : Int32)) + (1 : Int32)) = v117
  refine Gl.st (g' := (mkF m 13 #[.val (.int p1), .val (.int p2), .val (.int p3), .val (.int v116), .val (.int v117), .unset, .unset, .unset, .unset] [])) (fun t k => XS.istore X0.here hx rfl (hb hby at_11) rfl (l' := #[.val (.int p1), .val (.int p2), .val (.int p3), .val (.int v116), .val (.int v117), .unset, .unset, .unset, .unset]) rfl k) ?_
  obtain ⟨T118, h118, X118, e118, E118, A118, D118, -, st118⟩ := newO X0 hx hZ hown (hw _ (List.mem_of_getElem? (i := 0) rfl)) (hw _ (List.mem_of_getElem? (i := 1) rfl)) (hw _ (List.mem_of_getElem? (i := 2) rfl)) e0 (g := (mkF m 13 #[.val (.int p1), .val (.int p2), .val (.int p3), .val (.int v116), .val (.int v117), .unset, .unset, .unset, .unset] [])) rfl (hb hby at_13) (by decide) (by decide)
  obtain ⟨a118, g118⟩ : ∃ z, z = h0.size := ⟨_, rfl⟩
  have ge118 : n0 ≤ a118 := Nat.le_trans Z0 (Nat.le_of_eq g118.symm)
  rw [← g118] at A118 D118 st118
  have Z118 : n0 ≤ h118.size := Nat.le_trans Z0 E118.1
  have F119 : Fld Z h118 a118 "com/example/outlier/outlier/health/HealthState" "healthyThreshold" "I" (.int (0 : Int32)) := (D118 (Or.inr (hw _ (List.mem_of_getElem? (i := 10) rfl))) (ty := .int) (by decide))
  have F120 : Fld Z h118 a118 "com/example/outlier/outlier/health/HealthState" "unhealthyThreshold" "I" (.int (0 : Int32)) := (D118 (Or.inr (hw _ (List.mem_of_getElem? (i := 12) rfl))) (ty := .int) (by decide))
  have F121 : Fld Z h118 a118 "com/example/outlier/outlier/health/HealthState" "healthy" "Z" (.int (0 : Int32)) := (D118 (Or.inl (hw _ (List.mem_of_getElem? (i := 26) rfl))) (ty := .boolean) (by decide))
  have F122 : Fld Z h118 a118 "com/example/outlier/outlier/health/HealthState" "against" "I" (.int (0 : Int32)) := (D118 (Or.inl (hw _ (List.mem_of_getElem? (i := 28) rfl))) (ty := .int) (by decide))
  refine Gl.st (g' := (mkF m 16 #[.val (.int p1), .val (.int p2), .val (.int p3), .val (.int v116), .val (.int v117), .unset, .unset, .unset, .unset] [(.ref a118)])) st118 ?_
  refine Gl.st (g' := (mkF m 17 #[.val (.int p1), .val (.int p2), .val (.int p3), .val (.int v116), .val (.int v117), .unset, .unset, .unset, .unset] [(.ref a118), (.ref a118)])) (fun t k => XS.dup X118.here hx rfl (hb hby at_16) rfl rfl k) ?_
  refine Gl.st (g' := (mkF m 18 #[.val (.int p1), .val (.int p2), .val (.int p3), .val (.int v116), .val (.int v117), .unset, .unset, .unset, .unset] [(.int v116), (.ref a118), (.ref a118)])) (fun t k => XS.iloadN X118.here hx rfl (hb hby at_17) rfl k) ?_
  refine Gl.st (g' := (mkF m 20 #[.val (.int p1), .val (.int p2), .val (.int p3), .val (.int v116), .val (.int v117), .unset, .unset, .unset, .unset] [(.int v117), (.int v116), (.ref a118), (.ref a118)])) (fun t k => XS.iload X118.here hx rfl (hb hby at_18) rfl k) ?_
  obtain ⟨_, _, ⟨T123, L123, k123, n123⟩, -, X123, ⟨Lc123, hQ123, l123, y123, z123⟩, st123⟩ := X118.specialBack hx (y := (⟨"com/example/outlier/outlier/health/HealthState", "<init>", "(II)V"⟩ : MethodName)) rfl hown (mvT hZ (hw _ (List.mem_of_getElem? (i := 3) rfl))) (mvT hZ (hw _ (List.mem_of_getElem? (i := 4) rfl))) (mvT hZ (hw _ (List.mem_of_getElem? (i := 5) rfl))) (by decide) (backOf (W := 1) (rm1 l Z a0 hw a118 v116 v117  h118 n0 Z118 A118 F119 F120 F121 F122 ge118) hZ (hw _ (List.mem_of_getElem? (i := 5) rfl)) (hw _ (List.mem_of_getElem? (i := 2) rfl)) (by decide) (by decide)) (g := (mkF m 20 #[.val (.int p1), .val (.int p2), .val (.int p3), .val (.int v116), .val (.int v117), .unset, .unset, .unset, .unset] [(.int v117), (.int v116), (.ref a118), (.ref a118)])) rfl (by rw [hml]; rfl) (Steps.refl _) (a := a118) (argsL := [(.int v116), (.int v117)]) (rest := [(.ref a118)]) (lenOf pd_0 rfl) rfl (by show 2 * 0 + _ ≤ _; exact Nat.le_of_eq rfl) (hb hby at_20) (fun _ _ => ⟨rfl, e118, (by decide : 0 + 1 + 0 ≤ _), (by decide : 0 + 4 + 0 ≤ _)⟩)
  dsimp only [Pt.U, Pt.locs, Pt.cells, Pt.slots] at X123 l123 y123 z123 st123 hQ123
  subst l123 y123 z123
  obtain ⟨rfl, Nq123, Z123, E123, Fa123, Fb123, Fc123, Fd123⟩ := hQ123
  have N123 := Fr.app N0 Nq123
  have e123 : T123.heap = T123.heap := rfl
  have hS0 : ((0 : Int32), (0 : Int32), (0 : Int32), (1 : Int32)) = own_S p3 v116 v117 0 := rfl
  refine Gl.st (g' := (mkF m 23 #[.val (.int p1), .val (.int p2), .val (.int p3), .val (.int v116), .val (.int v117), .unset, .unset, .unset, .unset] [(.ref a118)])) (fun t k => st123.trans k) ?_
  refine Gl.st (g' := (mkF m 25 #[.val (.int p1), .val (.int p2), .val (.int p3), .val (.int v116), .val (.int v117), .val (.ref a118), .unset, .unset, .unset] [])) (fun t k => XS.astore X123.here hx rfl (hb hby at_23) rfl rfl (l' := #[.val (.int p1), .val (.int p2), .val (.int p3), .val (.int v116), .val (.int v117), .val (.ref a118), .unset, .unset, .unset]) rfl k) ?_
  refine Gl.st (g' := (mkF m 26 #[.val (.int p1), .val (.int p2), .val (.int p3), .val (.int v116), .val (.int v117), .val (.ref a118), .unset, .unset, .unset] [(.int (1 : Int32))])) (fun t k => XT.iconstV X123.here hx rfl (1 : Int32) (hb hby at_25) rfl k) ?_
  refine Gl.st (g' := (mkF m 28 #[.val (.int p1), .val (.int p2), .val (.int p3), .val (.int v116), .val (.int v117), .val (.ref a118), .val (.int (1 : Int32)), .unset, .unset] [])) (fun t k => XS.istore X123.here hx rfl (hb hby at_26) rfl (l' := #[.val (.int p1), .val (.int p2), .val (.int p3), .val (.int v116), .val (.int v117), .val (.ref a118), .val (.int (1 : Int32)), .unset, .unset]) rfl k) ?_
  refine Gl.st (g' := (mkF m 29 #[.val (.int p1), .val (.int p2), .val (.int p3), .val (.int v116), .val (.int v117), .val (.ref a118), .val (.int (1 : Int32)), .unset, .unset] [(.int (0 : Int32))])) (fun t k => XT.iconstV X123.here hx rfl (0 : Int32) (hb hby at_28) rfl k) ?_
  refine Gl.st (g' := (mkF m 31 #[.val (.int p1), .val (.int p2), .val (.int p3), .val (.int v116), .val (.int v117), .val (.ref a118), .val (.int (1 : Int32)), .val (.int (0 : Int32)), .unset] [])) (fun t k => XS.istore X123.here hx rfl (hb hby at_29) rfl (l' := #[.val (.int p1), .val (.int p2), .val (.int p3), .val (.int v116), .val (.int v117), .val (.ref a118), .val (.int (1 : Int32)), .val (.int (0 : Int32)), .unset]) rfl k) ?_
  refine Gl.st (g' := (mkF m 33 #[.val (.int p1), .val (.int p2), .val (.int p3), .val (.int v116), .val (.int v117), .val (.ref a118), .val (.int (1 : Int32)), .val (.int (0 : Int32)), .unset] [(.ref a118)])) (fun t k => XS.aload X123.here hx rfl (hb hby at_31) rfl rfl k) ?_
  refine Gl.st (g' := (mkF m 34 #[.val (.int p1), .val (.int p2), .val (.int p3), .val (.int v116), .val (.int v117), .val (.ref a118), .val (.int (1 : Int32)), .val (.int (0 : Int32)), .unset] [(.int p3), (.ref a118)])) (fun t k => XS.iloadN X123.here hx rfl (hb hby at_33) rfl k) ?_
  refine Gl.st (g' := (mkF m 35 #[.val (.int p1), .val (.int p2), .val (.int p3), .val (.int v116), .val (.int v117), .val (.ref a118), .val (.int (1 : Int32)), .val (.int (0 : Int32)), .unset] [(.int (0 : Int32)), (.int p3), (.ref a118)])) (fun t k => XT.iconstV X123.here hx rfl (0 : Int32) (hb hby at_34) rfl k) ?_
  refine Gl.st (g' := (mkF m 37 #[.val (.int p1), .val (.int p2), .val (.int p3), .val (.int v116), .val (.int v117), .val (.ref a118), .val (.int (1 : Int32)), .val (.int (0 : Int32)), .unset] [(.int (0 : Int32)), (.int (0 : Int32)), (.int p3), (.ref a118)])) (fun t k => XS.iload X123.here hx rfl (hb hby at_35) rfl k) ?_
  refine Gl.st (g' := (mkF m 38 #[.val (.int p1), .val (.int p2), .val (.int p3), .val (.int v116), .val (.int v117), .val (.ref a118), .val (.int (1 : Int32)), .val (.int (0 : Int32)), .unset] [(.int v116), (.int (0 : Int32)), (.int (0 : Int32)), (.int p3), (.ref a118)])) (fun t k => XS.iloadN X123.here hx rfl (hb hby at_37) rfl k) ?_
  refine Gl.st (g' := (mkF m 40 #[.val (.int p1), .val (.int p2), .val (.int p3), .val (.int v116), .val (.int v117), .val (.ref a118), .val (.int (1 : Int32)), .val (.int (0 : Int32)), .unset] [(.int v117), (.int v116), (.int (0 : Int32)), (.int (0 : Int32)), (.int p3), (.ref a118)])) (fun t k => XS.iload X123.here hx rfl (hb hby at_38) rfl k) ?_
  obtain ⟨_, _, ⟨T124, L124, k124, n124⟩, -, X124, ⟨Lc124, hQ124, l124, y124, z124⟩, st124⟩ := Jvm.LawKit.callS X123 hx (y := (⟨"com/example/outlier/outlier/health/HealthStateProbedPinLaw", "step", "(Lcom/example/outlier/outlier/health/HealthState;IIZII)I"⟩ : MethodName)) hown (mvT hZ (hw _ (List.mem_of_getElem? (i := 13) rfl))) (mvT hZ (hw _ (List.mem_of_getElem? (i := 14) rfl))) (mvT hZ (hw _ (List.mem_of_getElem? (i := 15) rfl))) (mvT hZ (hw _ (List.mem_of_getElem? (i := 16) rfl))) (by decide) (backOf (W := 0) (rm5 l Z a0 hw a118 p3 (0 : Int32) (0 : Int32) v116 v117 (0 : Int32) (0 : Int32) T123.heap n0 Z123 E123 Fa123 Fb123 Fc123 Fd123 ge118) hZ (hw _ (List.mem_of_getElem? (i := 16) rfl)) (hw _ (List.mem_of_getElem? (i := 15) rfl)) (by decide) (by decide)) (g := (mkF m 40 #[.val (.int p1), .val (.int p2), .val (.int p3), .val (.int v116), .val (.int v117), .val (.ref a118), .val (.int (1 : Int32)), .val (.int (0 : Int32)), .unset] [(.int v117), (.int v116), (.int (0 : Int32)), (.int (0 : Int32)), (.int p3), (.ref a118)])) rfl (by rw [hml]; rfl) (argsL := [(.ref a118), (.int p3), (.int (0 : Int32)), (.int (0 : Int32)), (.int v116), (.int v117)]) (rest := []) (lenOf pd_4 rfl) rfl (by show 2 * 0 + _ ≤ _; exact Nat.le_of_eq rfl) (hb hby at_40) (fun _ _ => ⟨rfl, e123, (by decide : 0 + 1 + 0 + 0 ≤ _), (by decide : 0 + 4 + 0 + 0 ≤ _)⟩)
  dsimp only [Pt.U, Pt.locs, Pt.cells, Pt.slots] at X124 l124 y124 z124 st124 hQ124
  subst l124 y124 z124
  obtain ⟨rfl, Nq124, Z124, E124, Fa124, Fb124, Fc124, Fd124⟩ := hQ124
  have N124 := Fr.app N123 Nq124
  have e124 : T124.heap = T124.heap := rfl
  obtain ⟨hl124, hh124⟩ : ∃ z, z = (own_pr v116 v117 (0 : Int32) (0 : Int32) (own_pb p3 (0 : Int32))).2.1 := ⟨_, rfl⟩
  obtain ⟨ag124, ha124⟩ : ∃ z, z = (own_pr v116 v117 (0 : Int32) (0 : Int32) (own_pb p3 (0 : Int32))).2.2 := ⟨_, rfl⟩
  rw [← hh124] at Fc124
  rw [← ha124] at Fd124
  refine Gl.st (g' := (mkF m 43 #[.val (.int p1), .val (.int p2), .val (.int p3), .val (.int v116), .val (.int v117), .val (.ref a118), .val (.int (1 : Int32)), .val (.int (0 : Int32)), .unset] [(.int (own_sv (own_ex p3 (0 : Int32) (0 : Int32) v116 v117) (own_pr v116 v117 (0 : Int32) (0 : Int32) (own_pb p3 (0 : Int32))).1 (0 : Int32)))])) st124 ?_
  generalize hv125 : (own_sv (own_ex p3 (0 : Int32) (0 : Int32) v116 v117) (own_pr v116 v117 (0 : Int32) (0 : Int32) (own_pb p3 (0 : Int32))).1 (0 : Int32)) = v125
  refine Gl.st (g' := (mkF m 45 #[.val (.int p1), .val (.int p2), .val (.int p3), .val (.int v116), .val (.int v117), .val (.ref a118), .val (.int (1 : Int32)), .val (.int (0 : Int32)), .val (.int v125)] [])) (fun t k => XS.istore X124.here hx rfl (hb hby at_43) rfl (l' := #[.val (.int p1), .val (.int p2), .val (.int p3), .val (.int v116), .val (.int v117), .val (.ref a118), .val (.int (1 : Int32)), .val (.int (0 : Int32)), .val (.int v125)]) rfl k) ?_
  refine Gl.st (g' := (mkF m 47 #[.val (.int p1), .val (.int p2), .val (.int p3), .val (.int v116), .val (.int v117), .val (.ref a118), .val (.int (1 : Int32)), .val (.int (0 : Int32)), .val (.int v125)] [(.int (1 : Int32))])) (fun t k => XS.iload X124.here hx rfl (hb hby at_45) rfl k) ?_
  refine Gl.st (g' := (mkF m 49 #[.val (.int p1), .val (.int p2), .val (.int p3), .val (.int v116), .val (.int v117), .val (.ref a118), .val (.int (1 : Int32)), .val (.int (0 : Int32)), .val (.int v125)] [(.int v125), (.int (1 : Int32))])) (fun t k => XS.iload X124.here hx rfl (hb hby at_47) rfl k) ?_
  refine Gl.st (g' := (mkF m 50 #[.val (.int p1), .val (.int p2), .val (.int p3), .val (.int v116), .val (.int v117), .val (.ref a118), .val (.int (1 : Int32)), .val (.int (0 : Int32)), .val (.int v125)] [(.int ((1 : Int32) &&& v125))])) (fun t k => XS.iand X124.here hx rfl (hb hby at_49) rfl k) ?_
  generalize hv126 : ((1 : Int32) &&& v125) = v126
  refine Gl.st (g' := (mkF m 52 #[.val (.int p1), .val (.int p2), .val (.int p3), .val (.int v116), .val (.int v117), .val (.ref a118), .val (.int v126), .val (.int (0 : Int32)), .val (.int v125)] [])) (fun t k => XS.istore X124.here hx rfl (hb hby at_50) rfl (l' := #[.val (.int p1), .val (.int p2), .val (.int p3), .val (.int v116), .val (.int v117), .val (.ref a118), .val (.int v126), .val (.int (0 : Int32)), .val (.int v125)]) rfl k) ?_
  refine Gl.st (g' := (mkF m 54 #[.val (.int p1), .val (.int p2), .val (.int p3), .val (.int v116), .val (.int v117), .val (.ref a118), .val (.int v126), .val (.int (0 : Int32)), .val (.int v125)] [(.int v125)])) (fun t k => XS.iload X124.here hx rfl (hb hby at_52) rfl k) ?_
  refine Gl.st (g' := (mkF m 55 #[.val (.int p1), .val (.int p2), .val (.int p3), .val (.int v116), .val (.int v117), .val (.ref a118), .val (.int v126), .val (.int (0 : Int32)), .val (.int v125)] [(.int (2 : Int32)), (.int v125)])) (fun t k => XT.iconstV X124.here hx rfl (2 : Int32) (hb hby at_54) rfl k) ?_
  refine Gl.st (g' := (mkF m 56 #[.val (.int p1), .val (.int p2), .val (.int p3), .val (.int v116), .val (.int v117), .val (.ref a118), .val (.int v126), .val (.int (0 : Int32)), .val (.int v125)] [(.int (v125 &&& (2 : Int32)))])) (fun t k => XS.iand X124.here hx rfl (hb hby at_55) rfl k) ?_
  -- join at 64
  have j127 : ∀ w127 : Int32, w127 = own_b2 v125 → Gl p e below s (Q0 Z p1 p2 p3  h0 n0) 16 128 T124 (mkF m 64 #[.val (.int p1), .val (.int p2), .val (.int p3), .val (.int v116), .val (.int v117), .val (.ref a118), .val (.int v126), .val (.int (0 : Int32)), .val (.int v125)] [(.int w127)]) := by
    intro w127 hj127
    have hS1 := own_step hS0 rfl hv125 hh124 ha124 hj127 hv126
    refine Gl.st (g' := (mkF m 66 #[.val (.int p1), .val (.int p2), .val (.int p3), .val (.int v116), .val (.int v117), .val (.ref a118), .val (.int v126), .val (.int w127), .val (.int v125)] [])) (fun t k => XS.istore X124.here hx rfl (hb hby at_64) rfl (l' := #[.val (.int p1), .val (.int p2), .val (.int p3), .val (.int v116), .val (.int v117), .val (.ref a118), .val (.int v126), .val (.int w127), .val (.int v125)]) rfl k) ?_
    refine Gl.st (g' := (mkF m 68 #[.val (.int p1), .val (.int p2), .val (.int p3), .val (.int v116), .val (.int v117), .val (.ref a118), .val (.int v126), .val (.int w127), .val (.int v125)] [(.ref a118)])) (fun t k => XS.aload X124.here hx rfl (hb hby at_66) rfl rfl k) ?_
    refine Gl.st (g' := (mkF m 69 #[.val (.int p1), .val (.int p2), .val (.int p3), .val (.int v116), .val (.int v117), .val (.ref a118), .val (.int v126), .val (.int w127), .val (.int v125)] [(.int p3), (.ref a118)])) (fun t k => XS.iloadN X124.here hx rfl (hb hby at_68) rfl k) ?_
    refine Gl.st (g' := (mkF m 70 #[.val (.int p1), .val (.int p2), .val (.int p3), .val (.int v116), .val (.int v117), .val (.ref a118), .val (.int v126), .val (.int w127), .val (.int v125)] [(.int (1 : Int32)), (.int p3), (.ref a118)])) (fun t k => XT.iconstV X124.here hx rfl (1 : Int32) (hb hby at_69) rfl k) ?_
    refine Gl.st (g' := (mkF m 72 #[.val (.int p1), .val (.int p2), .val (.int p3), .val (.int v116), .val (.int v117), .val (.ref a118), .val (.int v126), .val (.int w127), .val (.int v125)] [(.int w127), (.int (1 : Int32)), (.int p3), (.ref a118)])) (fun t k => XS.iload X124.here hx rfl (hb hby at_70) rfl k) ?_
    refine Gl.st (g' := (mkF m 73 #[.val (.int p1), .val (.int p2), .val (.int p3), .val (.int v116), .val (.int v117), .val (.ref a118), .val (.int v126), .val (.int w127), .val (.int v125)] [(.int v116), (.int w127), (.int (1 : Int32)), (.int p3), (.ref a118)])) (fun t k => XS.iloadN X124.here hx rfl (hb hby at_72) rfl k) ?_
    refine Gl.st (g' := (mkF m 75 #[.val (.int p1), .val (.int p2), .val (.int p3), .val (.int v116), .val (.int v117), .val (.ref a118), .val (.int v126), .val (.int w127), .val (.int v125)] [(.int v117), (.int v116), (.int w127), (.int (1 : Int32)), (.int p3), (.ref a118)])) (fun t k => XS.iload X124.here hx rfl (hb hby at_73) rfl k) ?_
    obtain ⟨_, _, ⟨T128, L128, k128, n128⟩, -, X128, ⟨Lc128, hQ128, l128, y128, z128⟩, st128⟩ := Jvm.LawKit.callS X124 hx (y := (⟨"com/example/outlier/outlier/health/HealthStateProbedPinLaw", "step", "(Lcom/example/outlier/outlier/health/HealthState;IIZII)I"⟩ : MethodName)) hown (mvT hZ (hw _ (List.mem_of_getElem? (i := 13) rfl))) (mvT hZ (hw _ (List.mem_of_getElem? (i := 14) rfl))) (mvT hZ (hw _ (List.mem_of_getElem? (i := 15) rfl))) (mvT hZ (hw _ (List.mem_of_getElem? (i := 16) rfl))) (by decide) (backOf (W := 0) (rm5 l Z a0 hw a118 p3 (1 : Int32) w127 v116 v117 hl124 ag124 T124.heap n0 Z124 E124 Fa124 Fb124 Fc124 Fd124 ge118) hZ (hw _ (List.mem_of_getElem? (i := 16) rfl)) (hw _ (List.mem_of_getElem? (i := 15) rfl)) (by decide) (by decide)) (g := (mkF m 75 #[.val (.int p1), .val (.int p2), .val (.int p3), .val (.int v116), .val (.int v117), .val (.ref a118), .val (.int v126), .val (.int w127), .val (.int v125)] [(.int v117), (.int v116), (.int w127), (.int (1 : Int32)), (.int p3), (.ref a118)])) rfl (by rw [hml]; rfl) (argsL := [(.ref a118), (.int p3), (.int (1 : Int32)), (.int w127), (.int v116), (.int v117)]) (rest := []) (lenOf pd_4 rfl) rfl (by show 2 * 0 + _ ≤ _; exact Nat.le_of_eq rfl) (hb hby at_75) (fun _ _ => ⟨rfl, e124, (by decide : 0 + 1 + 0 + 0 + 0 ≤ _), (by decide : 0 + 4 + 0 + 0 + 0 ≤ _)⟩)
    dsimp only [Pt.U, Pt.locs, Pt.cells, Pt.slots] at X128 l128 y128 z128 st128 hQ128
    subst l128 y128 z128
    obtain ⟨rfl, Nq128, Z128, E128, Fa128, Fb128, Fc128, Fd128⟩ := hQ128
    have N128 := Fr.app N124 Nq128
    have e128 : T128.heap = T128.heap := rfl
    obtain ⟨hl128, hh128⟩ : ∃ z, z = (own_pr v116 v117 hl124 ag124 (own_pb p3 (1 : Int32))).2.1 := ⟨_, rfl⟩
    obtain ⟨ag128, ha128⟩ : ∃ z, z = (own_pr v116 v117 hl124 ag124 (own_pb p3 (1 : Int32))).2.2 := ⟨_, rfl⟩
    rw [← hh128] at Fc128
    rw [← ha128] at Fd128
    refine Gl.st (g' := (mkF m 78 #[.val (.int p1), .val (.int p2), .val (.int p3), .val (.int v116), .val (.int v117), .val (.ref a118), .val (.int v126), .val (.int w127), .val (.int v125)] [(.int (own_sv (own_ex p3 (1 : Int32) w127 v116 v117) (own_pr v116 v117 hl124 ag124 (own_pb p3 (1 : Int32))).1 w127))])) st128 ?_
    generalize hv129 : (own_sv (own_ex p3 (1 : Int32) w127 v116 v117) (own_pr v116 v117 hl124 ag124 (own_pb p3 (1 : Int32))).1 w127) = v129
    refine Gl.st (g' := (mkF m 80 #[.val (.int p1), .val (.int p2), .val (.int p3), .val (.int v116), .val (.int v117), .val (.ref a118), .val (.int v126), .val (.int w127), .val (.int v129)] [])) (fun t k => XS.istore X128.here hx rfl (hb hby at_78) rfl (l' := #[.val (.int p1), .val (.int p2), .val (.int p3), .val (.int v116), .val (.int v117), .val (.ref a118), .val (.int v126), .val (.int w127), .val (.int v129)]) rfl k) ?_
    refine Gl.st (g' := (mkF m 82 #[.val (.int p1), .val (.int p2), .val (.int p3), .val (.int v116), .val (.int v117), .val (.ref a118), .val (.int v126), .val (.int w127), .val (.int v129)] [(.int v126)])) (fun t k => XS.iload X128.here hx rfl (hb hby at_80) rfl k) ?_
    refine Gl.st (g' := (mkF m 84 #[.val (.int p1), .val (.int p2), .val (.int p3), .val (.int v116), .val (.int v117), .val (.ref a118), .val (.int v126), .val (.int w127), .val (.int v129)] [(.int v129), (.int v126)])) (fun t k => XS.iload X128.here hx rfl (hb hby at_82) rfl k) ?_
    refine Gl.st (g' := (mkF m 85 #[.val (.int p1), .val (.int p2), .val (.int p3), .val (.int v116), .val (.int v117), .val (.ref a118), .val (.int v126), .val (.int w127), .val (.int v129)] [(.int (v126 &&& v129))])) (fun t k => XS.iand X128.here hx rfl (hb hby at_84) rfl k) ?_
    generalize hv130 : (v126 &&& v129) = v130
    refine Gl.st (g' := (mkF m 87 #[.val (.int p1), .val (.int p2), .val (.int p3), .val (.int v116), .val (.int v117), .val (.ref a118), .val (.int v130), .val (.int w127), .val (.int v129)] [])) (fun t k => XS.istore X128.here hx rfl (hb hby at_85) rfl (l' := #[.val (.int p1), .val (.int p2), .val (.int p3), .val (.int v116), .val (.int v117), .val (.ref a118), .val (.int v130), .val (.int w127), .val (.int v129)]) rfl k) ?_
    refine Gl.st (g' := (mkF m 89 #[.val (.int p1), .val (.int p2), .val (.int p3), .val (.int v116), .val (.int v117), .val (.ref a118), .val (.int v130), .val (.int w127), .val (.int v129)] [(.int v129)])) (fun t k => XS.iload X128.here hx rfl (hb hby at_87) rfl k) ?_
    refine Gl.st (g' := (mkF m 90 #[.val (.int p1), .val (.int p2), .val (.int p3), .val (.int v116), .val (.int v117), .val (.ref a118), .val (.int v130), .val (.int w127), .val (.int v129)] [(.int (2 : Int32)), (.int v129)])) (fun t k => XT.iconstV X128.here hx rfl (2 : Int32) (hb hby at_89) rfl k) ?_
    refine Gl.st (g' := (mkF m 91 #[.val (.int p1), .val (.int p2), .val (.int p3), .val (.int v116), .val (.int v117), .val (.ref a118), .val (.int v130), .val (.int w127), .val (.int v129)] [(.int (v129 &&& (2 : Int32)))])) (fun t k => XS.iand X128.here hx rfl (hb hby at_90) rfl k) ?_
    -- join at 99
    have j131 : ∀ w131 : Int32, w131 = own_b2 v129 → Gl p e below s (Q0 Z p1 p2 p3  h0 n0) 16 128 T128 (mkF m 99 #[.val (.int p1), .val (.int p2), .val (.int p3), .val (.int v116), .val (.int v117), .val (.ref a118), .val (.int v130), .val (.int w127), .val (.int v129)] [(.int w131)]) := by
      intro w131 hj131
      have hS2 := own_step hS1 rfl hv129 hh128 ha128 hj131 hv130
      refine Gl.st (g' := (mkF m 101 #[.val (.int p1), .val (.int p2), .val (.int p3), .val (.int v116), .val (.int v117), .val (.ref a118), .val (.int v130), .val (.int w131), .val (.int v129)] [])) (fun t k => XS.istore X128.here hx rfl (hb hby at_99) rfl (l' := #[.val (.int p1), .val (.int p2), .val (.int p3), .val (.int v116), .val (.int v117), .val (.ref a118), .val (.int v130), .val (.int w131), .val (.int v129)]) rfl k) ?_
      refine Gl.st (g' := (mkF m 103 #[.val (.int p1), .val (.int p2), .val (.int p3), .val (.int v116), .val (.int v117), .val (.ref a118), .val (.int v130), .val (.int w131), .val (.int v129)] [(.ref a118)])) (fun t k => XS.aload X128.here hx rfl (hb hby at_101) rfl rfl k) ?_
      refine Gl.st (g' := (mkF m 104 #[.val (.int p1), .val (.int p2), .val (.int p3), .val (.int v116), .val (.int v117), .val (.ref a118), .val (.int v130), .val (.int w131), .val (.int v129)] [(.int p3), (.ref a118)])) (fun t k => XS.iloadN X128.here hx rfl (hb hby at_103) rfl k) ?_
      refine Gl.st (g' := (mkF m 105 #[.val (.int p1), .val (.int p2), .val (.int p3), .val (.int v116), .val (.int v117), .val (.ref a118), .val (.int v130), .val (.int w131), .val (.int v129)] [(.int (2 : Int32)), (.int p3), (.ref a118)])) (fun t k => XT.iconstV X128.here hx rfl (2 : Int32) (hb hby at_104) rfl k) ?_
      refine Gl.st (g' := (mkF m 107 #[.val (.int p1), .val (.int p2), .val (.int p3), .val (.int v116), .val (.int v117), .val (.ref a118), .val (.int v130), .val (.int w131), .val (.int v129)] [(.int w131), (.int (2 : Int32)), (.int p3), (.ref a118)])) (fun t k => XS.iload X128.here hx rfl (hb hby at_105) rfl k) ?_
      refine Gl.st (g' := (mkF m 108 #[.val (.int p1), .val (.int p2), .val (.int p3), .val (.int v116), .val (.int v117), .val (.ref a118), .val (.int v130), .val (.int w131), .val (.int v129)] [(.int v116), (.int w131), (.int (2 : Int32)), (.int p3), (.ref a118)])) (fun t k => XS.iloadN X128.here hx rfl (hb hby at_107) rfl k) ?_
      refine Gl.st (g' := (mkF m 110 #[.val (.int p1), .val (.int p2), .val (.int p3), .val (.int v116), .val (.int v117), .val (.ref a118), .val (.int v130), .val (.int w131), .val (.int v129)] [(.int v117), (.int v116), (.int w131), (.int (2 : Int32)), (.int p3), (.ref a118)])) (fun t k => XS.iload X128.here hx rfl (hb hby at_108) rfl k) ?_
      obtain ⟨_, _, ⟨T132, L132, k132, n132⟩, -, X132, ⟨Lc132, hQ132, l132, y132, z132⟩, st132⟩ := Jvm.LawKit.callS X128 hx (y := (⟨"com/example/outlier/outlier/health/HealthStateProbedPinLaw", "step", "(Lcom/example/outlier/outlier/health/HealthState;IIZII)I"⟩ : MethodName)) hown (mvT hZ (hw _ (List.mem_of_getElem? (i := 13) rfl))) (mvT hZ (hw _ (List.mem_of_getElem? (i := 14) rfl))) (mvT hZ (hw _ (List.mem_of_getElem? (i := 15) rfl))) (mvT hZ (hw _ (List.mem_of_getElem? (i := 16) rfl))) (by decide) (backOf (W := 0) (rm5 l Z a0 hw a118 p3 (2 : Int32) w131 v116 v117 hl128 ag128 T128.heap n0 Z128 E128 Fa128 Fb128 Fc128 Fd128 ge118) hZ (hw _ (List.mem_of_getElem? (i := 16) rfl)) (hw _ (List.mem_of_getElem? (i := 15) rfl)) (by decide) (by decide)) (g := (mkF m 110 #[.val (.int p1), .val (.int p2), .val (.int p3), .val (.int v116), .val (.int v117), .val (.ref a118), .val (.int v130), .val (.int w131), .val (.int v129)] [(.int v117), (.int v116), (.int w131), (.int (2 : Int32)), (.int p3), (.ref a118)])) rfl (by rw [hml]; rfl) (argsL := [(.ref a118), (.int p3), (.int (2 : Int32)), (.int w131), (.int v116), (.int v117)]) (rest := []) (lenOf pd_4 rfl) rfl (by show 2 * 0 + _ ≤ _; exact Nat.le_of_eq rfl) (hb hby at_110) (fun _ _ => ⟨rfl, e128, (by decide : 0 + 1 + 0 + 0 + 0 + 0 ≤ _), (by decide : 0 + 4 + 0 + 0 + 0 + 0 ≤ _)⟩)
      dsimp only [Pt.U, Pt.locs, Pt.cells, Pt.slots] at X132 l132 y132 z132 st132 hQ132
      subst l132 y132 z132
      obtain ⟨rfl, Nq132, Z132, E132, Fa132, Fb132, Fc132, Fd132⟩ := hQ132
      have N132 := Fr.app N128 Nq132
      have e132 : T132.heap = T132.heap := rfl
      obtain ⟨hl132, hh132⟩ : ∃ z, z = (own_pr v116 v117 hl128 ag128 (own_pb p3 (2 : Int32))).2.1 := ⟨_, rfl⟩
      obtain ⟨ag132, ha132⟩ : ∃ z, z = (own_pr v116 v117 hl128 ag128 (own_pb p3 (2 : Int32))).2.2 := ⟨_, rfl⟩
      rw [← hh132] at Fc132
      rw [← ha132] at Fd132
      refine Gl.st (g' := (mkF m 113 #[.val (.int p1), .val (.int p2), .val (.int p3), .val (.int v116), .val (.int v117), .val (.ref a118), .val (.int v130), .val (.int w131), .val (.int v129)] [(.int (own_sv (own_ex p3 (2 : Int32) w131 v116 v117) (own_pr v116 v117 hl128 ag128 (own_pb p3 (2 : Int32))).1 w131))])) st132 ?_
      generalize hv133 : (own_sv (own_ex p3 (2 : Int32) w131 v116 v117) (own_pr v116 v117 hl128 ag128 (own_pb p3 (2 : Int32))).1 w131) = v133
      refine Gl.st (g' := (mkF m 115 #[.val (.int p1), .val (.int p2), .val (.int p3), .val (.int v116), .val (.int v117), .val (.ref a118), .val (.int v130), .val (.int w131), .val (.int v133)] [])) (fun t k => XS.istore X132.here hx rfl (hb hby at_113) rfl (l' := #[.val (.int p1), .val (.int p2), .val (.int p3), .val (.int v116), .val (.int v117), .val (.ref a118), .val (.int v130), .val (.int w131), .val (.int v133)]) rfl k) ?_
      refine Gl.st (g' := (mkF m 117 #[.val (.int p1), .val (.int p2), .val (.int p3), .val (.int v116), .val (.int v117), .val (.ref a118), .val (.int v130), .val (.int w131), .val (.int v133)] [(.int v130)])) (fun t k => XS.iload X132.here hx rfl (hb hby at_115) rfl k) ?_
      refine Gl.st (g' := (mkF m 119 #[.val (.int p1), .val (.int p2), .val (.int p3), .val (.int v116), .val (.int v117), .val (.ref a118), .val (.int v130), .val (.int w131), .val (.int v133)] [(.int v133), (.int v130)])) (fun t k => XS.iload X132.here hx rfl (hb hby at_117) rfl k) ?_
      refine Gl.st (g' := (mkF m 120 #[.val (.int p1), .val (.int p2), .val (.int p3), .val (.int v116), .val (.int v117), .val (.ref a118), .val (.int v130), .val (.int w131), .val (.int v133)] [(.int (v130 &&& v133))])) (fun t k => XS.iand X132.here hx rfl (hb hby at_119) rfl k) ?_
      generalize hv134 : (v130 &&& v133) = v134
      refine Gl.st (g' := (mkF m 122 #[.val (.int p1), .val (.int p2), .val (.int p3), .val (.int v116), .val (.int v117), .val (.ref a118), .val (.int v134), .val (.int w131), .val (.int v133)] [])) (fun t k => XS.istore X132.here hx rfl (hb hby at_120) rfl (l' := #[.val (.int p1), .val (.int p2), .val (.int p3), .val (.int v116), .val (.int v117), .val (.ref a118), .val (.int v134), .val (.int w131), .val (.int v133)]) rfl k) ?_
      refine Gl.st (g' := (mkF m 124 #[.val (.int p1), .val (.int p2), .val (.int p3), .val (.int v116), .val (.int v117), .val (.ref a118), .val (.int v134), .val (.int w131), .val (.int v133)] [(.int v133)])) (fun t k => XS.iload X132.here hx rfl (hb hby at_122) rfl k) ?_
      refine Gl.st (g' := (mkF m 125 #[.val (.int p1), .val (.int p2), .val (.int p3), .val (.int v116), .val (.int v117), .val (.ref a118), .val (.int v134), .val (.int w131), .val (.int v133)] [(.int (2 : Int32)), (.int v133)])) (fun t k => XT.iconstV X132.here hx rfl (2 : Int32) (hb hby at_124) rfl k) ?_
      refine Gl.st (g' := (mkF m 126 #[.val (.int p1), .val (.int p2), .val (.int p3), .val (.int v116), .val (.int v117), .val (.ref a118), .val (.int v134), .val (.int w131), .val (.int v133)] [(.int (v133 &&& (2 : Int32)))])) (fun t k => XS.iand X132.here hx rfl (hb hby at_125) rfl k) ?_
      -- join at 134
      have j135 : ∀ w135 : Int32, w135 = own_b2 v133 → Gl p e below s (Q0 Z p1 p2 p3  h0 n0) 16 128 T132 (mkF m 134 #[.val (.int p1), .val (.int p2), .val (.int p3), .val (.int v116), .val (.int v117), .val (.ref a118), .val (.int v134), .val (.int w131), .val (.int v133)] [(.int w135)]) := by
        intro w135 hj135
        have hS3 := own_step hS2 rfl hv133 hh132 ha132 hj135 hv134
        refine Gl.st (g' := (mkF m 136 #[.val (.int p1), .val (.int p2), .val (.int p3), .val (.int v116), .val (.int v117), .val (.ref a118), .val (.int v134), .val (.int w135), .val (.int v133)] [])) (fun t k => XS.istore X132.here hx rfl (hb hby at_134) rfl (l' := #[.val (.int p1), .val (.int p2), .val (.int p3), .val (.int v116), .val (.int v117), .val (.ref a118), .val (.int v134), .val (.int w135), .val (.int v133)]) rfl k) ?_
        refine Gl.st (g' := (mkF m 138 #[.val (.int p1), .val (.int p2), .val (.int p3), .val (.int v116), .val (.int v117), .val (.ref a118), .val (.int v134), .val (.int w135), .val (.int v133)] [(.ref a118)])) (fun t k => XS.aload X132.here hx rfl (hb hby at_136) rfl rfl k) ?_
        refine Gl.st (g' := (mkF m 139 #[.val (.int p1), .val (.int p2), .val (.int p3), .val (.int v116), .val (.int v117), .val (.ref a118), .val (.int v134), .val (.int w135), .val (.int v133)] [(.int p3), (.ref a118)])) (fun t k => XS.iloadN X132.here hx rfl (hb hby at_138) rfl k) ?_
        refine Gl.st (g' := (mkF m 140 #[.val (.int p1), .val (.int p2), .val (.int p3), .val (.int v116), .val (.int v117), .val (.ref a118), .val (.int v134), .val (.int w135), .val (.int v133)] [(.int (3 : Int32)), (.int p3), (.ref a118)])) (fun t k => XT.iconstV X132.here hx rfl (3 : Int32) (hb hby at_139) rfl k) ?_
        refine Gl.st (g' := (mkF m 142 #[.val (.int p1), .val (.int p2), .val (.int p3), .val (.int v116), .val (.int v117), .val (.ref a118), .val (.int v134), .val (.int w135), .val (.int v133)] [(.int w135), (.int (3 : Int32)), (.int p3), (.ref a118)])) (fun t k => XS.iload X132.here hx rfl (hb hby at_140) rfl k) ?_
        refine Gl.st (g' := (mkF m 143 #[.val (.int p1), .val (.int p2), .val (.int p3), .val (.int v116), .val (.int v117), .val (.ref a118), .val (.int v134), .val (.int w135), .val (.int v133)] [(.int v116), (.int w135), (.int (3 : Int32)), (.int p3), (.ref a118)])) (fun t k => XS.iloadN X132.here hx rfl (hb hby at_142) rfl k) ?_
        refine Gl.st (g' := (mkF m 145 #[.val (.int p1), .val (.int p2), .val (.int p3), .val (.int v116), .val (.int v117), .val (.ref a118), .val (.int v134), .val (.int w135), .val (.int v133)] [(.int v117), (.int v116), (.int w135), (.int (3 : Int32)), (.int p3), (.ref a118)])) (fun t k => XS.iload X132.here hx rfl (hb hby at_143) rfl k) ?_
        obtain ⟨_, _, ⟨T136, L136, k136, n136⟩, -, X136, ⟨Lc136, hQ136, l136, y136, z136⟩, st136⟩ := Jvm.LawKit.callS X132 hx (y := (⟨"com/example/outlier/outlier/health/HealthStateProbedPinLaw", "step", "(Lcom/example/outlier/outlier/health/HealthState;IIZII)I"⟩ : MethodName)) hown (mvT hZ (hw _ (List.mem_of_getElem? (i := 13) rfl))) (mvT hZ (hw _ (List.mem_of_getElem? (i := 14) rfl))) (mvT hZ (hw _ (List.mem_of_getElem? (i := 15) rfl))) (mvT hZ (hw _ (List.mem_of_getElem? (i := 16) rfl))) (by decide) (backOf (W := 0) (rm5 l Z a0 hw a118 p3 (3 : Int32) w135 v116 v117 hl132 ag132 T132.heap n0 Z132 E132 Fa132 Fb132 Fc132 Fd132 ge118) hZ (hw _ (List.mem_of_getElem? (i := 16) rfl)) (hw _ (List.mem_of_getElem? (i := 15) rfl)) (by decide) (by decide)) (g := (mkF m 145 #[.val (.int p1), .val (.int p2), .val (.int p3), .val (.int v116), .val (.int v117), .val (.ref a118), .val (.int v134), .val (.int w135), .val (.int v133)] [(.int v117), (.int v116), (.int w135), (.int (3 : Int32)), (.int p3), (.ref a118)])) rfl (by rw [hml]; rfl) (argsL := [(.ref a118), (.int p3), (.int (3 : Int32)), (.int w135), (.int v116), (.int v117)]) (rest := []) (lenOf pd_4 rfl) rfl (by show 2 * 0 + _ ≤ _; exact Nat.le_of_eq rfl) (hb hby at_145) (fun _ _ => ⟨rfl, e132, (by decide : 0 + 1 + 0 + 0 + 0 + 0 + 0 ≤ _), (by decide : 0 + 4 + 0 + 0 + 0 + 0 + 0 ≤ _)⟩)
        dsimp only [Pt.U, Pt.locs, Pt.cells, Pt.slots] at X136 l136 y136 z136 st136 hQ136
        subst l136 y136 z136
        obtain ⟨rfl, Nq136, Z136, E136, Fa136, Fb136, Fc136, Fd136⟩ := hQ136
        have N136 := Fr.app N132 Nq136
        have e136 : T136.heap = T136.heap := rfl
        obtain ⟨hl136, hh136⟩ : ∃ z, z = (own_pr v116 v117 hl132 ag132 (own_pb p3 (3 : Int32))).2.1 := ⟨_, rfl⟩
        obtain ⟨ag136, ha136⟩ : ∃ z, z = (own_pr v116 v117 hl132 ag132 (own_pb p3 (3 : Int32))).2.2 := ⟨_, rfl⟩
        rw [← hh136] at Fc136
        rw [← ha136] at Fd136
        refine Gl.st (g' := (mkF m 148 #[.val (.int p1), .val (.int p2), .val (.int p3), .val (.int v116), .val (.int v117), .val (.ref a118), .val (.int v134), .val (.int w135), .val (.int v133)] [(.int (own_sv (own_ex p3 (3 : Int32) w135 v116 v117) (own_pr v116 v117 hl132 ag132 (own_pb p3 (3 : Int32))).1 w135))])) st136 ?_
        generalize hv137 : (own_sv (own_ex p3 (3 : Int32) w135 v116 v117) (own_pr v116 v117 hl132 ag132 (own_pb p3 (3 : Int32))).1 w135) = v137
        refine Gl.st (g' := (mkF m 150 #[.val (.int p1), .val (.int p2), .val (.int p3), .val (.int v116), .val (.int v117), .val (.ref a118), .val (.int v134), .val (.int w135), .val (.int v137)] [])) (fun t k => XS.istore X136.here hx rfl (hb hby at_148) rfl (l' := #[.val (.int p1), .val (.int p2), .val (.int p3), .val (.int v116), .val (.int v117), .val (.ref a118), .val (.int v134), .val (.int w135), .val (.int v137)]) rfl k) ?_
        refine Gl.st (g' := (mkF m 152 #[.val (.int p1), .val (.int p2), .val (.int p3), .val (.int v116), .val (.int v117), .val (.ref a118), .val (.int v134), .val (.int w135), .val (.int v137)] [(.int v134)])) (fun t k => XS.iload X136.here hx rfl (hb hby at_150) rfl k) ?_
        refine Gl.st (g' := (mkF m 154 #[.val (.int p1), .val (.int p2), .val (.int p3), .val (.int v116), .val (.int v117), .val (.ref a118), .val (.int v134), .val (.int w135), .val (.int v137)] [(.int v137), (.int v134)])) (fun t k => XS.iload X136.here hx rfl (hb hby at_152) rfl k) ?_
        refine Gl.st (g' := (mkF m 155 #[.val (.int p1), .val (.int p2), .val (.int p3), .val (.int v116), .val (.int v117), .val (.ref a118), .val (.int v134), .val (.int w135), .val (.int v137)] [(.int (v134 &&& v137))])) (fun t k => XS.iand X136.here hx rfl (hb hby at_154) rfl k) ?_
        generalize hv138 : (v134 &&& v137) = v138
        refine Gl.st (g' := (mkF m 157 #[.val (.int p1), .val (.int p2), .val (.int p3), .val (.int v116), .val (.int v117), .val (.ref a118), .val (.int v138), .val (.int w135), .val (.int v137)] [])) (fun t k => XS.istore X136.here hx rfl (hb hby at_155) rfl (l' := #[.val (.int p1), .val (.int p2), .val (.int p3), .val (.int v116), .val (.int v117), .val (.ref a118), .val (.int v138), .val (.int w135), .val (.int v137)]) rfl k) ?_
        refine Gl.st (g' := (mkF m 159 #[.val (.int p1), .val (.int p2), .val (.int p3), .val (.int v116), .val (.int v117), .val (.ref a118), .val (.int v138), .val (.int w135), .val (.int v137)] [(.int v137)])) (fun t k => XS.iload X136.here hx rfl (hb hby at_157) rfl k) ?_
        refine Gl.st (g' := (mkF m 160 #[.val (.int p1), .val (.int p2), .val (.int p3), .val (.int v116), .val (.int v117), .val (.ref a118), .val (.int v138), .val (.int w135), .val (.int v137)] [(.int (2 : Int32)), (.int v137)])) (fun t k => XT.iconstV X136.here hx rfl (2 : Int32) (hb hby at_159) rfl k) ?_
        refine Gl.st (g' := (mkF m 161 #[.val (.int p1), .val (.int p2), .val (.int p3), .val (.int v116), .val (.int v117), .val (.ref a118), .val (.int v138), .val (.int w135), .val (.int v137)] [(.int (v137 &&& (2 : Int32)))])) (fun t k => XS.iand X136.here hx rfl (hb hby at_160) rfl k) ?_
        -- join at 169
        have j139 : ∀ w139 : Int32, w139 = own_b2 v137 → Gl p e below s (Q0 Z p1 p2 p3  h0 n0) 16 128 T136 (mkF m 169 #[.val (.int p1), .val (.int p2), .val (.int p3), .val (.int v116), .val (.int v117), .val (.ref a118), .val (.int v138), .val (.int w135), .val (.int v137)] [(.int w139)]) := by
          intro w139 hj139
          have hS4 := own_step hS3 rfl hv137 hh136 ha136 hj139 hv138
          refine Gl.st (g' := (mkF m 171 #[.val (.int p1), .val (.int p2), .val (.int p3), .val (.int v116), .val (.int v117), .val (.ref a118), .val (.int v138), .val (.int w139), .val (.int v137)] [])) (fun t k => XS.istore X136.here hx rfl (hb hby at_169) rfl (l' := #[.val (.int p1), .val (.int p2), .val (.int p3), .val (.int v116), .val (.int v117), .val (.ref a118), .val (.int v138), .val (.int w139), .val (.int v137)]) rfl k) ?_
          refine Gl.st (g' := (mkF m 173 #[.val (.int p1), .val (.int p2), .val (.int p3), .val (.int v116), .val (.int v117), .val (.ref a118), .val (.int v138), .val (.int w139), .val (.int v137)] [(.ref a118)])) (fun t k => XS.aload X136.here hx rfl (hb hby at_171) rfl rfl k) ?_
          refine Gl.st (g' := (mkF m 174 #[.val (.int p1), .val (.int p2), .val (.int p3), .val (.int v116), .val (.int v117), .val (.ref a118), .val (.int v138), .val (.int w139), .val (.int v137)] [(.int p3), (.ref a118)])) (fun t k => XS.iloadN X136.here hx rfl (hb hby at_173) rfl k) ?_
          refine Gl.st (g' := (mkF m 175 #[.val (.int p1), .val (.int p2), .val (.int p3), .val (.int v116), .val (.int v117), .val (.ref a118), .val (.int v138), .val (.int w139), .val (.int v137)] [(.int (4 : Int32)), (.int p3), (.ref a118)])) (fun t k => XT.iconstV X136.here hx rfl (4 : Int32) (hb hby at_174) rfl k) ?_
          refine Gl.st (g' := (mkF m 177 #[.val (.int p1), .val (.int p2), .val (.int p3), .val (.int v116), .val (.int v117), .val (.ref a118), .val (.int v138), .val (.int w139), .val (.int v137)] [(.int w139), (.int (4 : Int32)), (.int p3), (.ref a118)])) (fun t k => XS.iload X136.here hx rfl (hb hby at_175) rfl k) ?_
          refine Gl.st (g' := (mkF m 178 #[.val (.int p1), .val (.int p2), .val (.int p3), .val (.int v116), .val (.int v117), .val (.ref a118), .val (.int v138), .val (.int w139), .val (.int v137)] [(.int v116), (.int w139), (.int (4 : Int32)), (.int p3), (.ref a118)])) (fun t k => XS.iloadN X136.here hx rfl (hb hby at_177) rfl k) ?_
          refine Gl.st (g' := (mkF m 180 #[.val (.int p1), .val (.int p2), .val (.int p3), .val (.int v116), .val (.int v117), .val (.ref a118), .val (.int v138), .val (.int w139), .val (.int v137)] [(.int v117), (.int v116), (.int w139), (.int (4 : Int32)), (.int p3), (.ref a118)])) (fun t k => XS.iload X136.here hx rfl (hb hby at_178) rfl k) ?_
          obtain ⟨_, _, ⟨T140, L140, k140, n140⟩, -, X140, ⟨Lc140, hQ140, l140, y140, z140⟩, st140⟩ := Jvm.LawKit.callS X136 hx (y := (⟨"com/example/outlier/outlier/health/HealthStateProbedPinLaw", "step", "(Lcom/example/outlier/outlier/health/HealthState;IIZII)I"⟩ : MethodName)) hown (mvT hZ (hw _ (List.mem_of_getElem? (i := 13) rfl))) (mvT hZ (hw _ (List.mem_of_getElem? (i := 14) rfl))) (mvT hZ (hw _ (List.mem_of_getElem? (i := 15) rfl))) (mvT hZ (hw _ (List.mem_of_getElem? (i := 16) rfl))) (by decide) (backOf (W := 0) (rm5 l Z a0 hw a118 p3 (4 : Int32) w139 v116 v117 hl136 ag136 T136.heap n0 Z136 E136 Fa136 Fb136 Fc136 Fd136 ge118) hZ (hw _ (List.mem_of_getElem? (i := 16) rfl)) (hw _ (List.mem_of_getElem? (i := 15) rfl)) (by decide) (by decide)) (g := (mkF m 180 #[.val (.int p1), .val (.int p2), .val (.int p3), .val (.int v116), .val (.int v117), .val (.ref a118), .val (.int v138), .val (.int w139), .val (.int v137)] [(.int v117), (.int v116), (.int w139), (.int (4 : Int32)), (.int p3), (.ref a118)])) rfl (by rw [hml]; rfl) (argsL := [(.ref a118), (.int p3), (.int (4 : Int32)), (.int w139), (.int v116), (.int v117)]) (rest := []) (lenOf pd_4 rfl) rfl (by show 2 * 0 + _ ≤ _; exact Nat.le_of_eq rfl) (hb hby at_180) (fun _ _ => ⟨rfl, e136, (by decide : 0 + 1 + 0 + 0 + 0 + 0 + 0 + 0 ≤ _), (by decide : 0 + 4 + 0 + 0 + 0 + 0 + 0 + 0 ≤ _)⟩)
          dsimp only [Pt.U, Pt.locs, Pt.cells, Pt.slots] at X140 l140 y140 z140 st140 hQ140
          subst l140 y140 z140
          obtain ⟨rfl, Nq140, Z140, E140, Fa140, Fb140, Fc140, Fd140⟩ := hQ140
          have N140 := Fr.app N136 Nq140
          have e140 : T140.heap = T140.heap := rfl
          obtain ⟨hl140, hh140⟩ : ∃ z, z = (own_pr v116 v117 hl136 ag136 (own_pb p3 (4 : Int32))).2.1 := ⟨_, rfl⟩
          obtain ⟨ag140, ha140⟩ : ∃ z, z = (own_pr v116 v117 hl136 ag136 (own_pb p3 (4 : Int32))).2.2 := ⟨_, rfl⟩
          rw [← hh140] at Fc140
          rw [← ha140] at Fd140
          refine Gl.st (g' := (mkF m 183 #[.val (.int p1), .val (.int p2), .val (.int p3), .val (.int v116), .val (.int v117), .val (.ref a118), .val (.int v138), .val (.int w139), .val (.int v137)] [(.int (own_sv (own_ex p3 (4 : Int32) w139 v116 v117) (own_pr v116 v117 hl136 ag136 (own_pb p3 (4 : Int32))).1 w139))])) st140 ?_
          generalize hv141 : (own_sv (own_ex p3 (4 : Int32) w139 v116 v117) (own_pr v116 v117 hl136 ag136 (own_pb p3 (4 : Int32))).1 w139) = v141
          refine Gl.st (g' := (mkF m 185 #[.val (.int p1), .val (.int p2), .val (.int p3), .val (.int v116), .val (.int v117), .val (.ref a118), .val (.int v138), .val (.int w139), .val (.int v141)] [])) (fun t k => XS.istore X140.here hx rfl (hb hby at_183) rfl (l' := #[.val (.int p1), .val (.int p2), .val (.int p3), .val (.int v116), .val (.int v117), .val (.ref a118), .val (.int v138), .val (.int w139), .val (.int v141)]) rfl k) ?_
          refine Gl.st (g' := (mkF m 187 #[.val (.int p1), .val (.int p2), .val (.int p3), .val (.int v116), .val (.int v117), .val (.ref a118), .val (.int v138), .val (.int w139), .val (.int v141)] [(.int v138)])) (fun t k => XS.iload X140.here hx rfl (hb hby at_185) rfl k) ?_
          refine Gl.st (g' := (mkF m 189 #[.val (.int p1), .val (.int p2), .val (.int p3), .val (.int v116), .val (.int v117), .val (.ref a118), .val (.int v138), .val (.int w139), .val (.int v141)] [(.int v141), (.int v138)])) (fun t k => XS.iload X140.here hx rfl (hb hby at_187) rfl k) ?_
          refine Gl.st (g' := (mkF m 190 #[.val (.int p1), .val (.int p2), .val (.int p3), .val (.int v116), .val (.int v117), .val (.ref a118), .val (.int v138), .val (.int w139), .val (.int v141)] [(.int (v138 &&& v141))])) (fun t k => XS.iand X140.here hx rfl (hb hby at_189) rfl k) ?_
          generalize hv142 : (v138 &&& v141) = v142
          refine Gl.st (g' := (mkF m 192 #[.val (.int p1), .val (.int p2), .val (.int p3), .val (.int v116), .val (.int v117), .val (.ref a118), .val (.int v142), .val (.int w139), .val (.int v141)] [])) (fun t k => XS.istore X140.here hx rfl (hb hby at_190) rfl (l' := #[.val (.int p1), .val (.int p2), .val (.int p3), .val (.int v116), .val (.int v117), .val (.ref a118), .val (.int v142), .val (.int w139), .val (.int v141)]) rfl k) ?_
          refine Gl.st (g' := (mkF m 194 #[.val (.int p1), .val (.int p2), .val (.int p3), .val (.int v116), .val (.int v117), .val (.ref a118), .val (.int v142), .val (.int w139), .val (.int v141)] [(.int v141)])) (fun t k => XS.iload X140.here hx rfl (hb hby at_192) rfl k) ?_
          refine Gl.st (g' := (mkF m 195 #[.val (.int p1), .val (.int p2), .val (.int p3), .val (.int v116), .val (.int v117), .val (.ref a118), .val (.int v142), .val (.int w139), .val (.int v141)] [(.int (2 : Int32)), (.int v141)])) (fun t k => XT.iconstV X140.here hx rfl (2 : Int32) (hb hby at_194) rfl k) ?_
          refine Gl.st (g' := (mkF m 196 #[.val (.int p1), .val (.int p2), .val (.int p3), .val (.int v116), .val (.int v117), .val (.ref a118), .val (.int v142), .val (.int w139), .val (.int v141)] [(.int (v141 &&& (2 : Int32)))])) (fun t k => XS.iand X140.here hx rfl (hb hby at_195) rfl k) ?_
          -- join at 204
          have j143 : ∀ w143 : Int32, w143 = own_b2 v141 → Gl p e below s (Q0 Z p1 p2 p3  h0 n0) 16 128 T140 (mkF m 204 #[.val (.int p1), .val (.int p2), .val (.int p3), .val (.int v116), .val (.int v117), .val (.ref a118), .val (.int v142), .val (.int w139), .val (.int v141)] [(.int w143)]) := by
            intro w143 hj143
            have hS5 := own_step hS4 rfl hv141 hh140 ha140 hj143 hv142
            refine Gl.st (g' := (mkF m 206 #[.val (.int p1), .val (.int p2), .val (.int p3), .val (.int v116), .val (.int v117), .val (.ref a118), .val (.int v142), .val (.int w143), .val (.int v141)] [])) (fun t k => XS.istore X140.here hx rfl (hb hby at_204) rfl (l' := #[.val (.int p1), .val (.int p2), .val (.int p3), .val (.int v116), .val (.int v117), .val (.ref a118), .val (.int v142), .val (.int w143), .val (.int v141)]) rfl k) ?_
            refine Gl.st (g' := (mkF m 208 #[.val (.int p1), .val (.int p2), .val (.int p3), .val (.int v116), .val (.int v117), .val (.ref a118), .val (.int v142), .val (.int w143), .val (.int v141)] [(.ref a118)])) (fun t k => XS.aload X140.here hx rfl (hb hby at_206) rfl rfl k) ?_
            refine Gl.st (g' := (mkF m 209 #[.val (.int p1), .val (.int p2), .val (.int p3), .val (.int v116), .val (.int v117), .val (.ref a118), .val (.int v142), .val (.int w143), .val (.int v141)] [(.int p3), (.ref a118)])) (fun t k => XS.iloadN X140.here hx rfl (hb hby at_208) rfl k) ?_
            refine Gl.st (g' := (mkF m 210 #[.val (.int p1), .val (.int p2), .val (.int p3), .val (.int v116), .val (.int v117), .val (.ref a118), .val (.int v142), .val (.int w143), .val (.int v141)] [(.int (5 : Int32)), (.int p3), (.ref a118)])) (fun t k => XT.iconstV X140.here hx rfl (5 : Int32) (hb hby at_209) rfl k) ?_
            refine Gl.st (g' := (mkF m 212 #[.val (.int p1), .val (.int p2), .val (.int p3), .val (.int v116), .val (.int v117), .val (.ref a118), .val (.int v142), .val (.int w143), .val (.int v141)] [(.int w143), (.int (5 : Int32)), (.int p3), (.ref a118)])) (fun t k => XS.iload X140.here hx rfl (hb hby at_210) rfl k) ?_
            refine Gl.st (g' := (mkF m 213 #[.val (.int p1), .val (.int p2), .val (.int p3), .val (.int v116), .val (.int v117), .val (.ref a118), .val (.int v142), .val (.int w143), .val (.int v141)] [(.int v116), (.int w143), (.int (5 : Int32)), (.int p3), (.ref a118)])) (fun t k => XS.iloadN X140.here hx rfl (hb hby at_212) rfl k) ?_
            refine Gl.st (g' := (mkF m 215 #[.val (.int p1), .val (.int p2), .val (.int p3), .val (.int v116), .val (.int v117), .val (.ref a118), .val (.int v142), .val (.int w143), .val (.int v141)] [(.int v117), (.int v116), (.int w143), (.int (5 : Int32)), (.int p3), (.ref a118)])) (fun t k => XS.iload X140.here hx rfl (hb hby at_213) rfl k) ?_
            obtain ⟨_, _, ⟨T144, L144, k144, n144⟩, -, X144, ⟨Lc144, hQ144, l144, y144, z144⟩, st144⟩ := Jvm.LawKit.callS X140 hx (y := (⟨"com/example/outlier/outlier/health/HealthStateProbedPinLaw", "step", "(Lcom/example/outlier/outlier/health/HealthState;IIZII)I"⟩ : MethodName)) hown (mvT hZ (hw _ (List.mem_of_getElem? (i := 13) rfl))) (mvT hZ (hw _ (List.mem_of_getElem? (i := 14) rfl))) (mvT hZ (hw _ (List.mem_of_getElem? (i := 15) rfl))) (mvT hZ (hw _ (List.mem_of_getElem? (i := 16) rfl))) (by decide) (backOf (W := 0) (rm5 l Z a0 hw a118 p3 (5 : Int32) w143 v116 v117 hl140 ag140 T140.heap n0 Z140 E140 Fa140 Fb140 Fc140 Fd140 ge118) hZ (hw _ (List.mem_of_getElem? (i := 16) rfl)) (hw _ (List.mem_of_getElem? (i := 15) rfl)) (by decide) (by decide)) (g := (mkF m 215 #[.val (.int p1), .val (.int p2), .val (.int p3), .val (.int v116), .val (.int v117), .val (.ref a118), .val (.int v142), .val (.int w143), .val (.int v141)] [(.int v117), (.int v116), (.int w143), (.int (5 : Int32)), (.int p3), (.ref a118)])) rfl (by rw [hml]; rfl) (argsL := [(.ref a118), (.int p3), (.int (5 : Int32)), (.int w143), (.int v116), (.int v117)]) (rest := []) (lenOf pd_4 rfl) rfl (by show 2 * 0 + _ ≤ _; exact Nat.le_of_eq rfl) (hb hby at_215) (fun _ _ => ⟨rfl, e140, (by decide : 0 + 1 + 0 + 0 + 0 + 0 + 0 + 0 + 0 ≤ _), (by decide : 0 + 4 + 0 + 0 + 0 + 0 + 0 + 0 + 0 ≤ _)⟩)
            dsimp only [Pt.U, Pt.locs, Pt.cells, Pt.slots] at X144 l144 y144 z144 st144 hQ144
            subst l144 y144 z144
            obtain ⟨rfl, Nq144, Z144, E144, Fa144, Fb144, Fc144, Fd144⟩ := hQ144
            have N144 := Fr.app N140 Nq144
            have e144 : T144.heap = T144.heap := rfl
            obtain ⟨hl144, hh144⟩ : ∃ z, z = (own_pr v116 v117 hl140 ag140 (own_pb p3 (5 : Int32))).2.1 := ⟨_, rfl⟩
            obtain ⟨ag144, ha144⟩ : ∃ z, z = (own_pr v116 v117 hl140 ag140 (own_pb p3 (5 : Int32))).2.2 := ⟨_, rfl⟩
            rw [← hh144] at Fc144
            rw [← ha144] at Fd144
            refine Gl.st (g' := (mkF m 218 #[.val (.int p1), .val (.int p2), .val (.int p3), .val (.int v116), .val (.int v117), .val (.ref a118), .val (.int v142), .val (.int w143), .val (.int v141)] [(.int (own_sv (own_ex p3 (5 : Int32) w143 v116 v117) (own_pr v116 v117 hl140 ag140 (own_pb p3 (5 : Int32))).1 w143))])) st144 ?_
            generalize hv145 : (own_sv (own_ex p3 (5 : Int32) w143 v116 v117) (own_pr v116 v117 hl140 ag140 (own_pb p3 (5 : Int32))).1 w143) = v145
            refine Gl.st (g' := (mkF m 220 #[.val (.int p1), .val (.int p2), .val (.int p3), .val (.int v116), .val (.int v117), .val (.ref a118), .val (.int v142), .val (.int w143), .val (.int v145)] [])) (fun t k => XS.istore X144.here hx rfl (hb hby at_218) rfl (l' := #[.val (.int p1), .val (.int p2), .val (.int p3), .val (.int v116), .val (.int v117), .val (.ref a118), .val (.int v142), .val (.int w143), .val (.int v145)]) rfl k) ?_
            refine Gl.st (g' := (mkF m 222 #[.val (.int p1), .val (.int p2), .val (.int p3), .val (.int v116), .val (.int v117), .val (.ref a118), .val (.int v142), .val (.int w143), .val (.int v145)] [(.int v142)])) (fun t k => XS.iload X144.here hx rfl (hb hby at_220) rfl k) ?_
            refine Gl.st (g' := (mkF m 224 #[.val (.int p1), .val (.int p2), .val (.int p3), .val (.int v116), .val (.int v117), .val (.ref a118), .val (.int v142), .val (.int w143), .val (.int v145)] [(.int v145), (.int v142)])) (fun t k => XS.iload X144.here hx rfl (hb hby at_222) rfl k) ?_
            refine Gl.st (g' := (mkF m 225 #[.val (.int p1), .val (.int p2), .val (.int p3), .val (.int v116), .val (.int v117), .val (.ref a118), .val (.int v142), .val (.int w143), .val (.int v145)] [(.int (v142 &&& v145))])) (fun t k => XS.iand X144.here hx rfl (hb hby at_224) rfl k) ?_
            generalize hv146 : (v142 &&& v145) = v146
            refine Gl.st (g' := (mkF m 227 #[.val (.int p1), .val (.int p2), .val (.int p3), .val (.int v116), .val (.int v117), .val (.ref a118), .val (.int v146), .val (.int w143), .val (.int v145)] [])) (fun t k => XS.istore X144.here hx rfl (hb hby at_225) rfl (l' := #[.val (.int p1), .val (.int p2), .val (.int p3), .val (.int v116), .val (.int v117), .val (.ref a118), .val (.int v146), .val (.int w143), .val (.int v145)]) rfl k) ?_
            refine Gl.st (g' := (mkF m 229 #[.val (.int p1), .val (.int p2), .val (.int p3), .val (.int v116), .val (.int v117), .val (.ref a118), .val (.int v146), .val (.int w143), .val (.int v145)] [(.int v145)])) (fun t k => XS.iload X144.here hx rfl (hb hby at_227) rfl k) ?_
            refine Gl.st (g' := (mkF m 230 #[.val (.int p1), .val (.int p2), .val (.int p3), .val (.int v116), .val (.int v117), .val (.ref a118), .val (.int v146), .val (.int w143), .val (.int v145)] [(.int (2 : Int32)), (.int v145)])) (fun t k => XT.iconstV X144.here hx rfl (2 : Int32) (hb hby at_229) rfl k) ?_
            refine Gl.st (g' := (mkF m 231 #[.val (.int p1), .val (.int p2), .val (.int p3), .val (.int v116), .val (.int v117), .val (.ref a118), .val (.int v146), .val (.int w143), .val (.int v145)] [(.int (v145 &&& (2 : Int32)))])) (fun t k => XS.iand X144.here hx rfl (hb hby at_230) rfl k) ?_
            -- join at 239
            have j147 : ∀ w147 : Int32, w147 = own_b2 v145 → Gl p e below s (Q0 Z p1 p2 p3  h0 n0) 16 128 T144 (mkF m 239 #[.val (.int p1), .val (.int p2), .val (.int p3), .val (.int v116), .val (.int v117), .val (.ref a118), .val (.int v146), .val (.int w143), .val (.int v145)] [(.int w147)]) := by
              intro w147 hj147
              have hS6 := own_step hS5 rfl hv145 hh144 ha144 hj147 hv146
              refine Gl.st (g' := (mkF m 241 #[.val (.int p1), .val (.int p2), .val (.int p3), .val (.int v116), .val (.int v117), .val (.ref a118), .val (.int v146), .val (.int w147), .val (.int v145)] [])) (fun t k => XS.istore X144.here hx rfl (hb hby at_239) rfl (l' := #[.val (.int p1), .val (.int p2), .val (.int p3), .val (.int v116), .val (.int v117), .val (.ref a118), .val (.int v146), .val (.int w147), .val (.int v145)]) rfl k) ?_
              refine Gl.st (g' := (mkF m 243 #[.val (.int p1), .val (.int p2), .val (.int p3), .val (.int v116), .val (.int v117), .val (.ref a118), .val (.int v146), .val (.int w147), .val (.int v145)] [(.ref a118)])) (fun t k => XS.aload X144.here hx rfl (hb hby at_241) rfl rfl k) ?_
              refine Gl.st (g' := (mkF m 244 #[.val (.int p1), .val (.int p2), .val (.int p3), .val (.int v116), .val (.int v117), .val (.ref a118), .val (.int v146), .val (.int w147), .val (.int v145)] [(.int p3), (.ref a118)])) (fun t k => XS.iloadN X144.here hx rfl (hb hby at_243) rfl k) ?_
              refine Gl.st (g' := (mkF m 246 #[.val (.int p1), .val (.int p2), .val (.int p3), .val (.int v116), .val (.int v117), .val (.ref a118), .val (.int v146), .val (.int w147), .val (.int v145)] [(.int (6 : Int32)), (.int p3), (.ref a118)])) (fun t k => XT.bipushV X144.here hx rfl (6 : Int32) (hb hby at_244) rfl k) ?_
              refine Gl.st (g' := (mkF m 248 #[.val (.int p1), .val (.int p2), .val (.int p3), .val (.int v116), .val (.int v117), .val (.ref a118), .val (.int v146), .val (.int w147), .val (.int v145)] [(.int w147), (.int (6 : Int32)), (.int p3), (.ref a118)])) (fun t k => XS.iload X144.here hx rfl (hb hby at_246) rfl k) ?_
              refine Gl.st (g' := (mkF m 249 #[.val (.int p1), .val (.int p2), .val (.int p3), .val (.int v116), .val (.int v117), .val (.ref a118), .val (.int v146), .val (.int w147), .val (.int v145)] [(.int v116), (.int w147), (.int (6 : Int32)), (.int p3), (.ref a118)])) (fun t k => XS.iloadN X144.here hx rfl (hb hby at_248) rfl k) ?_
              refine Gl.st (g' := (mkF m 251 #[.val (.int p1), .val (.int p2), .val (.int p3), .val (.int v116), .val (.int v117), .val (.ref a118), .val (.int v146), .val (.int w147), .val (.int v145)] [(.int v117), (.int v116), (.int w147), (.int (6 : Int32)), (.int p3), (.ref a118)])) (fun t k => XS.iload X144.here hx rfl (hb hby at_249) rfl k) ?_
              obtain ⟨_, _, ⟨T148, L148, k148, n148⟩, -, X148, ⟨Lc148, hQ148, l148, y148, z148⟩, st148⟩ := Jvm.LawKit.callS X144 hx (y := (⟨"com/example/outlier/outlier/health/HealthStateProbedPinLaw", "step", "(Lcom/example/outlier/outlier/health/HealthState;IIZII)I"⟩ : MethodName)) hown (mvT hZ (hw _ (List.mem_of_getElem? (i := 13) rfl))) (mvT hZ (hw _ (List.mem_of_getElem? (i := 14) rfl))) (mvT hZ (hw _ (List.mem_of_getElem? (i := 15) rfl))) (mvT hZ (hw _ (List.mem_of_getElem? (i := 16) rfl))) (by decide) (backOf (W := 0) (rm5 l Z a0 hw a118 p3 (6 : Int32) w147 v116 v117 hl144 ag144 T144.heap n0 Z144 E144 Fa144 Fb144 Fc144 Fd144 ge118) hZ (hw _ (List.mem_of_getElem? (i := 16) rfl)) (hw _ (List.mem_of_getElem? (i := 15) rfl)) (by decide) (by decide)) (g := (mkF m 251 #[.val (.int p1), .val (.int p2), .val (.int p3), .val (.int v116), .val (.int v117), .val (.ref a118), .val (.int v146), .val (.int w147), .val (.int v145)] [(.int v117), (.int v116), (.int w147), (.int (6 : Int32)), (.int p3), (.ref a118)])) rfl (by rw [hml]; rfl) (argsL := [(.ref a118), (.int p3), (.int (6 : Int32)), (.int w147), (.int v116), (.int v117)]) (rest := []) (lenOf pd_4 rfl) rfl (by show 2 * 0 + _ ≤ _; exact Nat.le_of_eq rfl) (hb hby at_251) (fun _ _ => ⟨rfl, e144, (by decide : 0 + 1 + 0 + 0 + 0 + 0 + 0 + 0 + 0 + 0 ≤ _), (by decide : 0 + 4 + 0 + 0 + 0 + 0 + 0 + 0 + 0 + 0 ≤ _)⟩)
              dsimp only [Pt.U, Pt.locs, Pt.cells, Pt.slots] at X148 l148 y148 z148 st148 hQ148
              subst l148 y148 z148
              obtain ⟨rfl, Nq148, Z148, E148, Fa148, Fb148, Fc148, Fd148⟩ := hQ148
              have N148 := Fr.app N144 Nq148
              have e148 : T148.heap = T148.heap := rfl
              obtain ⟨hl148, hh148⟩ : ∃ z, z = (own_pr v116 v117 hl144 ag144 (own_pb p3 (6 : Int32))).2.1 := ⟨_, rfl⟩
              obtain ⟨ag148, ha148⟩ : ∃ z, z = (own_pr v116 v117 hl144 ag144 (own_pb p3 (6 : Int32))).2.2 := ⟨_, rfl⟩
              rw [← hh148] at Fc148
              rw [← ha148] at Fd148
              refine Gl.st (g' := (mkF m 254 #[.val (.int p1), .val (.int p2), .val (.int p3), .val (.int v116), .val (.int v117), .val (.ref a118), .val (.int v146), .val (.int w147), .val (.int v145)] [(.int (own_sv (own_ex p3 (6 : Int32) w147 v116 v117) (own_pr v116 v117 hl144 ag144 (own_pb p3 (6 : Int32))).1 w147))])) st148 ?_
              generalize hv149 : (own_sv (own_ex p3 (6 : Int32) w147 v116 v117) (own_pr v116 v117 hl144 ag144 (own_pb p3 (6 : Int32))).1 w147) = v149
              refine Gl.st (g' := (mkF m 256 #[.val (.int p1), .val (.int p2), .val (.int p3), .val (.int v116), .val (.int v117), .val (.ref a118), .val (.int v146), .val (.int w147), .val (.int v149)] [])) (fun t k => XS.istore X148.here hx rfl (hb hby at_254) rfl (l' := #[.val (.int p1), .val (.int p2), .val (.int p3), .val (.int v116), .val (.int v117), .val (.ref a118), .val (.int v146), .val (.int w147), .val (.int v149)]) rfl k) ?_
              refine Gl.st (g' := (mkF m 258 #[.val (.int p1), .val (.int p2), .val (.int p3), .val (.int v116), .val (.int v117), .val (.ref a118), .val (.int v146), .val (.int w147), .val (.int v149)] [(.int v146)])) (fun t k => XS.iload X148.here hx rfl (hb hby at_256) rfl k) ?_
              refine Gl.st (g' := (mkF m 260 #[.val (.int p1), .val (.int p2), .val (.int p3), .val (.int v116), .val (.int v117), .val (.ref a118), .val (.int v146), .val (.int w147), .val (.int v149)] [(.int v149), (.int v146)])) (fun t k => XS.iload X148.here hx rfl (hb hby at_258) rfl k) ?_
              refine Gl.st (g' := (mkF m 261 #[.val (.int p1), .val (.int p2), .val (.int p3), .val (.int v116), .val (.int v117), .val (.ref a118), .val (.int v146), .val (.int w147), .val (.int v149)] [(.int (v146 &&& v149))])) (fun t k => XS.iand X148.here hx rfl (hb hby at_260) rfl k) ?_
              generalize hv150 : (v146 &&& v149) = v150
              refine Gl.st (g' := (mkF m 263 #[.val (.int p1), .val (.int p2), .val (.int p3), .val (.int v116), .val (.int v117), .val (.ref a118), .val (.int v150), .val (.int w147), .val (.int v149)] [])) (fun t k => XS.istore X148.here hx rfl (hb hby at_261) rfl (l' := #[.val (.int p1), .val (.int p2), .val (.int p3), .val (.int v116), .val (.int v117), .val (.ref a118), .val (.int v150), .val (.int w147), .val (.int v149)]) rfl k) ?_
              refine Gl.st (g' := (mkF m 265 #[.val (.int p1), .val (.int p2), .val (.int p3), .val (.int v116), .val (.int v117), .val (.ref a118), .val (.int v150), .val (.int w147), .val (.int v149)] [(.int v149)])) (fun t k => XS.iload X148.here hx rfl (hb hby at_263) rfl k) ?_
              refine Gl.st (g' := (mkF m 266 #[.val (.int p1), .val (.int p2), .val (.int p3), .val (.int v116), .val (.int v117), .val (.ref a118), .val (.int v150), .val (.int w147), .val (.int v149)] [(.int (2 : Int32)), (.int v149)])) (fun t k => XT.iconstV X148.here hx rfl (2 : Int32) (hb hby at_265) rfl k) ?_
              refine Gl.st (g' := (mkF m 267 #[.val (.int p1), .val (.int p2), .val (.int p3), .val (.int v116), .val (.int v117), .val (.ref a118), .val (.int v150), .val (.int w147), .val (.int v149)] [(.int (v149 &&& (2 : Int32)))])) (fun t k => XS.iand X148.here hx rfl (hb hby at_266) rfl k) ?_
              -- join at 275
              have j151 : ∀ w151 : Int32, w151 = own_b2 v149 → Gl p e below s (Q0 Z p1 p2 p3  h0 n0) 16 128 T148 (mkF m 275 #[.val (.int p1), .val (.int p2), .val (.int p3), .val (.int v116), .val (.int v117), .val (.ref a118), .val (.int v150), .val (.int w147), .val (.int v149)] [(.int w151)]) := by
                intro w151 hj151
                have hS7 := own_step hS6 rfl hv149 hh148 ha148 hj151 hv150
                refine Gl.st (g' := (mkF m 277 #[.val (.int p1), .val (.int p2), .val (.int p3), .val (.int v116), .val (.int v117), .val (.ref a118), .val (.int v150), .val (.int w151), .val (.int v149)] [])) (fun t k => XS.istore X148.here hx rfl (hb hby at_275) rfl (l' := #[.val (.int p1), .val (.int p2), .val (.int p3), .val (.int v116), .val (.int v117), .val (.ref a118), .val (.int v150), .val (.int w151), .val (.int v149)]) rfl k) ?_
                refine Gl.st (g' := (mkF m 279 #[.val (.int p1), .val (.int p2), .val (.int p3), .val (.int v116), .val (.int v117), .val (.ref a118), .val (.int v150), .val (.int w151), .val (.int v149)] [(.int v150)])) (fun t k => XS.iload X148.here hx rfl (hb hby at_277) rfl k) ?_
                refine Gl.st (g' := (mkF m 280 #[.val (.int p1), .val (.int p2), .val (.int p3), .val (.int v116), .val (.int v117), .val (.ref a118), .val (.int v150), .val (.int w151), .val (.int v149)] [(.int (1 : Int32)), (.int v150)])) (fun t k => XT.iconstV X148.here hx rfl (1 : Int32) (hb hby at_279) rfl k) ?_
                refine Gl.st (g' := (mkF m 281 #[.val (.int p1), .val (.int p2), .val (.int p3), .val (.int v116), .val (.int v117), .val (.ref a118), .val (.int v150), .val (.int w151), .val (.int v149)] [(.int (v150 &&& (1 : Int32)))])) (fun t k => XS.iand X148.here hx rfl (hb hby at_280) rfl k) ?_
                have hO := own_all hv116 hv117 hS7
                refine Gl.st (g' := (mkF m 284 #[.val (.int p1), .val (.int p2), .val (.int p3), .val (.int v116), .val (.int v117), .val (.ref a118), .val (.int v150), .val (.int w151), .val (.int v149)] [])) (fun t k => XS.ifNo X148.here hx rfl (hb hby at_281) rfl (XT.i0_eq_f hO.1) k) ?_
                refine Gl.st (g' := (mkF m 286 #[.val (.int p1), .val (.int p2), .val (.int p3), .val (.int v116), .val (.int v117), .val (.ref a118), .val (.int v150), .val (.int w151), .val (.int v149)] [(.ref a118)])) (fun t k => XS.aload X148.here hx rfl (hb hby at_284) rfl rfl k) ?_
                obtain ⟨cq152, kq152, qa152, qb152, qc152⟩ := isOf hZ e148 E148
                obtain ⟨_, _, ⟨T152, L152, k152, n152⟩, -, X152, ⟨Lc152, hQ152, l152, y152, z152⟩, st152⟩ := X148.virtualBack hx (y := (⟨"com/example/outlier/outlier/health/HealthState", "healthy", "()Z"⟩ : MethodName)) (z := (⟨"com/example/outlier/outlier/health/HealthState", "healthy", "()Z"⟩ : MethodName)) hown (mvT hZ (hw _ (List.mem_of_getElem? (i := 29) rfl))) (mvT hZ (hw _ (List.mem_of_getElem? (i := 30) rfl))) (notFace_of_selects (args := #[]) (mvT hZ (hw _ (List.mem_of_getElem? (i := 32) rfl)))) (mvT hZ (hw _ (List.mem_of_getElem? (i := 32) rfl))) (mvT hZ (hw _ (List.mem_of_getElem? (i := 31) rfl))) (by decide) (backOf (W := 0) (rm3 l Z a0 hw a118 hl148 T148.heap n0 Z148 Fc148 hO.2.2) hZ (hw _ (List.mem_of_getElem? (i := 33) rfl)) (hw _ (List.mem_of_getElem? (i := 2) rfl)) (by decide) (by decide)) qa152 qc152 (g := (mkF m 286 #[.val (.int p1), .val (.int p2), .val (.int p3), .val (.int v116), .val (.int v117), .val (.ref a118), .val (.int v150), .val (.int w151), .val (.int v149)] [(.ref a118)])) rfl (by rw [hml]; rfl) (Steps.refl _) (argsL := []) (rest := []) (lenOf pd_2 rfl) rfl (by show 2 * 0 + _ ≤ _; exact Nat.le_of_eq rfl) (hb hby at_286) (fun _ _ => ⟨rfl, e148, (by decide : 0 + 1 + 0 + 0 + 0 + 0 + 0 + 0 + 0 + 0 + 0 ≤ _), (by decide : 0 + 4 + 0 + 0 + 0 + 0 + 0 + 0 + 0 + 0 + 0 ≤ _)⟩)
                dsimp only [Pt.U, Pt.locs, Pt.cells, Pt.slots] at X152 l152 y152 z152 st152 hQ152
                subst l152 y152 z152
                obtain ⟨rfl, Nq152, e152⟩ := hQ152
                have N152 := Fr.app N148 Nq152
                refine Gl.st (g' := (mkF m 289 #[.val (.int p1), .val (.int p2), .val (.int p3), .val (.int v116), .val (.int v117), .val (.ref a118), .val (.int v150), .val (.int w151), .val (.int v149)] [(.int hl148)])) (fun t k => st152.trans k) ?_
                refine Gl.st (g' := (mkF m 291 #[.val (.int p1), .val (.int p2), .val (.int p3), .val (.int v116), .val (.int v117), .val (.ref a118), .val (.int v150), .val (.int w151), .val (.int v149)] [(.int w151), (.int hl148)])) (fun t k => XS.iload X152.here hx rfl (hb hby at_289) rfl k) ?_
                refine Gl.st (g' := (mkF m 294 #[.val (.int p1), .val (.int p2), .val (.int p3), .val (.int v116), .val (.int v117), .val (.ref a118), .val (.int v150), .val (.int w151), .val (.int v149)] [])) (fun t k => XS.icmpNo X152.here hx rfl (hb hby at_291) rfl (XT.ii_ne_f hO.2.1) k) ?_
                refine Gl.st (g' := (mkF m 295 #[.val (.int p1), .val (.int p2), .val (.int p3), .val (.int v116), .val (.int v117), .val (.ref a118), .val (.int v150), .val (.int w151), .val (.int v149)] [(.int (1 : Int32))])) (fun t k => XT.iconstV X152.here hx rfl (1 : Int32) (hb hby at_294) rfl k) ?_
                refine Gl.st (g' := (mkF m 299 #[.val (.int p1), .val (.int p2), .val (.int p3), .val (.int v116), .val (.int v117), .val (.ref a118), .val (.int v150), .val (.int w151), .val (.int v149)] [(.int (1 : Int32))])) (fun t k => XS.goto X152.here hx rfl (pc0 := 295) (pc' := 299) rfl (hb hby at_295) (by decide) (by decide) k) ?_
                refine Gl.retZ X152 hx hlk .boolean (by simp) Bd.returns (hb hby at_299) e152 (by decide) (by decide) ?_
                rw [Q0, own_z1]
                exact ⟨rfl, N152⟩
              by_cases c153 : (v149 &&& (2 : Int32)) = (0 : Int32)
              · skip
                refine Gl.st (g' := (mkF m 274 #[.val (.int p1), .val (.int p2), .val (.int p3), .val (.int v116), .val (.int v117), .val (.ref a118), .val (.int v150), .val (.int w147), .val (.int v149)] [])) (fun t k => XS.ifYes X148.here hx rfl (pc0 := 267) (pc' := 274) rfl (hb hby at_267) rfl (XT.i0_eq_t c153) (by decide) (by decide) k) ?_
                refine Gl.st (g' := (mkF m 275 #[.val (.int p1), .val (.int p2), .val (.int p3), .val (.int v116), .val (.int v117), .val (.ref a118), .val (.int v150), .val (.int w147), .val (.int v149)] [(.int (0 : Int32))])) (fun t k => XT.iconstV X148.here hx rfl (0 : Int32) (hb hby at_274) rfl k) ?_
                exact j151 _ (by unfold own_b2; rw [if_pos c153])
              · skip
                refine Gl.st (g' := (mkF m 270 #[.val (.int p1), .val (.int p2), .val (.int p3), .val (.int v116), .val (.int v117), .val (.ref a118), .val (.int v150), .val (.int w147), .val (.int v149)] [])) (fun t k => XS.ifNo X148.here hx rfl (hb hby at_267) rfl (XT.i0_eq_f c153) k) ?_
                refine Gl.st (g' := (mkF m 271 #[.val (.int p1), .val (.int p2), .val (.int p3), .val (.int v116), .val (.int v117), .val (.ref a118), .val (.int v150), .val (.int w147), .val (.int v149)] [(.int (1 : Int32))])) (fun t k => XT.iconstV X148.here hx rfl (1 : Int32) (hb hby at_270) rfl k) ?_
                refine Gl.st (g' := (mkF m 275 #[.val (.int p1), .val (.int p2), .val (.int p3), .val (.int v116), .val (.int v117), .val (.ref a118), .val (.int v150), .val (.int w147), .val (.int v149)] [(.int (1 : Int32))])) (fun t k => XS.goto X148.here hx rfl (pc0 := 271) (pc' := 275) rfl (hb hby at_271) (by decide) (by decide) k) ?_
                exact j151 _ (by unfold own_b2; rw [if_neg c153])
            by_cases c154 : (v145 &&& (2 : Int32)) = (0 : Int32)
            · skip
              refine Gl.st (g' := (mkF m 238 #[.val (.int p1), .val (.int p2), .val (.int p3), .val (.int v116), .val (.int v117), .val (.ref a118), .val (.int v146), .val (.int w143), .val (.int v145)] [])) (fun t k => XS.ifYes X144.here hx rfl (pc0 := 231) (pc' := 238) rfl (hb hby at_231) rfl (XT.i0_eq_t c154) (by decide) (by decide) k) ?_
              refine Gl.st (g' := (mkF m 239 #[.val (.int p1), .val (.int p2), .val (.int p3), .val (.int v116), .val (.int v117), .val (.ref a118), .val (.int v146), .val (.int w143), .val (.int v145)] [(.int (0 : Int32))])) (fun t k => XT.iconstV X144.here hx rfl (0 : Int32) (hb hby at_238) rfl k) ?_
              exact j147 _ (by unfold own_b2; rw [if_pos c154])
            · skip
              refine Gl.st (g' := (mkF m 234 #[.val (.int p1), .val (.int p2), .val (.int p3), .val (.int v116), .val (.int v117), .val (.ref a118), .val (.int v146), .val (.int w143), .val (.int v145)] [])) (fun t k => XS.ifNo X144.here hx rfl (hb hby at_231) rfl (XT.i0_eq_f c154) k) ?_
              refine Gl.st (g' := (mkF m 235 #[.val (.int p1), .val (.int p2), .val (.int p3), .val (.int v116), .val (.int v117), .val (.ref a118), .val (.int v146), .val (.int w143), .val (.int v145)] [(.int (1 : Int32))])) (fun t k => XT.iconstV X144.here hx rfl (1 : Int32) (hb hby at_234) rfl k) ?_
              refine Gl.st (g' := (mkF m 239 #[.val (.int p1), .val (.int p2), .val (.int p3), .val (.int v116), .val (.int v117), .val (.ref a118), .val (.int v146), .val (.int w143), .val (.int v145)] [(.int (1 : Int32))])) (fun t k => XS.goto X144.here hx rfl (pc0 := 235) (pc' := 239) rfl (hb hby at_235) (by decide) (by decide) k) ?_
              exact j147 _ (by unfold own_b2; rw [if_neg c154])
          by_cases c155 : (v141 &&& (2 : Int32)) = (0 : Int32)
          · skip
            refine Gl.st (g' := (mkF m 203 #[.val (.int p1), .val (.int p2), .val (.int p3), .val (.int v116), .val (.int v117), .val (.ref a118), .val (.int v142), .val (.int w139), .val (.int v141)] [])) (fun t k => XS.ifYes X140.here hx rfl (pc0 := 196) (pc' := 203) rfl (hb hby at_196) rfl (XT.i0_eq_t c155) (by decide) (by decide) k) ?_
            refine Gl.st (g' := (mkF m 204 #[.val (.int p1), .val (.int p2), .val (.int p3), .val (.int v116), .val (.int v117), .val (.ref a118), .val (.int v142), .val (.int w139), .val (.int v141)] [(.int (0 : Int32))])) (fun t k => XT.iconstV X140.here hx rfl (0 : Int32) (hb hby at_203) rfl k) ?_
            exact j143 _ (by unfold own_b2; rw [if_pos c155])
          · skip
            refine Gl.st (g' := (mkF m 199 #[.val (.int p1), .val (.int p2), .val (.int p3), .val (.int v116), .val (.int v117), .val (.ref a118), .val (.int v142), .val (.int w139), .val (.int v141)] [])) (fun t k => XS.ifNo X140.here hx rfl (hb hby at_196) rfl (XT.i0_eq_f c155) k) ?_
            refine Gl.st (g' := (mkF m 200 #[.val (.int p1), .val (.int p2), .val (.int p3), .val (.int v116), .val (.int v117), .val (.ref a118), .val (.int v142), .val (.int w139), .val (.int v141)] [(.int (1 : Int32))])) (fun t k => XT.iconstV X140.here hx rfl (1 : Int32) (hb hby at_199) rfl k) ?_
            refine Gl.st (g' := (mkF m 204 #[.val (.int p1), .val (.int p2), .val (.int p3), .val (.int v116), .val (.int v117), .val (.ref a118), .val (.int v142), .val (.int w139), .val (.int v141)] [(.int (1 : Int32))])) (fun t k => XS.goto X140.here hx rfl (pc0 := 200) (pc' := 204) rfl (hb hby at_200) (by decide) (by decide) k) ?_
            exact j143 _ (by unfold own_b2; rw [if_neg c155])
        by_cases c156 : (v137 &&& (2 : Int32)) = (0 : Int32)
        · skip
          refine Gl.st (g' := (mkF m 168 #[.val (.int p1), .val (.int p2), .val (.int p3), .val (.int v116), .val (.int v117), .val (.ref a118), .val (.int v138), .val (.int w135), .val (.int v137)] [])) (fun t k => XS.ifYes X136.here hx rfl (pc0 := 161) (pc' := 168) rfl (hb hby at_161) rfl (XT.i0_eq_t c156) (by decide) (by decide) k) ?_
          refine Gl.st (g' := (mkF m 169 #[.val (.int p1), .val (.int p2), .val (.int p3), .val (.int v116), .val (.int v117), .val (.ref a118), .val (.int v138), .val (.int w135), .val (.int v137)] [(.int (0 : Int32))])) (fun t k => XT.iconstV X136.here hx rfl (0 : Int32) (hb hby at_168) rfl k) ?_
          exact j139 _ (by unfold own_b2; rw [if_pos c156])
        · skip
          refine Gl.st (g' := (mkF m 164 #[.val (.int p1), .val (.int p2), .val (.int p3), .val (.int v116), .val (.int v117), .val (.ref a118), .val (.int v138), .val (.int w135), .val (.int v137)] [])) (fun t k => XS.ifNo X136.here hx rfl (hb hby at_161) rfl (XT.i0_eq_f c156) k) ?_
          refine Gl.st (g' := (mkF m 165 #[.val (.int p1), .val (.int p2), .val (.int p3), .val (.int v116), .val (.int v117), .val (.ref a118), .val (.int v138), .val (.int w135), .val (.int v137)] [(.int (1 : Int32))])) (fun t k => XT.iconstV X136.here hx rfl (1 : Int32) (hb hby at_164) rfl k) ?_
          refine Gl.st (g' := (mkF m 169 #[.val (.int p1), .val (.int p2), .val (.int p3), .val (.int v116), .val (.int v117), .val (.ref a118), .val (.int v138), .val (.int w135), .val (.int v137)] [(.int (1 : Int32))])) (fun t k => XS.goto X136.here hx rfl (pc0 := 165) (pc' := 169) rfl (hb hby at_165) (by decide) (by decide) k) ?_
          exact j139 _ (by unfold own_b2; rw [if_neg c156])
      by_cases c157 : (v133 &&& (2 : Int32)) = (0 : Int32)
      · skip
        refine Gl.st (g' := (mkF m 133 #[.val (.int p1), .val (.int p2), .val (.int p3), .val (.int v116), .val (.int v117), .val (.ref a118), .val (.int v134), .val (.int w131), .val (.int v133)] [])) (fun t k => XS.ifYes X132.here hx rfl (pc0 := 126) (pc' := 133) rfl (hb hby at_126) rfl (XT.i0_eq_t c157) (by decide) (by decide) k) ?_
        refine Gl.st (g' := (mkF m 134 #[.val (.int p1), .val (.int p2), .val (.int p3), .val (.int v116), .val (.int v117), .val (.ref a118), .val (.int v134), .val (.int w131), .val (.int v133)] [(.int (0 : Int32))])) (fun t k => XT.iconstV X132.here hx rfl (0 : Int32) (hb hby at_133) rfl k) ?_
        exact j135 _ (by unfold own_b2; rw [if_pos c157])
      · skip
        refine Gl.st (g' := (mkF m 129 #[.val (.int p1), .val (.int p2), .val (.int p3), .val (.int v116), .val (.int v117), .val (.ref a118), .val (.int v134), .val (.int w131), .val (.int v133)] [])) (fun t k => XS.ifNo X132.here hx rfl (hb hby at_126) rfl (XT.i0_eq_f c157) k) ?_
        refine Gl.st (g' := (mkF m 130 #[.val (.int p1), .val (.int p2), .val (.int p3), .val (.int v116), .val (.int v117), .val (.ref a118), .val (.int v134), .val (.int w131), .val (.int v133)] [(.int (1 : Int32))])) (fun t k => XT.iconstV X132.here hx rfl (1 : Int32) (hb hby at_129) rfl k) ?_
        refine Gl.st (g' := (mkF m 134 #[.val (.int p1), .val (.int p2), .val (.int p3), .val (.int v116), .val (.int v117), .val (.ref a118), .val (.int v134), .val (.int w131), .val (.int v133)] [(.int (1 : Int32))])) (fun t k => XS.goto X132.here hx rfl (pc0 := 130) (pc' := 134) rfl (hb hby at_130) (by decide) (by decide) k) ?_
        exact j135 _ (by unfold own_b2; rw [if_neg c157])
    by_cases c158 : (v129 &&& (2 : Int32)) = (0 : Int32)
    · skip
      refine Gl.st (g' := (mkF m 98 #[.val (.int p1), .val (.int p2), .val (.int p3), .val (.int v116), .val (.int v117), .val (.ref a118), .val (.int v130), .val (.int w127), .val (.int v129)] [])) (fun t k => XS.ifYes X128.here hx rfl (pc0 := 91) (pc' := 98) rfl (hb hby at_91) rfl (XT.i0_eq_t c158) (by decide) (by decide) k) ?_
      refine Gl.st (g' := (mkF m 99 #[.val (.int p1), .val (.int p2), .val (.int p3), .val (.int v116), .val (.int v117), .val (.ref a118), .val (.int v130), .val (.int w127), .val (.int v129)] [(.int (0 : Int32))])) (fun t k => XT.iconstV X128.here hx rfl (0 : Int32) (hb hby at_98) rfl k) ?_
      exact j131 _ (by unfold own_b2; rw [if_pos c158])
    · skip
      refine Gl.st (g' := (mkF m 94 #[.val (.int p1), .val (.int p2), .val (.int p3), .val (.int v116), .val (.int v117), .val (.ref a118), .val (.int v130), .val (.int w127), .val (.int v129)] [])) (fun t k => XS.ifNo X128.here hx rfl (hb hby at_91) rfl (XT.i0_eq_f c158) k) ?_
      refine Gl.st (g' := (mkF m 95 #[.val (.int p1), .val (.int p2), .val (.int p3), .val (.int v116), .val (.int v117), .val (.ref a118), .val (.int v130), .val (.int w127), .val (.int v129)] [(.int (1 : Int32))])) (fun t k => XT.iconstV X128.here hx rfl (1 : Int32) (hb hby at_94) rfl k) ?_
      refine Gl.st (g' := (mkF m 99 #[.val (.int p1), .val (.int p2), .val (.int p3), .val (.int v116), .val (.int v117), .val (.ref a118), .val (.int v130), .val (.int w127), .val (.int v129)] [(.int (1 : Int32))])) (fun t k => XS.goto X128.here hx rfl (pc0 := 95) (pc' := 99) rfl (hb hby at_95) (by decide) (by decide) k) ?_
      exact j131 _ (by unfold own_b2; rw [if_neg c158])
  by_cases c159 : (v125 &&& (2 : Int32)) = (0 : Int32)
  · skip
    refine Gl.st (g' := (mkF m 63 #[.val (.int p1), .val (.int p2), .val (.int p3), .val (.int v116), .val (.int v117), .val (.ref a118), .val (.int v126), .val (.int (0 : Int32)), .val (.int v125)] [])) (fun t k => XS.ifYes X124.here hx rfl (pc0 := 56) (pc' := 63) rfl (hb hby at_56) rfl (XT.i0_eq_t c159) (by decide) (by decide) k) ?_
    refine Gl.st (g' := (mkF m 64 #[.val (.int p1), .val (.int p2), .val (.int p3), .val (.int v116), .val (.int v117), .val (.ref a118), .val (.int v126), .val (.int (0 : Int32)), .val (.int v125)] [(.int (0 : Int32))])) (fun t k => XT.iconstV X124.here hx rfl (0 : Int32) (hb hby at_63) rfl k) ?_
    exact j127 _ (by unfold own_b2; rw [if_pos c159])
  · skip
    refine Gl.st (g' := (mkF m 59 #[.val (.int p1), .val (.int p2), .val (.int p3), .val (.int v116), .val (.int v117), .val (.ref a118), .val (.int v126), .val (.int (0 : Int32)), .val (.int v125)] [])) (fun t k => XS.ifNo X124.here hx rfl (hb hby at_56) rfl (XT.i0_eq_f c159) k) ?_
    refine Gl.st (g' := (mkF m 60 #[.val (.int p1), .val (.int p2), .val (.int p3), .val (.int v116), .val (.int v117), .val (.ref a118), .val (.int v126), .val (.int (0 : Int32)), .val (.int v125)] [(.int (1 : Int32))])) (fun t k => XT.iconstV X124.here hx rfl (1 : Int32) (hb hby at_59) rfl k) ?_
    refine Gl.st (g' := (mkF m 64 #[.val (.int p1), .val (.int p2), .val (.int p3), .val (.int v116), .val (.int v117), .val (.ref a118), .val (.int v126), .val (.int (0 : Int32)), .val (.int v125)] [(.int (1 : Int32))])) (fun t k => XS.goto X124.here hx rfl (pc0 := 60) (pc' := 64) rfl (hb hby at_60) (by decide) (by decide) k) ?_
    exact j127 _ (by unfold own_b2; rw [if_neg c159])
set_option maxRecDepth 65536 in
set_option maxHeartbeats 40000000 in
theorem comes_1 {Post : Tables → Env → Array Value → State → Outcome → State → Prop} (hpost : ∀ tb e args s v u, (limb_1_1.after args s (.returned v) u = true ∧ limb_1_2.after args s (.returned v) u = true ∧ True) → FrameEnd s (.returned v) u (Jvm.fieldLocs frame_1_writes args s ++ Jvm.arrayLocs frame_1_arrays args s ++ Jvm.staticLocs frame_1_statics s) 16 128 → Post tb e args s (.returned v) u) :
    ArmFor flags0 classFile x code maxLocals ret World_1 tables_1 room_1 Calls_1 rest_1 Pre_1 Post := by
  intro l hfl _ _ p e ha hc hk s m args below hf hA hF happ hP
  obtain ⟨hcalls, hrest, hpre⟩ := hP
  obtain ⟨-, -, -, hnamed, -, -, -, hat⟩ := (Spec.applies_iff hf).mp happ
  obtain ⟨hg, hn⟩ := and_e (Cond.before_iff.mp (show (Jvm.Cond.and given_1 narrow_1).before args s = true from hpre))
  obtain ⟨hcount, hk1⟩ := and_e hg
  obtain ⟨hi1, hk2⟩ := and_e hk1
  obtain ⟨hi2, hk3⟩ := and_e hk2
  obtain ⟨w0, w1, w2, rfl⟩ : ∃ w0 w1 w2 : Value, args = #[w0, w1, w2] := by
    have hs : args.size = 3 := by simpa [Cond.value, given_1] using hcount
    obtain ⟨L⟩ := args
    match L, hs with
    | [w0, w1, w2], _ => exact ⟨w0, w1, w2, rfl⟩
  have hw := fun d (hd : d ∈ tables_1) => atoms_spec (ws := Jvm.Cond.code x code maxLocals ret :: tables_1) hat d (List.mem_cons_of_mem _ hd)
  obtain ⟨i0, q0⟩ := is_v hi1
  obtain rfl : w0 = (.int i0) := Option.some.inj q0
  obtain ⟨i1, q1⟩ := is_v hi2
  obtain rfl : w1 = (.int i1) := Option.some.inj q1
  obtain ⟨i2, q2⟩ := is_v hk3
  obtain rfl : w2 = (.int i2) := Option.some.inj q2
  obtain ⟨n, o, h1, h2, h3, _, L, rfl, ⟨rfl, N⟩, hq⟩ := rm0 l s _ hw tables_1 i0 i1 i2 s.heap s.heap.size (Nat.le_refl _)  p e ha hc hk s m _ below hf ((Spec.applies_iff_loose hf).mp happ).1 ⟨rfl, State.Warmed39.refl s, rfl⟩ trivial
  refine ⟨n, _, h1, h2, h3, hpost _ _ _ _ _ _ ⟨Cond.after_iff.mpr rfl, Cond.after_iff.mpr (eq_i res_at (Term.int_eval (1)) rfl), trivial⟩ ⟨hq.1, hq.2.1, (hq.2.2.sift fun y hy => Or.inr (N y hy)).mono (by decide) (by decide)⟩⟩
theorem main_1_1 : Claimed_1_1 := comes_1 fun _ _ _ _ _ _ h hF => ⟨h.1, hF⟩
theorem main_1_2 : Claimed_1_2 := comes_1 fun _ _ _ _ _ _ h hF => ⟨h.2.1, hF⟩
end Jvm.Pilot.@@N@@
namespace Jvm.Pilot.@@N@@
open Jvm Jvm.ClassFile Sem Op Lib Jvm.Free Jvm.Stand Jvm.Pilot.@@N@@.Jvm.D
/-! MADE BY PROGRAM (witnessworld.py) out of the Statement's table words and the real class files: 9 classes; the members and pool entries that the words name. The judged class is class 1, her method 3. -/
namespace start1
open Jvm.ClassFile
def u (s : String) : CpInfo := .utf8 (stringToUtf16 s)
/-- a pool by its gaps: so many unusable entries, then the entry; so many at the end -/
def gap : Nat → List CpInfo → List CpInfo
  | 0, r => r
  | n + 1, r => .unusable :: gap n r
def poolList (es : List (Nat × CpInfo)) (last : Nat) : List CpInfo := es.foldr (fun e r => gap e.1 (e.2 :: r)) (gap last [])
def pool (es : List (Nat × CpInfo)) (last : Nat) : Array CpInfo := ⟨poolList es last⟩
def fileOf (pool : Array CpInfo) (this : Nat) (attrs : Array Attribute := #[]) (ms : Array MethodInfo := #[]) (fl : Nat := 33) (sup : Nat := 0) (ifs : Array Nat := #[]) (fds : Array FieldInfo := #[]) : ClassFile where
  minorVersion := 0
  majorVersion := 65
  constantPool := pool
  accessFlags := fl
  thisClass := this
  superClass := sup
  interfaces := ifs
  fields := fds
  methods := ms
  attributes := attrs
def plain (name : String) (sup : Option ClassId) : Class where
  name := name
  kind := .ordinary
  loader := none
  accessFlags := 33
  super := sup
  interfaces := #[]
  cf := none
  fields := #[]
  methods := #[]
  instanceTypes := #[]
  staticTypes := #[]
  resolved := #[]
  callSites := []
  init := .initialized
  statics := none
  mirror := none

def pool0 : Array CpInfo := pool [(5, u "<init>"), (0, u "()V"), (1, .class_ 10), (1, u "java/lang/Object")] 113

def k0c0 : Code := { maxStack := 0, maxLocals := 1, code := object_method_1_code, exceptionTable := #[], attributes := #[] }
def k0m0 : Method := { name := "<init>", desc := "()V", sig := { parameters := [], returnType := none }, accessFlags := 1, code := some k0c0 }
/-- java/lang/Object -/
def k0 : Class := { plain "java/lang/Object" none with
  accessFlags := 33
  interfaces := #[]
  cf := some (fileOf pool0 8 #[] #[{ accessFlags := 1, nameIndex := 5, descriptorIndex := 6, attributes := #[] }] 33 0 #[] #[])
  fields := #[]
  methods := #[k0m0]
  instanceTypes := #[]
  staticTypes := #[]
  resolved := Array.replicate 124 none
  statics := none }

def pool1 : Array CpInfo := pool [(2, .class_ 4), (1, u "java/lang/Object"), (0, u "<init>"), (0, u "()V"), (0, .methodref 8 9), (0, .class_ 10), (0, .nameAndType 11 12), (0, u "com/example/outlier/outlier/health/HealthStateProbedPinLaw"), (0, u "expect"), (0, u "(IIZII)Z"), (0, .methodref 14 15), (0, .class_ 16), (0, .nameAndType 17 18), (0, u "com/example/outlier/outlier/health/HealthState"), (0, u "probed"), (0, u "(Z)Z"), (0, .methodref 14 20), (0, .nameAndType 5 21), (0, u "(II)V"), (0, .methodref 8 23), (0, .nameAndType 24 25), (0, u "step"), (0, u "(Lcom/example/outlier/outlier/health/HealthState;IIZII)I"), (0, .methodref 14 27), (0, .nameAndType 28 29), (0, u "healthy"), (0, u "()Z"), (3, u "law"), (0, u "(III)Z")] 2

def k1m0 : Method := { name := "<init>", desc := "()V", sig := { parameters := [], returnType := none }, accessFlags := 1, code := none }
def k1c1 : Code := { maxStack := 3, maxLocals := 9, code := method_2_code, exceptionTable := #[], attributes := #[] }
def k1m1 : Method := { name := "expect", desc := "(IIZII)Z", sig := { parameters := [.int, .int, .boolean, .int, .int], returnType := some .boolean }, accessFlags := 10, code := some k1c1 }
def k1c2 : Code := { maxStack := 5, maxLocals := 9, code := method_3_code, exceptionTable := #[], attributes := #[] }
def k1m2 : Method := { name := "step", desc := "(Lcom/example/outlier/outlier/health/HealthState;IIZII)I", sig := { parameters := [(.object "com/example/outlier/outlier/health/HealthState"), .int, .int, .boolean, .int, .int], returnType := some .int }, accessFlags := 10, code := some k1c2 }
def k1c3 : Code := { maxStack := 6, maxLocals := 9, code := code, exceptionTable := #[], attributes := #[] }
def k1m3 : Method := { name := "law", desc := "(III)Z", sig := { parameters := [.int, .int, .int], returnType := some .boolean }, accessFlags := 9, code := some k1c3 }
/-- com/example/outlier/outlier/health/HealthStateProbedPinLaw -/
def k1 : Class := { plain "com/example/outlier/outlier/health/HealthStateProbedPinLaw" (some 0) with
  accessFlags := 49
  interfaces := #[]
  cf := some (fileOf pool1 8 #[] #[{ accessFlags := 1, nameIndex := 5, descriptorIndex := 6, attributes := #[] }, { accessFlags := 10, nameIndex := 11, descriptorIndex := 12, attributes := #[] }, { accessFlags := 10, nameIndex := 24, descriptorIndex := 25, attributes := #[] }, { accessFlags := 9, nameIndex := 33, descriptorIndex := 34, attributes := #[] }] 49 2 #[] #[])
  fields := #[]
  methods := #[k1m0, k1m1, k1m2, k1m3]
  instanceTypes := #[]
  staticTypes := #[]
  resolved := Array.replicate 37 none
  statics := none }

def pool2 : Array CpInfo := pool [(1, .methodref 2 3), (0, .class_ 4), (0, .nameAndType 5 6), (0, u "java/lang/Object"), (0, u "<init>"), (0, u "()V"), (0, .fieldref 8 9), (0, .class_ 10), (0, .nameAndType 11 12), (0, u "com/example/outlier/outlier/health/HealthState"), (0, u "healthyThreshold"), (0, u "I"), (0, .fieldref 8 14), (0, .nameAndType 15 12), (0, u "unhealthyThreshold"), (0, .fieldref 8 17), (0, .nameAndType 18 19), (0, u "healthy"), (0, u "Z"), (0, .fieldref 8 21), (0, .nameAndType 22 12), (0, u "against"), (0, u "(II)V"), (2, u "()Z"), (0, u "probed"), (0, u "(Z)Z")] 3

def k2c0 : Code := { maxStack := 2, maxLocals := 3, code := prog_63_method_1_code, exceptionTable := #[], attributes := #[] }
def k2m0 : Method := { name := "<init>", desc := "(II)V", sig := { parameters := [.int, .int], returnType := none }, accessFlags := 0, code := some k2c0 }
def k2c1 : Code := { maxStack := 1, maxLocals := 1, code := prog_63_method_2_code, exceptionTable := #[], attributes := #[] }
def k2m1 : Method := { name := "healthy", desc := "()Z", sig := { parameters := [], returnType := some .boolean }, accessFlags := 0, code := some k2c1 }
def k2c2 : Code := { maxStack := 3, maxLocals := 3, code := prog_63_method_3_code, exceptionTable := #[], attributes := #[] }
def k2m2 : Method := { name := "probed", desc := "(Z)Z", sig := { parameters := [.boolean], returnType := some .boolean }, accessFlags := 0, code := some k2c2 }
/-- com/example/outlier/outlier/health/HealthState -/
def k2 : Class := { plain "com/example/outlier/outlier/health/HealthState" (some 0) with
  accessFlags := 48
  interfaces := #[]
  cf := some (fileOf pool2 8 #[] #[{ accessFlags := 0, nameIndex := 5, descriptorIndex := 23, attributes := #[] }, { accessFlags := 0, nameIndex := 18, descriptorIndex := 26, attributes := #[] }, { accessFlags := 0, nameIndex := 27, descriptorIndex := 28, attributes := #[] }] 48 2 #[] #[{ accessFlags := 18, nameIndex := 11, descriptorIndex := 12, attributes := #[] }, { accessFlags := 18, nameIndex := 15, descriptorIndex := 12, attributes := #[] }, { accessFlags := 2, nameIndex := 18, descriptorIndex := 19, attributes := #[] }, { accessFlags := 2, nameIndex := 22, descriptorIndex := 12, attributes := #[] }])
  fields := #[{ name := "healthyThreshold", type := .int, accessFlags := 18, slot := 0, constantValue := 0 }, { name := "unhealthyThreshold", type := .int, accessFlags := 18, slot := 1, constantValue := 0 }, { name := "healthy", type := .boolean, accessFlags := 2, slot := 2, constantValue := 0 }, { name := "against", type := .int, accessFlags := 2, slot := 3, constantValue := 0 }]
  methods := #[k2m0, k2m1, k2m2]
  instanceTypes := #[.int, .int, .boolean, .int]
  staticTypes := #[]
  resolved := Array.replicate 32 none
  statics := none }

def pool3 : Array CpInfo := pool [(1, u "java/lang/Cloneable"), (0, .class_ 1), (0, u "java/lang/Object"), (0, .class_ 3)] 3

/-- java/lang/Cloneable -/
def k3 : Class := { plain "java/lang/Cloneable" (some 0) with
  accessFlags := 1537
  interfaces := #[]
  cf := some (fileOf pool3 2 #[] #[] 1537 4 #[] #[])
  fields := #[]
  methods := #[]
  instanceTypes := #[]
  staticTypes := #[]
  resolved := Array.replicate 8 none
  statics := none }

def pool4 : Array CpInfo := pool [(1, u "java/io/Serializable"), (0, .class_ 1), (0, u "java/lang/Object"), (0, .class_ 3)] 3

/-- java/io/Serializable -/
def k4 : Class := { plain "java/io/Serializable" (some 0) with
  accessFlags := 1537
  interfaces := #[]
  cf := some (fileOf pool4 2 #[] #[] 1537 4 #[] #[])
  fields := #[]
  methods := #[]
  instanceTypes := #[]
  staticTypes := #[]
  resolved := Array.replicate 8 none
  statics := none }

/-- the primitive byte -/
def k5 : Class := { plain "byte" none with kind := .primitive 'B', accessFlags := 0x411 }
/-- [B -/
def k6 : Class := { plain "[B" (some 0) with kind := .array 5 .byte, interfaces := #[3, 4], accessFlags := 1041 }

/-- the primitive int -/
def k7 : Class := { plain "int" none with kind := .primitive 'I', accessFlags := 0x411 }
/-- [I -/
def k8 : Class := { plain "[I" (some 0) with kind := .array 7 .int, interfaces := #[3, 4], accessFlags := 1041 }

def heap : Heap := #[]
def classes : Array Class := #[k0, k1, k2, k3, k4, k5, k6, k7, k8]
def interned : List (Array UInt16 × Addr) := []
def slotsUsed : Nat := 0
def theMethod : MethodId := ⟨1, 3⟩
def args0 : Array Value := #[.int 5, .int 5, .int 5]
def aboutOver (below : List Frame) : State where
  vm := { classes := classes, interned := interned.toArray }
  heap := heap
  slotsUsed := slotsUsed
  threads := #[{ frames := .invoking theMethod args0 :: below }]
def below0 : List Frame := [.native { method := ⟨0, 0⟩, args := #[] }]
def about1 : State := aboutOver below0
def p0 : Program := .bare "" "" ""
def e0 : Env := launch0.env 0 0 0
theorem w_frames : about1.frames = Frame.invoking theMethod args0 :: below0 := rfl
set_option maxRecDepth 65536 in
theorem w_args : argsFit about1.vm theMethod args0 = true := by decide +kernel
set_option maxRecDepth 65536 in
theorem w_heap : heapFits about1 = true := by decide +kernel
set_option maxRecDepth 65536 in
theorem w_runnable : about1.curStatus? = some .runnable := by decide +kernel
set_option maxRecDepth 65536 in
theorem w_alone : about1.alone = true := by decide +kernel
set_option maxRecDepth 65536 in
theorem w_named : about1.methodNamed? x = some theMethod := by decide +kernel
set_option maxRecDepth 65536 in
theorem w_hears : about1.hears theMethod below0 = true := by decide +kernel
set_option maxRecDepth 65536 in
theorem w_ripe : about1.ripe theMethod args0 below0 = true := by decide +kernel
theorem w_running : about1.status = .running := rfl
set_option maxRecDepth 65536 in
theorem w_room : about1.hasRoom e0.platform room_1 = true :=
  launch0.hasRoom_least _ room_1 (by decide +kernel) (by decide +kernel) (by decide +kernel) (by decide +kernel) (by decide +kernel) (by decide +kernel)
theorem allAtoms_all (ts : List Jvm.Cond) (a : Array Jvm.Value) (st : Jvm.State) : (allAtoms ts).before a st = ts.all (fun c => c.before a st) := by
  induction ts with
  | nil => rfl
  | cons c t ih =>
    show (Jvm.Cond.and c (allAtoms t)).before a st = _
    rw [Jvm.Cond.before_and, ih, List.all_cons]
def words1 : List Jvm.Cond := Jvm.Cond.code x code maxLocals ret :: tables_1
/-- a 'code' word, met by the world's own term for the bytes: nothing is compared byte by byte -/
theorem code_word {y : MethodName} {bytes : ByteArray} {mx : Nat} {rt : Option FieldType} {a : Array Value} {s : State} {m : MethodId} {meth : Method} {c : Code} (h1 : s.methodNamed? y = some m) (h2 : s.vm.method? m = some meth) (h3 : meth.code = some c) (h4 : c.code = bytes)
    (h5 : (c.maxLocals == mx && c.exceptionTable.isEmpty && decide (c.maxStack ≤ mostOperands) && decide (meth.sig.returnType = rt) && !meth.locks && decide (parseMethodDescriptor y.desc = some meth.sig)) = true) : (Jvm.Cond.code y bytes mx rt).before a s = true := by
  simp only [Bool.and_eq_true, beq_iff_eq, Bool.not_eq_true', decide_eq_true_eq] at h5
  obtain ⟨⟨⟨⟨⟨g1, g2⟩, g3⟩, g4⟩, g5⟩, g6⟩ := h5
  simp [Cond.before, Cond.holds, Cond.value, h1, h2, h3, h4, g1, g2, g3, g4, g5, g6]
def isCode : Jvm.Cond → Bool
  | .code _ _ _ _ => true
  | _ => false
theorem all_split {L : List Jvm.Cond} {P : Jvm.Cond → Bool} (h1 : L.all (fun c => isCode c || P c) = true) (h2 : ∀ c ∈ L.filter isCode, P c = true) : L.all P = true := by
  refine List.all_eq_true.mpr fun c hc => ?_
  have h := List.all_eq_true.mp h1 c hc
  rcases Bool.eq_false_or_eq_true (isCode c) with hi | hi
  · exact h2 c (List.mem_filter.mpr ⟨hc, hi⟩)
  · simpa [hi] using h
set_option maxRecDepth 65536 in
theorem w_c0 : (Jvm.Cond.code x code maxLocals ret).before args0 about1 = true := code_word (m := ⟨1, 3⟩) (meth := k1m3) (c := k1c3) (by decide +kernel) rfl rfl rfl (by decide +kernel)
set_option maxRecDepth 65536 in
theorem w_c1 : (Jvm.Cond.code ({ cls := "com/example/outlier/outlier/health/HealthState", name := "<init>", desc := "(II)V" } : Jvm.MethodName) prog_63_method_1_code (3 : Nat) (Option.none : Option Jvm.ClassFile.FieldType)).before args0 about1 = true := code_word (m := ⟨2, 0⟩) (meth := k2m0) (c := k2c0) (by decide +kernel) rfl rfl rfl (by decide +kernel)
set_option maxRecDepth 65536 in
theorem w_c2 : (Jvm.Cond.code ({ cls := "java/lang/Object", name := "<init>", desc := "()V" } : Jvm.MethodName) object_method_1_code (1 : Nat) (Option.none : Option Jvm.ClassFile.FieldType)).before args0 about1 = true := code_word (m := ⟨0, 0⟩) (meth := k0m0) (c := k0c0) (by decide +kernel) rfl rfl rfl (by decide +kernel)
set_option maxRecDepth 65536 in
theorem w_c3 : (Jvm.Cond.code ({ cls := "com/example/outlier/outlier/health/HealthStateProbedPinLaw", name := "step", desc := "(Lcom/example/outlier/outlier/health/HealthState;IIZII)I" } : Jvm.MethodName) method_3_code (9 : Nat) (Option.some Jvm.ClassFile.FieldType.int)).before args0 about1 = true := code_word (m := ⟨1, 2⟩) (meth := k1m2) (c := k1c2) (by decide +kernel) rfl rfl rfl (by decide +kernel)
set_option maxRecDepth 65536 in
theorem w_c4 : (Jvm.Cond.code ({ cls := "com/example/outlier/outlier/health/HealthStateProbedPinLaw", name := "expect", desc := "(IIZII)Z" } : Jvm.MethodName) method_2_code (9 : Nat) (Option.some Jvm.ClassFile.FieldType.boolean)).before args0 about1 = true := code_word (m := ⟨1, 1⟩) (meth := k1m1) (c := k1c1) (by decide +kernel) rfl rfl rfl (by decide +kernel)
set_option maxRecDepth 65536 in
theorem w_c5 : (Jvm.Cond.code ({ cls := "com/example/outlier/outlier/health/HealthState", name := "probed", desc := "(Z)Z" } : Jvm.MethodName) prog_63_method_3_code (3 : Nat) (Option.some Jvm.ClassFile.FieldType.boolean)).before args0 about1 = true := code_word (m := ⟨2, 2⟩) (meth := k2m2) (c := k2c2) (by decide +kernel) rfl rfl rfl (by decide +kernel)
set_option maxRecDepth 65536 in
theorem w_c6 : (Jvm.Cond.code ({ cls := "com/example/outlier/outlier/health/HealthState", name := "healthy", desc := "()Z" } : Jvm.MethodName) prog_63_method_2_code (1 : Nat) (Option.some Jvm.ClassFile.FieldType.boolean)).before args0 about1 = true := code_word (m := ⟨2, 1⟩) (meth := k2m1) (c := k2c1) (by decide +kernel) rfl rfl rfl (by decide +kernel)
def codes1 : List Jvm.Cond := [Jvm.Cond.code x code maxLocals ret, Jvm.Cond.code ({ cls := "com/example/outlier/outlier/health/HealthState", name := "<init>", desc := "(II)V" } : Jvm.MethodName) prog_63_method_1_code (3 : Nat) (Option.none : Option Jvm.ClassFile.FieldType), Jvm.Cond.code ({ cls := "java/lang/Object", name := "<init>", desc := "()V" } : Jvm.MethodName) object_method_1_code (1 : Nat) (Option.none : Option Jvm.ClassFile.FieldType), Jvm.Cond.code ({ cls := "com/example/outlier/outlier/health/HealthStateProbedPinLaw", name := "step", desc := "(Lcom/example/outlier/outlier/health/HealthState;IIZII)I" } : Jvm.MethodName) method_3_code (9 : Nat) (Option.some Jvm.ClassFile.FieldType.int), Jvm.Cond.code ({ cls := "com/example/outlier/outlier/health/HealthStateProbedPinLaw", name := "expect", desc := "(IIZII)Z" } : Jvm.MethodName) method_2_code (9 : Nat) (Option.some Jvm.ClassFile.FieldType.boolean), Jvm.Cond.code ({ cls := "com/example/outlier/outlier/health/HealthState", name := "probed", desc := "(Z)Z" } : Jvm.MethodName) prog_63_method_3_code (3 : Nat) (Option.some Jvm.ClassFile.FieldType.boolean), Jvm.Cond.code ({ cls := "com/example/outlier/outlier/health/HealthState", name := "healthy", desc := "()Z" } : Jvm.MethodName) prog_63_method_2_code (1 : Nat) (Option.some Jvm.ClassFile.FieldType.boolean)]
set_option maxRecDepth 65536 in
theorem codes_eq : words1.filter isCode = codes1 := rfl
theorem w_codes : ∀ c ∈ words1.filter isCode, c.before args0 about1 = true := by
  rw [codes_eq]
  intro c hc
  simp only [codes1, List.mem_cons, List.not_mem_nil, or_false] at hc
  rcases hc with rfl | rfl | rfl | rfl | rfl | rfl | rfl
  · exact w_c0
  · exact w_c1
  · exact w_c2
  · exact w_c3
  · exact w_c4
  · exact w_c5
  · exact w_c6
set_option maxRecDepth 65536 in
theorem w_t1 : (words1.take 24).all (fun c => isCode c || c.before args0 about1) = true := by decide +kernel
set_option maxRecDepth 65536 in
theorem w_t2 : (words1.drop 24).all (fun c => isCode c || c.before args0 about1) = true := by decide +kernel
theorem w_tables : (allAtoms (Jvm.Cond.code x code maxLocals ret :: tables_1)).before args0 about1 = true := by
  rw [allAtoms_all]
  show words1.all (fun c => c.before args0 about1) = true
  refine all_split ?_ w_codes
  rw [← List.take_append_drop 24 words1, List.all_append, w_t1, w_t2]
  rfl
set_option maxRecDepth 65536 in
theorem w_case : (Jvm.Cond.and given_1 narrow_1).before args0 about1 = true := by decide +kernel
theorem w_applies : (headSpec (Jvm.Cond.code x code maxLocals ret :: tables_1) room_1).applies x e0.platform about1 = true :=
  (Spec.applies_iff w_frames).mpr ⟨w_running, w_runnable, w_alone, w_named, w_hears, w_ripe, w_room, w_tables⟩
theorem atStart : AtStart classFile x code maxLocals ret World_1 tables_1 room_1 Calls_1 rest_1 Pre_1 launch0 p0 e0 about1 theMethod args0 below0 :=
  ⟨lists_1, trivial, launch0.admits_env _ _ _, launch0.least_env, fairChoices_fair.cas, fairChoices_fair.clock, w_frames, w_args, w_heap, w_applies, trivial, trivial, w_case⟩
end start1
theorem witness_1 : WitnessClaimed_1 := ⟨start1.p0, start1.e0, start1.about1, start1.theMethod, start1.args0, start1.below0, start1.atStart⟩
end Jvm.Pilot.@@N@@
