import JvmDerived
import JvmDerived.Pilot.@@N@@Statement
import JvmDerived.Pilot.@@N@@Code
set_option linter.unusedVariables false
set_option linter.unusedSimpArgs false
namespace Jvm.RoadKit
open Sem ClassFile Op Lib Jvm.Stand Jvm.Free Jvm.LawKit
section New
variable {p : Program} {l : Launch} {e : Env} {R : Room} {s : State} {m : MethodId} {args : Array Value} {below : List Frame} {meth : Method} {c : Code} {T : State} {locs : List Loc} {cells slots : Nat}
theorem retI (X : Stand p l e R s m args below meth c T locs cells slots) (hx : p.tables.exec = Jvm.exec) {pc : Nat} {Ls : Array Slot} {z : Int32} {rest : List Value} (hret : meth.sig.returnType = some .int) (hd : decode c.code pc = .ok (.ireturn, 1)) {fs : List Frame}
    (hl : ∀ (f : JFrame) (acts : List Action), f.method = m → f.locked = none → f.entered = [] → (doReturn e (T.setTop f) acts (some (.int z))).1 = T.setFrames fs) : Steps p.tables e below (T.setTop (mkF m pc Ls (.int z :: rest))) (T.setFrames fs) :=
  retOut X hx hret rfl (Or.inl ⟨rfl, Or.inl rfl, z, rfl⟩) hd hl
theorem retJ (X : Stand p l e R s m args below meth c T locs cells slots) (hx : p.tables.exec = Jvm.exec) {pc : Nat} {Ls : Array Slot} {z : Int64} {rest : List Value} (hret : meth.sig.returnType = some .long) (hd : decode c.code pc = .ok (.lreturn, 1)) {fs : List Frame}
    (hl : ∀ (f : JFrame) (acts : List Action), f.method = m → f.locked = none → f.entered = [] → (doReturn e (T.setTop f) acts (some (.long z))).1 = T.setFrames fs) : Steps p.tables e below (T.setTop (mkF m pc Ls (.long z :: rest))) (T.setFrames fs) :=
  retOut X hx hret rfl (Or.inr (Or.inl ⟨rfl, rfl, z, rfl⟩)) hd hl
theorem retA (X : Stand p l e R s m args below meth c T locs cells slots) (hx : p.tables.exec = Jvm.exec) {pc : Nat} {Ls : Array Slot} {w : Value} {t : FieldType} {rest : List Value} (hret : meth.sig.returnType = some t) (hd : decode c.code pc = .ok (.areturn, 1)) {fs : List Frame}
    (hl : ∀ (f : JFrame) (acts : List Action), f.method = m → f.locked = none → f.entered = [] → (doReturn e (T.setTop f) acts (some w)).1 = T.setFrames fs) (ht : t.isReference = true) (hw : w.isRef = true) : Steps p.tables e below (T.setTop (mkF m pc Ls (w :: rest))) (T.setFrames fs) :=
  retOut X hx hret (by cases t <;> first | rfl | (cases ht; done)) (Or.inr (Or.inr (Or.inr (Or.inr ⟨rfl, ht, hw⟩)))) hd hl
/-- from the state S on, the body runs to its end and leaves what Q says -/
def Gz (p : Program) (e : Env) (below : List Frame) (s : State) (C N : Nat) (Q : Option Value → Heap → List Loc → Prop) (S : State) : Prop :=
  ∃ s₂ o, Steps p.tables e below S s₂ ∧ s₂.status = .running ∧ Ended s₂ below o ∧ ∃ v L, o = .returned v ∧ Q v s₂.heap L ∧ FrameEnd s o s₂ L C N
variable {C N : Nat} {Q : Option Value → Heap → List Loc → Prop} {S S' : State}
theorem Gz.st (k : ∀ t, Steps p.tables e below S' t → Steps p.tables e below S t) (h : Gz p e below s C N Q S') : Gz p e below s C N Q S := by
  obtain ⟨s₂, o, h1, h2⟩ := h
  exact ⟨s₂, o, k _ h1, h2⟩
theorem Gz.tr (k : Steps p.tables e below S S') (h : Gz p e below s C N Q S') : Gz p e below s C N Q S := by
  obtain ⟨s₂, o, h1, h2⟩ := h
  exact ⟨s₂, o, k.trans h1, h2⟩
variable {pc : Nat} {Ls : Array Slot} {st : List Value} {Z : State} {a0 : Array Value} {hh : Heap}
theorem Gz.iloadN (n : Nat) {k : Fin 4} {v : Int32} (X : Stand p l e R s m args below meth c T locs cells slots) (hx : p.tables.exec = Jvm.exec) (hd : decode c.code pc = .ok (.iload_n k, 1)) (hl : Ls[k.val]? = some (.val (.int v))) (q : pc + 1 = n) (h : Gz p e below s C N Q (T.setTop (mkF m n Ls (.int v :: st)))) : Gz p e below s C N Q (T.setTop (mkF m pc Ls st)) := by subst q; exact Gz.st (fun t k => XS.iloadN X.here hx rfl hd hl k) h
theorem Gz.iload (n : Nat) {k : Nat} {v : Int32} (X : Stand p l e R s m args below meth c T locs cells slots) (hx : p.tables.exec = Jvm.exec) (hd : decode c.code pc = .ok (.iload k, 2)) (hl : Ls[k]? = some (.val (.int v))) (q : pc + 2 = n) (h : Gz p e below s C N Q (T.setTop (mkF m n Ls (.int v :: st)))) : Gz p e below s C N Q (T.setTop (mkF m pc Ls st)) := by subst q; exact Gz.st (fun t k => XS.iload X.here hx rfl hd hl k) h
theorem Gz.istoreN (n : Nat) (l' : Array Slot) {k : Fin 4} {v : Int32} (X : Stand p l e R s m args below meth c T locs cells slots) (hx : p.tables.exec = Jvm.exec) (hd : decode c.code pc = .ok (.istore_n k, 1)) (hl : storeLocals Ls k.val (.int v) = some l') (q : pc + 1 = n) (h : Gz p e below s C N Q (T.setTop (mkF m n l' st))) : Gz p e below s C N Q (T.setTop (mkF m pc Ls (.int v :: st))) := by subst q; exact Gz.st (fun t k => XS.istoreN X.here hx rfl hd rfl hl k) h
theorem Gz.istore (n : Nat) (l' : Array Slot) {k : Nat} {v : Int32} (X : Stand p l e R s m args below meth c T locs cells slots) (hx : p.tables.exec = Jvm.exec) (hd : decode c.code pc = .ok (.istore k, 2)) (hl : storeLocals Ls k (.int v) = some l') (q : pc + 2 = n) (h : Gz p e below s C N Q (T.setTop (mkF m n l' st))) : Gz p e below s C N Q (T.setTop (mkF m pc Ls (.int v :: st))) := by subst q; exact Gz.st (fun t k => XS.istore X.here hx rfl hd rfl hl k) h
theorem Gz.aloadN (n : Nat) {k : Fin 4} {v : Value} (X : Stand p l e R s m args below meth c T locs cells slots) (hx : p.tables.exec = Jvm.exec) (hd : decode c.code pc = .ok (.aload_n k, 1)) (hl : Ls[k.val]? = some (.val v)) (hv : v.isRef = true) (q : pc + 1 = n) (h : Gz p e below s C N Q (T.setTop (mkF m n Ls (v :: st)))) : Gz p e below s C N Q (T.setTop (mkF m pc Ls st)) := by subst q; exact Gz.st (fun t k => XS.aloadN X.here hx rfl hd hl hv k) h
theorem Gz.aload (n : Nat) {k : Nat} {v : Value} (X : Stand p l e R s m args below meth c T locs cells slots) (hx : p.tables.exec = Jvm.exec) (hd : decode c.code pc = .ok (.aload k, 2)) (hl : Ls[k]? = some (.val v)) (hv : v.isRef = true) (q : pc + 2 = n) (h : Gz p e below s C N Q (T.setTop (mkF m n Ls (v :: st)))) : Gz p e below s C N Q (T.setTop (mkF m pc Ls st)) := by subst q; exact Gz.st (fun t k => XS.aload X.here hx rfl hd hl hv k) h
theorem Gz.astore (n : Nat) (l' : Array Slot) {k : Nat} {v : Value} (X : Stand p l e R s m args below meth c T locs cells slots) (hx : p.tables.exec = Jvm.exec) (hd : decode c.code pc = .ok (.astore k, 2)) (hl : storeLocals Ls k v = some l') (hv : v.isRef = true) (q : pc + 2 = n) (h : Gz p e below s C N Q (T.setTop (mkF m n l' st))) : Gz p e below s C N Q (T.setTop (mkF m pc Ls (v :: st))) := by subst q; exact Gz.st (fun t k => XS.astore X.here hx rfl hd rfl hv hl k) h
theorem Gz.iconst (n : Nat) (v : Int32) (X : Stand p l e R s m args below meth c T locs cells slots) (hx : p.tables.exec = Jvm.exec) {i : Int} (hd : decode c.code pc = .ok (.iconst i, 1)) (hv : Int32.ofInt i = v) (q : pc + 1 = n) (h : Gz p e below s C N Q (T.setTop (mkF m n Ls (.int v :: st)))) : Gz p e below s C N Q (T.setTop (mkF m pc Ls st)) := by subst q hv; exact Gz.st (fun t k => XS.iconst X.here hx rfl hd k) h
theorem Gz.iadd (n : Nat) {x y : Int32} (X : Stand p l e R s m args below meth c T locs cells slots) (hx : p.tables.exec = Jvm.exec) (hd : decode c.code pc = .ok (.iadd, 1))  (q : pc + 1 = n) (h : Gz p e below s C N Q (T.setTop (mkF m n Ls (.int (x + y) :: st)))) : Gz p e below s C N Q (T.setTop (mkF m pc Ls (.int y :: .int x :: st))) := by subst q; exact Gz.st (fun t k => XS.iadd X.here hx rfl hd rfl k) h
theorem Gz.lmul (n : Nat) {x y : Int64} (X : Stand p l e R s m args below meth c T locs cells slots) (hx : p.tables.exec = Jvm.exec) (hd : decode c.code pc = .ok (.lmul, 1))  (q : pc + 1 = n) (h : Gz p e below s C N Q (T.setTop (mkF m n Ls (.long (x * y) :: st)))) : Gz p e below s C N Q (T.setTop (mkF m pc Ls (.long y :: .long x :: st))) := by subst q; exact Gz.st (fun t k => XS.lmul X.here hx rfl hd rfl k) h
theorem Gz.iand (n : Nat) {x y : Int32} (X : Stand p l e R s m args below meth c T locs cells slots) (hx : p.tables.exec = Jvm.exec) (hd : decode c.code pc = .ok (.iand, 1))  (q : pc + 1 = n) (h : Gz p e below s C N Q (T.setTop (mkF m n Ls (.int (x &&& y) :: st)))) : Gz p e below s C N Q (T.setTop (mkF m pc Ls (.int y :: .int x :: st))) := by subst q; exact Gz.st (fun t k => XS.iand X.here hx rfl hd rfl k) h
theorem Gz.i2l (n : Nat) {x : Int32} (X : Stand p l e R s m args below meth c T locs cells slots) (hx : p.tables.exec = Jvm.exec) (hd : decode c.code pc = .ok (.i2l, 1))  (q : pc + 1 = n) (h : Gz p e below s C N Q (T.setTop (mkF m n Ls (.long (x.toInt64) :: st)))) : Gz p e below s C N Q (T.setTop (mkF m pc Ls (.int x :: st))) := by subst q; exact Gz.st (fun t k => XS.i2l X.here hx rfl hd rfl k) h
theorem Gz.i2lV (n : Nat) (z : Int64) (X : Stand p l e R s m args below meth c T locs cells slots) (hx : p.tables.exec = Jvm.exec) {x : Int32} (hd : decode c.code pc = .ok (.i2l, 1)) (hz : (x.toInt64) = z) (q : pc + 1 = n) (h : Gz p e below s C N Q (T.setTop (mkF m n Ls (.long z :: st)))) : Gz p e below s C N Q (T.setTop (mkF m pc Ls (.int x :: st))) := by subst hz; exact Gz.i2l n X hx hd q h
theorem Gz.iinc (n : Nat) (l' : Array Slot) (X : Stand p l e R s m args below meth c T locs cells slots) (hx : p.tables.exec = Jvm.exec) {k : Nat} {i : Int} {x : Int32} (hd : decode c.code pc = .ok (.iinc k i, 3)) (hl : Ls[k]? = some (.val (.int x))) (hl' : storeLocals Ls k (.int (x + Int32.ofInt i)) = some l') (q : pc + 3 = n) (h : Gz p e below s C N Q (T.setTop (mkF m n l' st))) : Gz p e below s C N Q (T.setTop (mkF m pc Ls st)) := by subst q; exact Gz.st (fun t k => XS.iinc X.here hx rfl hd hl hl' k) h
theorem Gz.goto (n : Nat) (X : Stand p l e R s m args below meth c T locs cells slots) (hx : p.tables.exec = Jvm.exec) {o : Int} (hd : decode c.code pc = .ok (.goto o, 3)) (ho : 0 ≤ (pc : Int) + o) (q : ((pc : Int) + o).toNat = n) (h : Gz p e below s C N Q (T.setTop (mkF m n Ls st))) : Gz p e below s C N Q (T.setTop (mkF m pc Ls st)) := Gz.st (fun t k => XS.goto X.here hx rfl (pc0 := pc) (pc' := n) rfl hd ho q k) h
theorem Gz.ifNo (n : Nat) (X : Stand p l e R s m args below meth c T locs cells slots) (hx : p.tables.exec = Jvm.exec) {cd : ClassFile.Cond} {x : Int32} {o : Int} (hd : decode c.code pc = .ok (.ifCond cd o, 3)) (hc : ifCond.holds cd x = false) (q : pc + 3 = n) (h : Gz p e below s C N Q (T.setTop (mkF m n Ls st))) : Gz p e below s C N Q (T.setTop (mkF m pc Ls (.int x :: st))) := by subst q; exact Gz.st (fun t k => XS.ifNo X.here hx rfl hd rfl hc k) h
theorem Gz.icmpYes (n : Nat) (X : Stand p l e R s m args below meth c T locs cells slots) (hx : p.tables.exec = Jvm.exec) {cd : ClassFile.Cond} {x y : Int32} {o : Int} (hd : decode c.code pc = .ok (.if_icmp cd o, 3)) (hc : if_icmp.holds cd x y = true) (ho : 0 ≤ (pc : Int) + o) (q : ((pc : Int) + o).toNat = n) (h : Gz p e below s C N Q (T.setTop (mkF m n Ls st))) : Gz p e below s C N Q (T.setTop (mkF m pc Ls (.int y :: .int x :: st))) := Gz.st (fun t k => XS.icmpYes X.here hx rfl (pc0 := pc) (pc' := n) rfl hd rfl hc ho q k) h
theorem Gz.icmpNo (n : Nat) (X : Stand p l e R s m args below meth c T locs cells slots) (hx : p.tables.exec = Jvm.exec) {cd : ClassFile.Cond} {x y : Int32} {o : Int} (hd : decode c.code pc = .ok (.if_icmp cd o, 3)) (hc : if_icmp.holds cd x y = false) (q : pc + 3 = n) (h : Gz p e below s C N Q (T.setTop (mkF m n Ls st))) : Gz p e below s C N Q (T.setTop (mkF m pc Ls (.int y :: .int x :: st))) := by subst q; exact Gz.st (fun t k => XS.icmpNo X.here hx rfl hd rfl hc k) h
theorem Gz.i2d (n : Nat) (X : Stand p l e R s m args below meth c T locs cells slots) (hx : p.tables.exec = Jvm.exec) {x : Int32} (hd : decode c.code pc = .ok (.i2d, 1)) (q : pc + 1 = n) (h : Gz p e below s C N Q (T.setTop (mkF m n Ls (.double (FP.i2d x) :: st)))) : Gz p e below s C N Q (T.setTop (mkF m pc Ls (.int x :: st))) := by subst q; exact Gz.st (fun t k => XS.i2dS X.here hx rfl hd rfl rfl k) h
theorem Gz.l2d (n : Nat) (X : Stand p l e R s m args below meth c T locs cells slots) (hx : p.tables.exec = Jvm.exec) {x : Int64} (hd : decode c.code pc = .ok (.l2d, 1)) (q : pc + 1 = n) (h : Gz p e below s C N Q (T.setTop (mkF m n Ls (.double (FP.l2d x) :: st)))) : Gz p e below s C N Q (T.setTop (mkF m pc Ls (.long x :: st))) := by subst q; exact Gz.st (fun t k => XS.l2dS X.here hx rfl hd rfl rfl k) h
theorem Gz.dcmp (n : Nat) (X : Stand p l e R s m args below meth c T locs cells slots) (hx : p.tables.exec = Jvm.exec) {o : CmpOp} {x y : UInt64} (hd : decode c.code pc = .ok (.dcmp o, 1)) (q : pc + 1 = n) (h : Gz p e below s C N Q (T.setTop (mkF m n Ls (.int (cmpValue (FP.dcmp x y) o) :: st)))) : Gz p e below s C N Q (T.setTop (mkF m pc Ls (.double y :: .double x :: st))) := by subst q; exact Gz.st (fun t k => XS.dcmpS X.here hx rfl hd rfl rfl k) h
theorem Gz.ddiv (n : Nat) (X : Stand p l e R s m args below meth c T locs cells slots) (hx : p.tables.exec = Jvm.exec) {x y : UInt64} (hd : decode c.code pc = .ok (.ddiv, 1)) (hn : Jvm.Free.Fl.NoNaN64 (FP.ddiv x y)) (q : pc + 1 = n) (h : Gz p e below s C N Q (T.setTop (mkF m n Ls (.double (FP.ddiv x y) :: st)))) : Gz p e below s C N Q (T.setTop (mkF m pc Ls (.double y :: .double x :: st))) := by subst q; exact Gz.st (fun t k => XS.ddivS X.here hx rfl hd rfl hn rfl k) h
theorem Gz.stD (n : Nat) (X : Stand p l e R s m args below meth c T locs cells slots) (hx : p.tables.exec = Jvm.exec) (hZ : Z.Warmed39 s.vm) {a : Addr} {cl : Cell} {j : Int32} {x : UInt64} (hd : decode c.code pc = .ok (.dastore, 1)) (eT : T.heap = hh) (A : Arr Z hh a cl .double) (hj : ¬ (j < 0 ∨ cl.slots.size ≤ j.toNatClampNeg)) (q : pc + 1 = n) (h : ∀ T' h', Stand p l e R s m args below meth c T' (locs ++ [⟨a, j.toNatClampNeg⟩]) (cells) (slots) → T'.heap = h' → Wr hh h' a j.toNatClampNeg (.double x) → Gz p e below s C N Q (T'.setTop (mkF m n Ls st))) : Gz p e below s C N Q (T.setTop (mkF m pc Ls (.double x :: .int j :: .ref a :: st))) := by
  subst q
  obtain ⟨T', h', X', e', W, st'⟩ := Jvm.RoadKit.stD X hx hZ eT A (j := j) hj (g := mkF m pc Ls (.double x :: .int j :: .ref a :: st)) rfl rfl hd
  exact Gz.st st' (h T' h' X' e' W)
theorem Gz.ldD (n : Nat) (X : Stand p l e R s m args below meth c T locs cells slots) (hx : p.tables.exec = Jvm.exec) (hZ : Z.Warmed39 s.vm) {a : Addr} {cl : Cell} {j : Int32} {v : Value} (hd : decode c.code pc = .ok (.daload, 1)) (eT : T.heap = hh) (A : Arr Z hh a cl .double) (hj : ¬ (j < 0 ∨ cl.slots.size ≤ j.toNatClampNeg)) (hv : cl.slots[j.toNatClampNeg]? = some v) (q : pc + 1 = n) (h : Gz p e below s C N Q (T.setTop (mkF m n Ls (v :: st)))) : Gz p e below s C N Q (T.setTop (mkF m pc Ls (.int j :: .ref a :: st))) := by
  subst q
  exact Gz.st (X.daload hx (j := j) (v := v) (by rw [eT]; exact A.1) (State.isArrayOf_alike hZ.alike A.2.1) A.2.2 hj hv (g := mkF m pc Ls (.int j :: .ref a :: st)) rfl rfl hd) h
theorem Gz.alen (n : Nat) (X : Stand p l e R s m args below meth c T locs cells slots) (hx : p.tables.exec = Jvm.exec) (hZ : Z.Warmed39 s.vm) {a : Addr} {cl : Cell} {z : Int32} {ty : FieldType} (hd : decode c.code pc = .ok (.arraylength, 1)) (eT : T.heap = hh) (A : Arr Z hh a cl ty) (hs : cl.slots.size = z.toNatClampNeg) (hz : ¬ z < 0) (q : pc + 1 = n) (h : Gz p e below s C N Q (T.setTop (mkF m n Ls (.int z :: st)))) : Gz p e below s C N Q (T.setTop (mkF m pc Ls (.ref a :: st))) := by
  subst q
  refine Gz.st (X.arraylength hx (by rw [eT]; exact A.1) (State.isArrayOf_alike hZ.alike A.2.1) (g := mkF m pc Ls (.ref a :: st)) rfl rfl hd) ?_
  rw [len_of hs hz]
  exact h
theorem Gz.enter {g g' : JFrame} (q : g = g') (h : Gz p e below s C N Q (T.setTop g')) : Gz p e below s C N Q (T.setTop g) := q ▸ h
theorem Gz.fin (X : Stand p l e R s m args below meth c T locs cells slots) {v : Option Value} (hv : meth.sig.returnType = none → v = none) (hlocks : meth.locks = false) (hc : cells ≤ C) (hn : slots ≤ N)
    (hst : ∀ fs, (∀ (f : JFrame) (acts : List Action), f.method = m → f.locked = none → f.entered = [] → (doReturn e (T.setTop f) acts v).1 = T.setFrames fs) → Steps p.tables e below S (T.setFrames fs)) (hq : Q v T.heap locs) : Gz p e below s C N Q S := by
  obtain ⟨fs, hr, hrun, hended, hW, hsame⟩ := X.leave hv hlocks
  exact ⟨_, _, hst fs hr, hrun, hended, _, _, rfl, hq, ⟨_, rfl⟩, hW, hsame.mono hc hn⟩
theorem retNV (X : Stand p l e R s m args below meth c T locs cells slots) (hx : p.tables.exec = Jvm.exec) {pc : Nat} {Ls : Array Slot} {z w : Int32} {t : FieldType} {rest : List Value} (hret : meth.sig.returnType = some t) (ht : t = .boolean ∨ t = .byte ∨ t = .char ∨ t = .short)
    (hd : decode c.code pc = .ok (.ireturn, 1)) {fs : List Frame} (hl : ∀ (f : JFrame) (acts : List Action), f.method = m → f.locked = none → f.entered = [] → (doReturn e (T.setTop f) acts (some (.int w))).1 = T.setFrames fs) (hw : nar t z = w) :
    Steps p.tables e below (T.setTop (mkF m pc Ls (.int z :: rest))) (T.setFrames fs) := by subst hw; exact retN X hx hret ht hd hl
theorem own_nb (x : Int32) : nar .byte (x.toInt8.toInt32) = x.toInt8.toInt32 := by show (x.toInt8.toInt32).toInt8.toInt32 = _; simp
theorem lt_irr (x : Int32) : ¬ x < x := Int32.lt_irrefl
theorem own_rl {a z r j : Nat} (h : a < z) (q : r = z + 1 + j) : a ≠ r := by omega
theorem own_ro {x z r j : Nat} (h : x = z) (q : r = z + 1 + j) : x ≠ r := by omega
theorem own_rr {z a b i j : Nat} (h : a = z + 1 + i) (q : b = z + 1 + j) (w : i ≠ j) : a ≠ b := by omega
theorem own_rg {n z r j : Nat} (h : n ≤ z) (q : r = z + 1 + j) : n ≤ r := by omega
theorem own_selp {a0 : Array Value} {y y' : MethodName} (hsame : y'.cls = y.cls) (hsel : (Cond.selects y'.cls y' y').before a0 s = true) (hi' : (Cond.instanceMethod y').before a0 s = true) (hi : (Cond.instanceMethod y).before a0 s = true) (hp : s.PrivateAt y) (hy : y.cls ≠ "java/lang/invoke/MethodHandle" ∧ y.cls ≠ "java/lang/invoke/VarHandle") : (Cond.selects y.cls y y).before a0 s = true := by
  obtain ⟨mk, methM, hn, hm, -, -⟩ := Cond.instanceMethod_spec hi'
  obtain ⟨kr, hkr, hni⟩ := notFace_of_selects hsel mk hn
  exact selects_self_of_private (hsame ▸ findClass_of_methodNamed hn) hkr hni hp hi hy
def NSt (h : Heap) (w : Addr) : Prop := ∀ cell : Cell, h[w]? = some cell → cell.vm.isStatics = false
theorem nst_of {Z : State} {h : Heap} {w : Addr} {K : String} (E : Exa Z h w K) : NSt h w := fun cell hc => by
  obtain ⟨c', k, h1, h2, h3, h4, -⟩ := E
  cases hc.symm.trans h1
  exact h4
theorem own_staK {Z : State} {h h' : Heap} {ws : List Addr} {K n d : String} {v : Value} (F : Sta Z h K n d v) (KK : Keep h h' ws) (q : ∀ w ∈ ws, NSt h w) : Sta Z h' K n d v := by
  obtain ⟨cf, i, k, f, a, cell, h1, h2, h3, h4, h5, h6, h7⟩ := F
  refine ⟨cf, i, k, f, a, cell, h1, h2, h3, h4, KK.2.1 a cell h5 fun hm => ?_, h6, h7⟩
  have := q a hm cell h5
  rw [h6] at this
  cases this
/-- a call of a method that the named class inherits, by the contract of the one that declares it -/
theorem own_upBack (X : Stand p l e R s m args below meth c T locs cells slots) (hx : p.tables.exec = Jvm.exec) {own K owner : String} {index : Nat} {y : MethodName} (hown : s.vm.findClass own = some m.cls) (w1 : (Cond.methodLink own index y).before args s = true) (w2 : (Cond.sameMethod y.cls owner y.name y.desc).before args s = true) (ho : owner ≠ "java/lang/invoke/MethodHandle" ∧ owner ≠ "java/lang/invoke/VarHandle")
    (w3 : (Cond.declares ⟨owner, y.name, y.desc⟩).before args s = true) (w4 : (Cond.selects K y ⟨owner, y.name, y.desc⟩).before args s = true) (w5 : (Cond.instanceMethod ⟨owner, y.name, y.desc⟩).before args s = true)
    {W : Nat} {Pre : Pt → Array Value → Prop} {Post : Pt → Array Value → Option Value → Pt → Prop} (hK : Back l R p e below s args ⟨owner, y.name, y.desc⟩ 3 W Pre Post)
    {b : Addr} {cB : ClassId} (hcB : s.vm.findClass K = some cB) (hb : IsOf cB T b) {g : JFrame} (hg : g.method = m) (hsize : g.locals.size = c.maxLocals) {argsL rest : List Value}
    (hlen : ∀ sig, parseMethodDescriptor y.desc = some sig → argsL.length = sig.parameters.length) (hstack : g.stack = argsL.reverse ++ .ref b :: rest) (hW : 2 * g.monitorRoom + (rest.map fun v => v.category).sum ≤ W)
    (hd : decode c.code g.pc = .ok (.invokevirtual index, 3)) (hpre : ∀ vm₁, s.WarmedH vm₁ → Pre ⟨T.setVm vm₁, locs, cells, slots⟩ (.ref b :: argsL).toArray) :
    ∃ (v : Option Value) (vm₁ : Vm) (B : Pt), s.WarmedH vm₁ ∧ Stand p l e R s m args below meth c B.U B.locs B.cells B.slots ∧ Post ⟨T.setVm vm₁, locs, cells, slots⟩ (.ref b :: argsL).toArray v B ∧
      Steps p.tables e below (T.setTop g) (B.U.setTop { g with pc := g.pc + 3, stack := v.toList ++ rest }) := by
  obtain ⟨cell, hc1, hc2, hc3⟩ := hb
  obtain ⟨r0, r, n0, hr0, st0, sig0⟩ := Cond.declares_spec w3
  obtain ⟨mk, mm, nk, hmk, -, abk⟩ := Cond.instanceMethod_spec w5
  obtain ⟨cn, ck, r1, f1, f2, f3, f4, f5⟩ := Cond.sameMethod_found w2
  obtain ⟨c2, r2, m2, q1, q2, q3, q4, kP, k1, k2⟩ := Cond.selects_spec w4
  obtain rfl : r0 = mk := Option.some.inj (n0.symm.trans nk)
  obtain rfl : r0 = r1 := Option.some.inj (n0.symm.trans f5)
  obtain rfl : r0 = r2 := Option.some.inj (f4.symm.trans q2)
  obtain rfl : r0 = m2 := Option.some.inj (n0.symm.trans q3)
  obtain rfl : cB = c2 := Option.some.inj (hcB.symm.trans q1)
  obtain ⟨vm₁, X₁, st₁⟩ := X.invokevirtualUp hx hown w1 w2 ho n0 hr0 st0 hc1 (fun z h => by rw [h] at hc3; cases hc3) (by rw [Launch.admits_selectMethod X.admits, hc2]; exact q4) hmk abk k1 k2 hg (argsL := argsL) (rest := rest) (hlen _ sig0) hstack hd
  obtain ⟨v, B, X', hp, hs⟩ := hK m meth c ⟨T.setVm vm₁, locs, cells, slots⟩ { g with stack := rest } (.invokevirtual index) r0 (.ref b :: argsL).toArray X₁ hg hsize hd hW (X₁.named n0) (hpre vm₁ X₁.warmed)
  exact ⟨v, vm₁, B, X₁.warmed, X', hp, (st₁ _ fun acts => by rw [doInvoke_state]; exact Steps.refl _).trans hs⟩
theorem own_fldI {a0 : Array Value} {Z : State} {t : Term} {a : Addr} {C n d : String} {k : Int32} (ev : t.eval a0 Z none [] Z = some (.ref a)) (h : (Cond.eq (.field t C n d) (.int k)).value a0 Z none Z [] = some true) : Fld Z Z.heap a C n d (.int k) := by
  obtain ⟨x, y, e1, e2, k1, k2⟩ := cmp_v (Or.inl h)
  cases Option.some.inj (e2.symm.trans (Term.int_eval k))
  obtain ⟨z, rfl⟩ := k2
  have q := gotT (Cond.eq_ints e1 (Term.int_eval k)) h
  subst q
  rw [fld_at ev] at e1
  exact Fld.start e1
theorem own_len {a0 : Array Value} {Z : State} {t : Term} {a : Addr} {cl : Cell} {ty : FieldType} {z : Int32} (ev : t.eval a0 Z none [] Z = some (.ref a)) (A : Arr Z Z.heap a cl ty) (h : (Cond.eq (.length t) (.int z)).value a0 Z none Z [] = some true) : cl.slots.size < 2 ^ 31 ∧ cl.slots.size.toInt32 = z := by
  obtain ⟨x, y, e1, e2, k1, k2⟩ := cmp_v (Or.inl h)
  obtain ⟨b, cell, f1, f2, f3, f4⟩ := Jvm.Lib.length_spec e1
  cases Option.some.inj (ev.symm.trans f1)
  cases f2.symm.trans (Arr.fin (U := Z) (Vm.Alike.refl _) A)
  subst f4
  exact ⟨f3, gotT (Cond.eq_ints e1 (Term.int_eval z)) h⟩
theorem own_el {a0 : Array Value} {Z : State} {t : Term} {a : Addr} {cl : Cell} {ty : FieldType} {j v : Int32} (ev : t.eval a0 Z none [] Z = some (.ref a)) (A : Arr Z Z.heap a cl ty) (h : (Cond.eq (.elem t (.int j)) (.int v)).value a0 Z none Z [] = some true) : cl.slots[j.toNatClampNeg]? = some (.int v) := by
  obtain ⟨x, y, e1, e2, k1, k2⟩ := cmp_v (Or.inl h)
  cases Option.some.inj (e2.symm.trans (Term.int_eval v))
  obtain ⟨z, rfl⟩ := k2
  have q := gotT (Cond.eq_ints e1 (Term.int_eval v)) h
  subst q
  exact (elem_in e1 ev (Term.int_eval j) A.1).2
end New
end Jvm.RoadKit
namespace Jvm.Pilot.@@N@@
open Jvm Jvm.ClassFile Sem Op Lib Jvm.Free Jvm.Stand Jvm.LawKit Jvm.RoadKit Bundle Jvm.Pilot.@@N@@.Jvm.D
theorem ww {av : Array Value} {Z : State} (hw : ∀ d ∈ tables_1, d.before av Z = true) (i : Nat) {d : Jvm.Cond} (h : tables_1[i]? = some d) : d.before av Z = true := hw _ (List.mem_of_getElem? h)
theorem own_nat (z : Int32) (n : Nat) (hn : n ≤ 2147483648) (h0 : 0 ≤ z.toInt) (h1 : z.toInt < n) : ∃ k : Nat, k < n ∧ z = Int32.ofNat k := by
  refine ⟨z.toInt.toNat, by omega, ?_⟩
  apply Int32.toInt_inj.mp
  rw [Int32.toInt_ofNat_of_lt (by omega)]
  omega
theorem own_i2c (z : Int32) (h0 : 0 ≤ z.toInt) (h1 : z.toInt < 65536) : z.toUInt32.toUInt16.toUInt32.toInt32 = z := by
  apply Int32.toInt_inj.mp
  have := c_i2c z
  omega
theorem own_asym32 {x y : Int32} (h : y < x) : ¬ x < y := fun q => by rw [Int32.lt_iff_toInt_lt] at *; omega
theorem own_asym64 {x y : Int64} (h : y < x) : ¬ x < y := fun q => by rw [Int64.lt_iff_toInt_lt] at *; omega
theorem own_irr32 {x y : Int32} (h : x = y) : ¬ x < y := fun q => by rw [Int32.lt_iff_toInt_lt] at *; subst h; omega
theorem own_irr64 {x y : Int64} (h : x = y) : ¬ x < y := fun q => by rw [Int64.lt_iff_toInt_lt] at *; subst h; omega
theorem own_tri32 {x y : Int32} (h : ¬ y < x) (g : ¬ x = y) : x < y := by
  rw [← Int32.toInt_inj] at g; rw [Int32.lt_iff_toInt_lt] at *; omega
theorem own_tri64 {x y : Int64} (h : ¬ y < x) (g : ¬ x = y) : x < y := by
  rw [← Int64.toInt_inj] at g; rw [Int64.lt_iff_toInt_lt] at *; omega
theorem own_nlt32 {x y : Int32} (h : x < y) : ¬ x = y := fun q => own_irr32 q h
theorem own_nlt64 {x y : Int64} (h : x < y) : ¬ x = y := fun q => own_irr64 q h
theorem own_ngt32 {x y : Int32} (h : y < x) : ¬ x = y := fun q => own_irr32 q.symm h
theorem own_ngt64 {x y : Int64} (h : y < x) : ¬ x = y := fun q => own_irr64 q.symm h
theorem own_both32 {x y : Int32} (h : ¬ x < y) (g : ¬ y < x) : x = y := by
  rw [← Int32.toInt_inj]; rw [Int32.lt_iff_toInt_lt] at *; omega
theorem own_both64 {x y : Int64} (h : ¬ x < y) (g : ¬ y < x) : x = y := by
  rw [← Int64.toInt_inj]; rw [Int64.lt_iff_toInt_lt] at *; omega
theorem own_rem (z d : Int32) (hd : d ≠ 0) (h0 : 0 ≤ z.toInt) (n : Nat) (hn : d.toInt = n) (hn2 : n ≤ 2147483648) : ∃ k : Nat, k < n ∧ z % d = Int32.ofNat k := by
  have hr := c_irem z d n hn
  have hn0 : n ≠ 0 := fun q => hd (Int32.toInt_inj.mp (by rw [hn, q]; rfl))
  have h1 := hr.1 h0
  have h2 : 0 ≤ z.toInt % (n : Int) := Int.emod_nonneg _ (by omega)
  have h3 : z.toInt % (n : Int) < n := Int.emod_lt_of_pos _ (by omega)
  exact own_nat _ n hn2 (by omega) (by omega)
theorem own_ALt32 {e j k : Int32} (h : e < j) (q : j.toInt ≤ k.toInt) : e < k := by
  rw [Int32.lt_iff_toInt_lt] at *; omega
theorem own_AGf32 {e j k : Int32} (h : e < j) (q : j.toInt ≤ k.toInt + 1) : ¬ k < e := by
  rw [Int32.lt_iff_toInt_lt] at *; omega
theorem own_AEf32 {e j k : Int32} (h : e < j) (q : j.toInt ≤ k.toInt) : ¬ e = k := by
  intro z; subst z; rw [Int32.lt_iff_toInt_lt] at h; omega
theorem own_BLf32 {e j k : Int32} (h : ¬ e < j) (q : k.toInt ≤ j.toInt) : ¬ e < k := by
  rw [Int32.lt_iff_toInt_lt] at *; omega
theorem own_BGt32 {e j k : Int32} (h : ¬ e < j) (q : k.toInt < j.toInt) : k < e := by
  rw [Int32.lt_iff_toInt_lt] at *; omega
theorem own_BEf32 {e j k : Int32} (h : ¬ e < j) (q : k.toInt < j.toInt) : ¬ e = k := by
  intro z; subst z; rw [Int32.lt_iff_toInt_lt] at h; omega
theorem own_CLf32 {e j k : Int32} (h : j < e) (q : k.toInt ≤ j.toInt + 1) : ¬ e < k := by
  rw [Int32.lt_iff_toInt_lt] at *; omega
theorem own_CGt32 {e j k : Int32} (h : j < e) (q : k.toInt ≤ j.toInt) : k < e := by
  rw [Int32.lt_iff_toInt_lt] at *; omega
theorem own_CEf32 {e j k : Int32} (h : j < e) (q : k.toInt ≤ j.toInt) : ¬ e = k := by
  intro z; subst z; rw [Int32.lt_iff_toInt_lt] at h; omega
theorem own_DLt32 {e j k : Int32} (h : ¬ j < e) (q : j.toInt < k.toInt) : e < k := by
  rw [Int32.lt_iff_toInt_lt] at *; omega
theorem own_DGf32 {e j k : Int32} (h : ¬ j < e) (q : j.toInt ≤ k.toInt) : ¬ k < e := by
  rw [Int32.lt_iff_toInt_lt] at *; omega
theorem own_DEf32 {e j k : Int32} (h : ¬ j < e) (q : j.toInt < k.toInt) : ¬ e = k := by
  intro z; subst z; rw [Int32.lt_iff_toInt_lt] at h; omega
theorem own_eqEt32 {e j k : Int32} (h : e = j) (q : j = k) : e = k := by rw [h]; exact q
theorem own_eqEf32 {e j k : Int32} (h : e = j) (q : ¬ j = k) : ¬ e = k := by rw [h]; exact q
theorem own_eqLt32 {e j k : Int32} (h : e = j) (q : j < k) : e < k := by rw [h]; exact q
theorem own_eqLf32 {e j k : Int32} (h : e = j) (q : ¬ j < k) : ¬ e < k := by rw [h]; exact q
theorem own_eqGt32 {e j k : Int32} (h : e = j) (q : k < j) : k < e := by rw [h]; exact q
theorem own_eqGf32 {e j k : Int32} (h : e = j) (q : ¬ k < j) : ¬ k < e := by rw [h]; exact q
theorem own_ALt64 {e j k : Int64} (h : e < j) (q : j.toInt ≤ k.toInt) : e < k := by
  rw [Int64.lt_iff_toInt_lt] at *; omega
theorem own_AGf64 {e j k : Int64} (h : e < j) (q : j.toInt ≤ k.toInt + 1) : ¬ k < e := by
  rw [Int64.lt_iff_toInt_lt] at *; omega
theorem own_AEf64 {e j k : Int64} (h : e < j) (q : j.toInt ≤ k.toInt) : ¬ e = k := by
  intro z; subst z; rw [Int64.lt_iff_toInt_lt] at h; omega
theorem own_BLf64 {e j k : Int64} (h : ¬ e < j) (q : k.toInt ≤ j.toInt) : ¬ e < k := by
  rw [Int64.lt_iff_toInt_lt] at *; omega
theorem own_BGt64 {e j k : Int64} (h : ¬ e < j) (q : k.toInt < j.toInt) : k < e := by
  rw [Int64.lt_iff_toInt_lt] at *; omega
theorem own_BEf64 {e j k : Int64} (h : ¬ e < j) (q : k.toInt < j.toInt) : ¬ e = k := by
  intro z; subst z; rw [Int64.lt_iff_toInt_lt] at h; omega
theorem own_CLf64 {e j k : Int64} (h : j < e) (q : k.toInt ≤ j.toInt + 1) : ¬ e < k := by
  rw [Int64.lt_iff_toInt_lt] at *; omega
theorem own_CGt64 {e j k : Int64} (h : j < e) (q : k.toInt ≤ j.toInt) : k < e := by
  rw [Int64.lt_iff_toInt_lt] at *; omega
theorem own_CEf64 {e j k : Int64} (h : j < e) (q : k.toInt ≤ j.toInt) : ¬ e = k := by
  intro z; subst z; rw [Int64.lt_iff_toInt_lt] at h; omega
theorem own_DLt64 {e j k : Int64} (h : ¬ j < e) (q : j.toInt < k.toInt) : e < k := by
  rw [Int64.lt_iff_toInt_lt] at *; omega
theorem own_DGf64 {e j k : Int64} (h : ¬ j < e) (q : j.toInt ≤ k.toInt) : ¬ k < e := by
  rw [Int64.lt_iff_toInt_lt] at *; omega
theorem own_DEf64 {e j k : Int64} (h : ¬ j < e) (q : j.toInt < k.toInt) : ¬ e = k := by
  intro z; subst z; rw [Int64.lt_iff_toInt_lt] at h; omega
theorem own_eqEt64 {e j k : Int64} (h : e = j) (q : j = k) : e = k := by rw [h]; exact q
theorem own_eqEf64 {e j k : Int64} (h : e = j) (q : ¬ j = k) : ¬ e = k := by rw [h]; exact q
theorem own_eqLt64 {e j k : Int64} (h : e = j) (q : j < k) : e < k := by rw [h]; exact q
theorem own_eqLf64 {e j k : Int64} (h : e = j) (q : ¬ j < k) : ¬ e < k := by rw [h]; exact q
theorem own_eqGt64 {e j k : Int64} (h : e = j) (q : k < j) : k < e := by rw [h]; exact q
theorem own_eqGf64 {e j k : Int64} (h : e = j) (q : ¬ k < j) : ¬ k < e := by rw [h]; exact q
theorem own_absS {s : Bool} {C : Nat} {i : Int} {k : Nat} (h : Jvm.FP.Core.signed s C = i * (k : Int)) : C = i.natAbs * k := by
  have h2 := congrArg Int.natAbs h
  rw [Int.natAbs_mul, Int.natAbs_natCast] at h2
  rw [← h2]
  cases s <;> simp [Jvm.FP.Core.signed]
theorem own_pw {c d A N M : Nat} {q r : Int} (hM : M = N * A) (hN : 0 < N) (h1 : c * 2 ^ q.toNat = M * 2 ^ (-q).toNat) (h2 : d * 2 ^ r.toNat = N * 2 ^ (-r).toNat) : c * 1 * 2 ^ ((q - r) - 0).toNat = A * d * 2 ^ (0 - (q - r)).toNat := by
  subst hM
  obtain ⟨t, e1, e2⟩ : ∃ t, q.toNat + (-r).toNat = ((q - r) - 0).toNat + t ∧ (-q).toNat + r.toNat = (0 - (q - r)).toNat + t := by
    by_cases h : 0 ≤ q - r
    · exact ⟨(-q).toNat + r.toNat, by omega, by omega⟩
    · exact ⟨q.toNat + (-r).toNat, by omega, by omega⟩
  have k : c * 2 ^ (q.toNat + (-r).toNat) * N = A * d * 2 ^ ((-q).toNat + r.toNat) * N := by
    rw [Nat.pow_add, Nat.pow_add]
    calc c * (2 ^ q.toNat * 2 ^ (-r).toNat) * N = (c * 2 ^ q.toNat) * (N * 2 ^ (-r).toNat) := by ac_rfl
      _ = (N * A * 2 ^ (-q).toNat) * (d * 2 ^ r.toNat) := by rw [h1, h2]
      _ = A * d * (2 ^ (-q).toNat * 2 ^ r.toNat) * N := by ac_rfl
  rw [e1, e2, Nat.pow_add, Nat.pow_add] at k
  have k2 : (c * 1 * 2 ^ ((q - r) - 0).toNat) * (2 ^ t * N) = (A * d * 2 ^ (0 - (q - r)).toNat) * (2 ^ t * N) := by
    rw [Nat.mul_one]
    calc c * 2 ^ ((q - r) - 0).toNat * (2 ^ t * N) = c * (2 ^ ((q - r) - 0).toNat * 2 ^ t) * N := by ac_rfl
      _ = A * d * (2 ^ (0 - (q - r)).toNat * 2 ^ t) * N := k
      _ = A * d * 2 ^ (0 - (q - r)).toNat * (2 ^ t * N) := by ac_rfl
  exact Nat.eq_of_mul_eq_mul_right (Nat.mul_pos (Nat.two_pow_pos t) hN) k2
theorem own_div {n a : Int64} (hn : 0 < n.toInt) (hn4 : n.toInt ≤ 4) (h1 : -2147483648 ≤ a.toInt) (h2 : a.toInt < 2147483648) : FP.ddiv (FP.l2d (n * a)) (FP.l2d n) = FP.l2d a := by
  have hb : -9007199254740992 < n.toInt * a.toInt ∧ n.toInt * a.toInt < 9007199254740992 := by
    have : n.toInt = 1 ∨ n.toInt = 2 ∨ n.toInt = 3 ∨ n.toInt = 4 := by omega
    rcases this with q | q | q | q <;> rw [q] <;> omega
  have hm : (n * a).toInt = n.toInt * a.toInt := by rw [Int64.toInt_mul]; exact Int.bmod_eq_of_le (by omega) (by omega)
  have wm := Jvm.FP.Core.l2d_whole (a := n * a) ⟨by omega, by omega⟩
  have wn := Jvm.FP.Core.l2d_whole (a := n) ⟨by omega, by omega⟩
  obtain ⟨c, q, em⟩ := Jvm.FP.Core.l2d_shape (n * a)
  obtain ⟨d, r, en⟩ := Jvm.FP.Core.l2d_shape n
  rw [em] at wm
  rw [en] at wn
  have k1 := own_absS wm
  have k2 := own_absS wn
  have hd : d ≠ 0 := by
    intro z
    rw [z, Nat.zero_mul] at k2
    have := Nat.two_pow_pos (-r).toNat
    have h3 : 0 < n.toInt.natAbs := by omega
    have := Nat.mul_pos h3 this
    omega
  have hs : decide ((n * a).toInt < 0) = decide (a.toInt < 0) := by
    have : n.toInt = 1 ∨ n.toInt = 2 ∨ n.toInt = 3 ∨ n.toInt = 4 := by omega
    rw [hm]
    rcases this with q | q | q | q <;> rw [q] <;> simp <;> omega
  have hz : decide (n.toInt < 0) = false := by simp; omega
  have hv : Jvm.FP.Core.val64 (FP.ddiv (FP.l2d (n * a)) (FP.l2d n)) = Jvm.FP.Core.val64 (FP.l2d a) := by
    show Jvm.FP.Core.val64 (Jvm.FP.Core.ddiv (Jvm.FP.Core.l2d (n * a)) (Jvm.FP.Core.l2d n)) = Jvm.FP.Core.val64 (Jvm.FP.Core.l2d a)
    rw [Jvm.FP.Core.val64_ddiv, em, en, hs, hz]
    have e3 : Jvm.FP.Core.val64 (Jvm.FP.Core.l2d a) = Jvm.FP.Core.roundRatio Jvm.FP.Core.b64 (decide (a.toInt < 0)) a.toInt.natAbs 1 0 := Jvm.FP.Core.val64_l2d a
    rw [e3]
    show (if d = 0 then _ else Jvm.FP.Core.roundRatio Jvm.FP.Core.b64 (decide (a.toInt < 0) != false) c d (q - r)) = _
    rw [if_neg hd, Bool.bne_false]
    exact Jvm.FP.Core.roundRatio_congr (Nat.pos_of_ne_zero hd) (by decide) (own_pw (N := n.toInt.natAbs) (M := (n * a).toInt.natAbs) (by rw [hm, Int.natAbs_mul]) (by omega) k1 k2)
  refine (Jvm.FP.Core.val64_inj ?_ hv.symm).symm
  obtain ⟨c', q', e'⟩ := Jvm.FP.Core.l2d_shape a
  show Jvm.FP.Core.val64 (Jvm.FP.Core.l2d a) ≠ _
  rw [e']
  exact Jvm.FP.Core.Datum.noConfusion
theorem own_dv (p n : Int32) (m : Int64) (e : n.toInt64 = m) (h0 : 0 < m.toInt) (h4 : m.toInt ≤ 4) : FP.ddiv (FP.l2d (m * (p.toInt64))) (FP.i2d n) = FP.l2d (p.toInt64) := by
  have h := rng32 p
  have e2 := c_i2l p
  rw [i2d_w, e]
  exact own_div h0 h4 (by omega) (by omega)
theorem own_nn (p n : Int32) (m : Int64) (e : n.toInt64 = m) (h0 : 0 < m.toInt) (h4 : m.toInt ≤ 4) : Jvm.Free.Fl.NoNaN64 (FP.ddiv (FP.l2d (m * (p.toInt64))) (FP.i2d n)) := nn_w (own_dv p n m e h0 h4)
theorem own_cm (p : Int32) (o : CmpOp) : cmpValue (FP.dcmp (FP.l2d (p.toInt64)) (FP.i2d p)) o = (0 : Int32) := by
  rw [i2d_w]
  exact dcmpV_self (nn_w rfl) o
theorem own_and3 (x : Int32) : ((x &&& (3 : Int32)) + (1 : Int32)) = (1 : Int32) ∨ ((x &&& (3 : Int32)) + (1 : Int32)) = (2 : Int32) ∨ ((x &&& (3 : Int32)) + (1 : Int32)) = (3 : Int32) ∨ ((x &&& (3 : Int32)) + (1 : Int32)) = (4 : Int32) := by
  have hm := c_mask x 3 2 (by decide) (by decide)
  obtain ⟨k, hk, e⟩ := own_nat (x &&& (3 : Int32)) 4 (by decide) (by rw [hm]; omega) (by rw [hm]; omega)
  rw [e]
  have : k = 0 ∨ k = 1 ∨ k = 2 ∨ k = 3 := by omega
  rcases this with rfl | rfl | rfl | rfl <;> decide
theorem d1_0 : decode prog_27_method_3_code 0 = .ok (.aload_n 0, 1) := by decide +kernel
theorem d1_1 : decode prog_27_method_3_code 1 = .ok (.arraylength, 1) := by decide +kernel
theorem d1_2 : decode prog_27_method_3_code 2 = .ok (.istore_n 1, 1) := by decide +kernel
theorem d1_3 : decode prog_27_method_3_code 3 = .ok (.iconst 0, 1) := by decide +kernel
theorem d1_4 : decode prog_27_method_3_code 4 = .ok (.istore_n 2, 1) := by decide +kernel
theorem d1_5 : decode prog_27_method_3_code 5 = .ok (.iload_n 2, 1) := by decide +kernel
theorem d1_6 : decode prog_27_method_3_code 6 = .ok (.iload_n 1, 1) := by decide +kernel
theorem d1_7 : decode prog_27_method_3_code 7 = .ok (.if_icmp .ge 17, 3) := by decide +kernel
theorem d1_10 : decode prog_27_method_3_code 10 = .ok (.aload_n 0, 1) := by decide +kernel
theorem d1_11 : decode prog_27_method_3_code 11 = .ok (.iload_n 2, 1) := by decide +kernel
theorem d1_12 : decode prog_27_method_3_code 12 = .ok (.dup2, 1) := by decide +kernel
theorem d1_13 : decode prog_27_method_3_code 13 = .ok (.daload, 1) := by decide +kernel
theorem d1_14 : decode prog_27_method_3_code 14 = .ok (.iload_n 1, 1) := by decide +kernel
theorem d1_15 : decode prog_27_method_3_code 15 = .ok (.i2d, 1) := by decide +kernel
theorem d1_16 : decode prog_27_method_3_code 16 = .ok (.ddiv, 1) := by decide +kernel
theorem d1_17 : decode prog_27_method_3_code 17 = .ok (.dastore, 1) := by decide +kernel
theorem d1_18 : decode prog_27_method_3_code 18 = .ok (.iinc 2 1, 3) := by decide +kernel
theorem d1_21 : decode prog_27_method_3_code 21 = .ok (.goto (-16), 3) := by decide +kernel
theorem d1_24 : decode prog_27_method_3_code 24 = .ok (.return_, 1) := by decide +kernel
theorem pn_0 : plainName "com/example/fold3/fold3/rank/PageRank" = true := by first | (simp [plainName, overriddenIn]; done) | decide +kernel
theorem ef_rmN1 (m : MethodId) (a0 : Addr) : entryFrame m #[(.ref a0)] 3 = mkF m 0 #[.val (.ref a0), .unset, .unset] [] := by first | (simp [entryFrame, mkF, argsToLocals, Value.category]; done) | rfl
def Q_rmN1 (Z : State) (a0 : Addr) (k_a0 : ClassId) (v0 : UInt64) (h0 : Heap) (n0 : Nat) (v : Option Value) (h : Heap) (L : List Loc) : Prop := v = none ∧ Fr n0 L ∧ Keep h0 h [a0] ∧ Arv Z h a0 k_a0 .double (1 : Int32) [(.double (FP.ddiv v0 (FP.i2d (1 : Int32))))] (.double (0 : UInt64))
set_option maxRecDepth 65536 in
set_option maxHeartbeats 40000000 in
theorem rmN1 (l : Launch) (Z : State) (av0 : Array Value) (hw : ∀ d ∈ tables_1, d.before av0 Z = true) (ws : List Jvm.Cond) (a0 : Addr) (k_a0 : ClassId) (v0 : UInt64) (h0 : Heap) (n0 : Nat) (Z0 : n0 ≤ h0.size) (V_a0 : Arv Z h0 a0 k_a0 .double (1 : Int32) [(.double v0)] (.double (0 : UInt64))) (g_a0 : n0 ≤ a0) (hq0 : Jvm.Free.Fl.NoNaN64 (FP.ddiv v0 (FP.i2d (1 : Int32)))) :
    MetFree l (⟨"com/example/fold3/fold3/rank/PageRank", "normalise", "([D)V"⟩ : MethodName) (head1 (Jvm.Cond.code (⟨"com/example/fold3/fold3/rank/PageRank", "normalise", "([D)V"⟩ : MethodName) prog_27_method_3_code 3 none :: ws) ({ frames := 0, cells := 0, slots := 0, locals := 0 } : Room)) (fun a U => a = #[(.ref a0)] ∧ Z.Warmed39 U.vm ∧ U.heap = h0) (fun _ _ _ _ _ => True) (fun _ U o U' => ∃ v L, o = .returned v ∧ Q_rmN1 Z a0 k_a0 v0 h0 n0 v U'.heap L ∧ FrameEnd U o U' L ({ frames := 0, cells := 0, slots := 0, locals := 0 } : Room).cells ({ frames := 0, cells := 0, slots := 0, locals := 0 } : Room).slots) := by
  refine MetFree.of_bodySF (plainFor_of_name pn_0) hisR ?_
  intro p e s m args below meth c s₁ Bd hml0 hP hK
  obtain ⟨rfl, hZ, hh⟩ := hP
  have hx := Bd.exec
  have hby := Bd.bytes
  have hml : c.maxLocals = 3 := hml0
  have dd : ∀ {pc : Nat} {r : Except DecodeError (Instr × Nat)}, decode prog_27_method_3_code pc = r → decode c.code pc = r := fun q => hb hby q
  have hown : s.vm.findClass "com/example/fold3/fold3/rank/PageRank" = some m.cls := findClass_of_methodNamed Bd.named
  have hnm := (name_of_methodNamed Bd.named Bd.method).1
  have X0 : Stand p l e ({ frames := 0, cells := 0, slots := 0, locals := 0 } : Room) s m #[(.ref a0)] below meth c s₁ [] 0 0 := Stand.of_body Bd
  have e0 : s₁.heap = h0 := by rw [← hh, Bd.state]; rfl
  have N0 := Fr.nil n0
  have hret := Bd.returns
  have hlk := Bd.notSynchronized
  show Gz p e below s ({ frames := 0, cells := 0, slots := 0, locals := 0 } : Room).cells ({ frames := 0, cells := 0, slots := 0, locals := 0 } : Room).slots (Q_rmN1 Z a0 k_a0 v0 h0 n0) (s₁.setTop (entryFrame m #[(.ref a0)] 3))
  refine Gz.enter (ef_rmN1 m a0) ?_
  refine Gz.aloadN 1 X0 hx (dd d1_0) rfl rfl rfl ?_
  obtain ⟨c1, A1, -, S1, N1, -, -⟩ := id V_a0
  refine Gz.alen 2 X0 hx hZ (dd d1_1) e0 A1 S1 N1 rfl ?_
  refine Gz.istoreN 3 #[.val (.ref a0), .val (.int (1 : Int32)), .unset] X0 hx (dd d1_2) rfl rfl ?_
  refine Gz.iconst 4 (0 : Int32) X0 hx (dd d1_3) rfl rfl ?_
  refine Gz.istoreN 5 #[.val (.ref a0), .val (.int (1 : Int32)), .val (.int (0 : Int32))] X0 hx (dd d1_4) rfl rfl ?_
  refine Gz.iloadN 6 X0 hx (dd d1_5) rfl rfl ?_
  refine Gz.iloadN 7 X0 hx (dd d1_6) rfl rfl ?_
  refine Gz.icmpNo 10 X0 hx (dd d1_7) (tlt (by decide : (0 : Int32) < (1 : Int32))).2.1 rfl ?_
  refine Gz.aloadN 11 X0 hx (dd d1_10) rfl rfl rfl ?_
  refine Gz.iloadN 12 X0 hx (dd d1_11) rfl rfl ?_
  refine Gz.st (S' := (s₁.setTop (mkF m 13 #[.val (.ref a0), .val (.int (1 : Int32)), .val (.int (0 : Int32))] [(.int (0 : Int32)), (.ref a0), (.int (0 : Int32)), (.ref a0)]))) (fun t k => by jvm_step X0.here [X0.here.top, hx, (dd d1_12), Value.category]; exact k) ?_
  obtain ⟨c2, A2, q2, S2, N2, H2, G2⟩ := id V_a0
  have hin2 : ¬ ((0 : Int32) < 0 ∨ c2.slots.size ≤ ((0 : Int32)).toNatClampNeg) := inb_of S2 ⟨by decide, by decide⟩
  refine Gz.ldD 14 X0 hx hZ (dd d1_13) e0 A2 hin2 (Has.at H2 hin2 (rfl : _ = ((.double v0) : Value))) rfl ?_
  refine Gz.iloadN 15 X0 hx (dd d1_14) rfl rfl ?_
  refine Gz.i2d 16 X0 hx (dd d1_15) rfl ?_
  refine Gz.ddiv 17 X0 hx (dd d1_16) (hq0) rfl ?_
  obtain ⟨c3, A3, q3, S3, N3, H3, G3⟩ := id V_a0
  have hin3 : ¬ ((0 : Int32) < 0 ∨ c3.slots.size ≤ ((0 : Int32)).toNatClampNeg) := inb_of S3 ⟨by decide, by decide⟩
  refine Gz.stD 18 X0 hx hZ (dd d1_17) e0 A3 hin3 rfl fun T4 h4 X4 e4 W4 => ?_
  have V4 := Arv.set A3 q3 S3 N3 H3 G3 rfl W4 0 rfl (Nat.le_of_ble_eq_true rfl)
  replace V4 : Arv Z h4 a0 k_a0 .double (1 : Int32) [(.double (FP.ddiv v0 (FP.i2d (1 : Int32))))] (.double (0 : UInt64)) := V4
  have N4 := Fr.snoc X4 N0 g_a0
  have SZ4 : n0 ≤ h4.size := Nat.le_trans Z0 (Keep.of_wr W4).1
  have K4 := Keep.wr (Keep.refl h0 [a0]) W4 (Or.inl (List.mem_of_getElem? (i := 0) rfl))
  refine Gz.iinc 21 #[.val (.ref a0), .val (.int (1 : Int32)), .val (.int (1 : Int32))] X4 hx (dd d1_18) rfl rfl rfl ?_
  refine Gz.goto 5 X4 hx (dd d1_21) (by decide) (by decide) ?_
  refine Gz.iloadN 6 X4 hx (dd d1_5) rfl rfl ?_
  refine Gz.iloadN 7 X4 hx (dd d1_6) rfl rfl ?_
  refine Gz.icmpYes 24 X4 hx (dd d1_7) (flt (by decide : ¬ ((1 : Int32) < (1 : Int32)))).2.1 (by decide) (by decide) ?_
  refine Gz.fin X4 (v := none) (fun _ => rfl) hlk (by decide) (by decide) (fun fs hr => X4.returnOut hx hret (dd d1_24) hr) ?_
  rw [e4]
  exact ⟨rfl, N4, K4, V4⟩
theorem ef_rmN2 (m : MethodId) (a0 : Addr) : entryFrame m #[(.ref a0)] 3 = mkF m 0 #[.val (.ref a0), .unset, .unset] [] := by first | (simp [entryFrame, mkF, argsToLocals, Value.category]; done) | rfl
def Q_rmN2 (Z : State) (a0 : Addr) (k_a0 : ClassId) (v0 : UInt64) (v1 : UInt64) (h0 : Heap) (n0 : Nat) (v : Option Value) (h : Heap) (L : List Loc) : Prop := v = none ∧ Fr n0 L ∧ Keep h0 h [a0] ∧ Arv Z h a0 k_a0 .double (2 : Int32) [(.double (FP.ddiv v0 (FP.i2d (2 : Int32)))), (.double (FP.ddiv v1 (FP.i2d (2 : Int32))))] (.double (0 : UInt64))
set_option maxRecDepth 65536 in
set_option maxHeartbeats 40000000 in
theorem rmN2 (l : Launch) (Z : State) (av0 : Array Value) (hw : ∀ d ∈ tables_1, d.before av0 Z = true) (ws : List Jvm.Cond) (a0 : Addr) (k_a0 : ClassId) (v0 : UInt64) (v1 : UInt64) (h0 : Heap) (n0 : Nat) (Z0 : n0 ≤ h0.size) (V_a0 : Arv Z h0 a0 k_a0 .double (2 : Int32) [(.double v0), (.double v1)] (.double (0 : UInt64))) (g_a0 : n0 ≤ a0) (hq0 : Jvm.Free.Fl.NoNaN64 (FP.ddiv v0 (FP.i2d (2 : Int32)))) (hq1 : Jvm.Free.Fl.NoNaN64 (FP.ddiv v1 (FP.i2d (2 : Int32)))) :
    MetFree l (⟨"com/example/fold3/fold3/rank/PageRank", "normalise", "([D)V"⟩ : MethodName) (head1 (Jvm.Cond.code (⟨"com/example/fold3/fold3/rank/PageRank", "normalise", "([D)V"⟩ : MethodName) prog_27_method_3_code 3 none :: ws) ({ frames := 0, cells := 0, slots := 0, locals := 0 } : Room)) (fun a U => a = #[(.ref a0)] ∧ Z.Warmed39 U.vm ∧ U.heap = h0) (fun _ _ _ _ _ => True) (fun _ U o U' => ∃ v L, o = .returned v ∧ Q_rmN2 Z a0 k_a0 v0 v1 h0 n0 v U'.heap L ∧ FrameEnd U o U' L ({ frames := 0, cells := 0, slots := 0, locals := 0 } : Room).cells ({ frames := 0, cells := 0, slots := 0, locals := 0 } : Room).slots) := by
  refine MetFree.of_bodySF (plainFor_of_name pn_0) hisR ?_
  intro p e s m args below meth c s₁ Bd hml0 hP hK
  obtain ⟨rfl, hZ, hh⟩ := hP
  have hx := Bd.exec
  have hby := Bd.bytes
  have hml : c.maxLocals = 3 := hml0
  have dd : ∀ {pc : Nat} {r : Except DecodeError (Instr × Nat)}, decode prog_27_method_3_code pc = r → decode c.code pc = r := fun q => hb hby q
  have hown : s.vm.findClass "com/example/fold3/fold3/rank/PageRank" = some m.cls := findClass_of_methodNamed Bd.named
  have hnm := (name_of_methodNamed Bd.named Bd.method).1
  have X0 : Stand p l e ({ frames := 0, cells := 0, slots := 0, locals := 0 } : Room) s m #[(.ref a0)] below meth c s₁ [] 0 0 := Stand.of_body Bd
  have e0 : s₁.heap = h0 := by rw [← hh, Bd.state]; rfl
  have N0 := Fr.nil n0
  have hret := Bd.returns
  have hlk := Bd.notSynchronized
  show Gz p e below s ({ frames := 0, cells := 0, slots := 0, locals := 0 } : Room).cells ({ frames := 0, cells := 0, slots := 0, locals := 0 } : Room).slots (Q_rmN2 Z a0 k_a0 v0 v1 h0 n0) (s₁.setTop (entryFrame m #[(.ref a0)] 3))
  refine Gz.enter (ef_rmN2 m a0) ?_
  refine Gz.aloadN 1 X0 hx (dd d1_0) rfl rfl rfl ?_
  obtain ⟨c1, A1, -, S1, N1, -, -⟩ := id V_a0
  refine Gz.alen 2 X0 hx hZ (dd d1_1) e0 A1 S1 N1 rfl ?_
  refine Gz.istoreN 3 #[.val (.ref a0), .val (.int (2 : Int32)), .unset] X0 hx (dd d1_2) rfl rfl ?_
  refine Gz.iconst 4 (0 : Int32) X0 hx (dd d1_3) rfl rfl ?_
  refine Gz.istoreN 5 #[.val (.ref a0), .val (.int (2 : Int32)), .val (.int (0 : Int32))] X0 hx (dd d1_4) rfl rfl ?_
  refine Gz.iloadN 6 X0 hx (dd d1_5) rfl rfl ?_
  refine Gz.iloadN 7 X0 hx (dd d1_6) rfl rfl ?_
  refine Gz.icmpNo 10 X0 hx (dd d1_7) (tlt (by decide : (0 : Int32) < (2 : Int32))).2.1 rfl ?_
  refine Gz.aloadN 11 X0 hx (dd d1_10) rfl rfl rfl ?_
  refine Gz.iloadN 12 X0 hx (dd d1_11) rfl rfl ?_
  refine Gz.st (S' := (s₁.setTop (mkF m 13 #[.val (.ref a0), .val (.int (2 : Int32)), .val (.int (0 : Int32))] [(.int (0 : Int32)), (.ref a0), (.int (0 : Int32)), (.ref a0)]))) (fun t k => by jvm_step X0.here [X0.here.top, hx, (dd d1_12), Value.category]; exact k) ?_
  obtain ⟨c2, A2, q2, S2, N2, H2, G2⟩ := id V_a0
  have hin2 : ¬ ((0 : Int32) < 0 ∨ c2.slots.size ≤ ((0 : Int32)).toNatClampNeg) := inb_of S2 ⟨by decide, by decide⟩
  refine Gz.ldD 14 X0 hx hZ (dd d1_13) e0 A2 hin2 (Has.at H2 hin2 (rfl : _ = ((.double v0) : Value))) rfl ?_
  refine Gz.iloadN 15 X0 hx (dd d1_14) rfl rfl ?_
  refine Gz.i2d 16 X0 hx (dd d1_15) rfl ?_
  refine Gz.ddiv 17 X0 hx (dd d1_16) (hq0) rfl ?_
  obtain ⟨c3, A3, q3, S3, N3, H3, G3⟩ := id V_a0
  have hin3 : ¬ ((0 : Int32) < 0 ∨ c3.slots.size ≤ ((0 : Int32)).toNatClampNeg) := inb_of S3 ⟨by decide, by decide⟩
  refine Gz.stD 18 X0 hx hZ (dd d1_17) e0 A3 hin3 rfl fun T4 h4 X4 e4 W4 => ?_
  have V4 := Arv.set A3 q3 S3 N3 H3 G3 rfl W4 0 rfl (Nat.le_of_ble_eq_true rfl)
  replace V4 : Arv Z h4 a0 k_a0 .double (2 : Int32) [(.double (FP.ddiv v0 (FP.i2d (2 : Int32)))), (.double v1)] (.double (0 : UInt64)) := V4
  have N4 := Fr.snoc X4 N0 g_a0
  have SZ4 : n0 ≤ h4.size := Nat.le_trans Z0 (Keep.of_wr W4).1
  have K4 := Keep.wr (Keep.refl h0 [a0]) W4 (Or.inl (List.mem_of_getElem? (i := 0) rfl))
  refine Gz.iinc 21 #[.val (.ref a0), .val (.int (2 : Int32)), .val (.int (1 : Int32))] X4 hx (dd d1_18) rfl rfl rfl ?_
  refine Gz.goto 5 X4 hx (dd d1_21) (by decide) (by decide) ?_
  refine Gz.iloadN 6 X4 hx (dd d1_5) rfl rfl ?_
  refine Gz.iloadN 7 X4 hx (dd d1_6) rfl rfl ?_
  refine Gz.icmpNo 10 X4 hx (dd d1_7) (tlt (by decide : (1 : Int32) < (2 : Int32))).2.1 rfl ?_
  refine Gz.aloadN 11 X4 hx (dd d1_10) rfl rfl rfl ?_
  refine Gz.iloadN 12 X4 hx (dd d1_11) rfl rfl ?_
  refine Gz.st (S' := (T4.setTop (mkF m 13 #[.val (.ref a0), .val (.int (2 : Int32)), .val (.int (1 : Int32))] [(.int (1 : Int32)), (.ref a0), (.int (1 : Int32)), (.ref a0)]))) (fun t k => by jvm_step X4.here [X4.here.top, hx, (dd d1_12), Value.category]; exact k) ?_
  obtain ⟨c5, A5, q5, S5, N5, H5, G5⟩ := id V4
  have hin5 : ¬ ((1 : Int32) < 0 ∨ c5.slots.size ≤ ((1 : Int32)).toNatClampNeg) := inb_of S5 ⟨by decide, by decide⟩
  refine Gz.ldD 14 X4 hx hZ (dd d1_13) e4 A5 hin5 (Has.at H5 hin5 (rfl : _ = ((.double v1) : Value))) rfl ?_
  refine Gz.iloadN 15 X4 hx (dd d1_14) rfl rfl ?_
  refine Gz.i2d 16 X4 hx (dd d1_15) rfl ?_
  refine Gz.ddiv 17 X4 hx (dd d1_16) (hq1) rfl ?_
  obtain ⟨c6, A6, q6, S6, N6, H6, G6⟩ := id V4
  have hin6 : ¬ ((1 : Int32) < 0 ∨ c6.slots.size ≤ ((1 : Int32)).toNatClampNeg) := inb_of S6 ⟨by decide, by decide⟩
  refine Gz.stD 18 X4 hx hZ (dd d1_17) e4 A6 hin6 rfl fun T7 h7 X7 e7 W7 => ?_
  have V7 := Arv.set A6 q6 S6 N6 H6 G6 rfl W7 1 rfl (Nat.le_of_ble_eq_true rfl)
  replace V7 : Arv Z h7 a0 k_a0 .double (2 : Int32) [(.double (FP.ddiv v0 (FP.i2d (2 : Int32)))), (.double (FP.ddiv v1 (FP.i2d (2 : Int32))))] (.double (0 : UInt64)) := V7
  have N7 := Fr.snoc X7 N4 g_a0
  have SZ7 : n0 ≤ h7.size := Nat.le_trans SZ4 (Keep.of_wr W7).1
  have K7 := Keep.wr K4 W7 (Or.inl (List.mem_of_getElem? (i := 0) rfl))
  refine Gz.iinc 21 #[.val (.ref a0), .val (.int (2 : Int32)), .val (.int (2 : Int32))] X7 hx (dd d1_18) rfl rfl rfl ?_
  refine Gz.goto 5 X7 hx (dd d1_21) (by decide) (by decide) ?_
  refine Gz.iloadN 6 X7 hx (dd d1_5) rfl rfl ?_
  refine Gz.iloadN 7 X7 hx (dd d1_6) rfl rfl ?_
  refine Gz.icmpYes 24 X7 hx (dd d1_7) (flt (by decide : ¬ ((2 : Int32) < (2 : Int32)))).2.1 (by decide) (by decide) ?_
  refine Gz.fin X7 (v := none) (fun _ => rfl) hlk (by decide) (by decide) (fun fs hr => X7.returnOut hx hret (dd d1_24) hr) ?_
  rw [e7]
  exact ⟨rfl, N7, K7, V7⟩
theorem ef_rmN3 (m : MethodId) (a0 : Addr) : entryFrame m #[(.ref a0)] 3 = mkF m 0 #[.val (.ref a0), .unset, .unset] [] := by first | (simp [entryFrame, mkF, argsToLocals, Value.category]; done) | rfl
def Q_rmN3 (Z : State) (a0 : Addr) (k_a0 : ClassId) (v0 : UInt64) (v1 : UInt64) (v2 : UInt64) (h0 : Heap) (n0 : Nat) (v : Option Value) (h : Heap) (L : List Loc) : Prop := v = none ∧ Fr n0 L ∧ Keep h0 h [a0] ∧ Arv Z h a0 k_a0 .double (3 : Int32) [(.double (FP.ddiv v0 (FP.i2d (3 : Int32)))), (.double (FP.ddiv v1 (FP.i2d (3 : Int32)))), (.double (FP.ddiv v2 (FP.i2d (3 : Int32))))] (.double (0 : UInt64))
set_option maxRecDepth 65536 in
set_option maxHeartbeats 40000000 in
theorem rmN3 (l : Launch) (Z : State) (av0 : Array Value) (hw : ∀ d ∈ tables_1, d.before av0 Z = true) (ws : List Jvm.Cond) (a0 : Addr) (k_a0 : ClassId) (v0 : UInt64) (v1 : UInt64) (v2 : UInt64) (h0 : Heap) (n0 : Nat) (Z0 : n0 ≤ h0.size) (V_a0 : Arv Z h0 a0 k_a0 .double (3 : Int32) [(.double v0), (.double v1), (.double v2)] (.double (0 : UInt64))) (g_a0 : n0 ≤ a0) (hq0 : Jvm.Free.Fl.NoNaN64 (FP.ddiv v0 (FP.i2d (3 : Int32)))) (hq1 : Jvm.Free.Fl.NoNaN64 (FP.ddiv v1 (FP.i2d (3 : Int32)))) (hq2 : Jvm.Free.Fl.NoNaN64 (FP.ddiv v2 (FP.i2d (3 : Int32)))) :
    MetFree l (⟨"com/example/fold3/fold3/rank/PageRank", "normalise", "([D)V"⟩ : MethodName) (head1 (Jvm.Cond.code (⟨"com/example/fold3/fold3/rank/PageRank", "normalise", "([D)V"⟩ : MethodName) prog_27_method_3_code 3 none :: ws) ({ frames := 0, cells := 0, slots := 0, locals := 0 } : Room)) (fun a U => a = #[(.ref a0)] ∧ Z.Warmed39 U.vm ∧ U.heap = h0) (fun _ _ _ _ _ => True) (fun _ U o U' => ∃ v L, o = .returned v ∧ Q_rmN3 Z a0 k_a0 v0 v1 v2 h0 n0 v U'.heap L ∧ FrameEnd U o U' L ({ frames := 0, cells := 0, slots := 0, locals := 0 } : Room).cells ({ frames := 0, cells := 0, slots := 0, locals := 0 } : Room).slots) := by
  refine MetFree.of_bodySF (plainFor_of_name pn_0) hisR ?_
  intro p e s m args below meth c s₁ Bd hml0 hP hK
  obtain ⟨rfl, hZ, hh⟩ := hP
  have hx := Bd.exec
  have hby := Bd.bytes
  have hml : c.maxLocals = 3 := hml0
  have dd : ∀ {pc : Nat} {r : Except DecodeError (Instr × Nat)}, decode prog_27_method_3_code pc = r → decode c.code pc = r := fun q => hb hby q
  have hown : s.vm.findClass "com/example/fold3/fold3/rank/PageRank" = some m.cls := findClass_of_methodNamed Bd.named
  have hnm := (name_of_methodNamed Bd.named Bd.method).1
  have X0 : Stand p l e ({ frames := 0, cells := 0, slots := 0, locals := 0 } : Room) s m #[(.ref a0)] below meth c s₁ [] 0 0 := Stand.of_body Bd
  have e0 : s₁.heap = h0 := by rw [← hh, Bd.state]; rfl
  have N0 := Fr.nil n0
  have hret := Bd.returns
  have hlk := Bd.notSynchronized
  show Gz p e below s ({ frames := 0, cells := 0, slots := 0, locals := 0 } : Room).cells ({ frames := 0, cells := 0, slots := 0, locals := 0 } : Room).slots (Q_rmN3 Z a0 k_a0 v0 v1 v2 h0 n0) (s₁.setTop (entryFrame m #[(.ref a0)] 3))
  refine Gz.enter (ef_rmN3 m a0) ?_
  refine Gz.aloadN 1 X0 hx (dd d1_0) rfl rfl rfl ?_
  obtain ⟨c1, A1, -, S1, N1, -, -⟩ := id V_a0
  refine Gz.alen 2 X0 hx hZ (dd d1_1) e0 A1 S1 N1 rfl ?_
  refine Gz.istoreN 3 #[.val (.ref a0), .val (.int (3 : Int32)), .unset] X0 hx (dd d1_2) rfl rfl ?_
  refine Gz.iconst 4 (0 : Int32) X0 hx (dd d1_3) rfl rfl ?_
  refine Gz.istoreN 5 #[.val (.ref a0), .val (.int (3 : Int32)), .val (.int (0 : Int32))] X0 hx (dd d1_4) rfl rfl ?_
  refine Gz.iloadN 6 X0 hx (dd d1_5) rfl rfl ?_
  refine Gz.iloadN 7 X0 hx (dd d1_6) rfl rfl ?_
  refine Gz.icmpNo 10 X0 hx (dd d1_7) (tlt (by decide : (0 : Int32) < (3 : Int32))).2.1 rfl ?_
  refine Gz.aloadN 11 X0 hx (dd d1_10) rfl rfl rfl ?_
  refine Gz.iloadN 12 X0 hx (dd d1_11) rfl rfl ?_
  refine Gz.st (S' := (s₁.setTop (mkF m 13 #[.val (.ref a0), .val (.int (3 : Int32)), .val (.int (0 : Int32))] [(.int (0 : Int32)), (.ref a0), (.int (0 : Int32)), (.ref a0)]))) (fun t k => by jvm_step X0.here [X0.here.top, hx, (dd d1_12), Value.category]; exact k) ?_
  obtain ⟨c2, A2, q2, S2, N2, H2, G2⟩ := id V_a0
  have hin2 : ¬ ((0 : Int32) < 0 ∨ c2.slots.size ≤ ((0 : Int32)).toNatClampNeg) := inb_of S2 ⟨by decide, by decide⟩
  refine Gz.ldD 14 X0 hx hZ (dd d1_13) e0 A2 hin2 (Has.at H2 hin2 (rfl : _ = ((.double v0) : Value))) rfl ?_
  refine Gz.iloadN 15 X0 hx (dd d1_14) rfl rfl ?_
  refine Gz.i2d 16 X0 hx (dd d1_15) rfl ?_
  refine Gz.ddiv 17 X0 hx (dd d1_16) (hq0) rfl ?_
  obtain ⟨c3, A3, q3, S3, N3, H3, G3⟩ := id V_a0
  have hin3 : ¬ ((0 : Int32) < 0 ∨ c3.slots.size ≤ ((0 : Int32)).toNatClampNeg) := inb_of S3 ⟨by decide, by decide⟩
  refine Gz.stD 18 X0 hx hZ (dd d1_17) e0 A3 hin3 rfl fun T4 h4 X4 e4 W4 => ?_
  have V4 := Arv.set A3 q3 S3 N3 H3 G3 rfl W4 0 rfl (Nat.le_of_ble_eq_true rfl)
  replace V4 : Arv Z h4 a0 k_a0 .double (3 : Int32) [(.double (FP.ddiv v0 (FP.i2d (3 : Int32)))), (.double v1), (.double v2)] (.double (0 : UInt64)) := V4
  have N4 := Fr.snoc X4 N0 g_a0
  have SZ4 : n0 ≤ h4.size := Nat.le_trans Z0 (Keep.of_wr W4).1
  have K4 := Keep.wr (Keep.refl h0 [a0]) W4 (Or.inl (List.mem_of_getElem? (i := 0) rfl))
  refine Gz.iinc 21 #[.val (.ref a0), .val (.int (3 : Int32)), .val (.int (1 : Int32))] X4 hx (dd d1_18) rfl rfl rfl ?_
  refine Gz.goto 5 X4 hx (dd d1_21) (by decide) (by decide) ?_
  refine Gz.iloadN 6 X4 hx (dd d1_5) rfl rfl ?_
  refine Gz.iloadN 7 X4 hx (dd d1_6) rfl rfl ?_
  refine Gz.icmpNo 10 X4 hx (dd d1_7) (tlt (by decide : (1 : Int32) < (3 : Int32))).2.1 rfl ?_
  refine Gz.aloadN 11 X4 hx (dd d1_10) rfl rfl rfl ?_
  refine Gz.iloadN 12 X4 hx (dd d1_11) rfl rfl ?_
  refine Gz.st (S' := (T4.setTop (mkF m 13 #[.val (.ref a0), .val (.int (3 : Int32)), .val (.int (1 : Int32))] [(.int (1 : Int32)), (.ref a0), (.int (1 : Int32)), (.ref a0)]))) (fun t k => by jvm_step X4.here [X4.here.top, hx, (dd d1_12), Value.category]; exact k) ?_
  obtain ⟨c5, A5, q5, S5, N5, H5, G5⟩ := id V4
  have hin5 : ¬ ((1 : Int32) < 0 ∨ c5.slots.size ≤ ((1 : Int32)).toNatClampNeg) := inb_of S5 ⟨by decide, by decide⟩
  refine Gz.ldD 14 X4 hx hZ (dd d1_13) e4 A5 hin5 (Has.at H5 hin5 (rfl : _ = ((.double v1) : Value))) rfl ?_
  refine Gz.iloadN 15 X4 hx (dd d1_14) rfl rfl ?_
  refine Gz.i2d 16 X4 hx (dd d1_15) rfl ?_
  refine Gz.ddiv 17 X4 hx (dd d1_16) (hq1) rfl ?_
  obtain ⟨c6, A6, q6, S6, N6, H6, G6⟩ := id V4
  have hin6 : ¬ ((1 : Int32) < 0 ∨ c6.slots.size ≤ ((1 : Int32)).toNatClampNeg) := inb_of S6 ⟨by decide, by decide⟩
  refine Gz.stD 18 X4 hx hZ (dd d1_17) e4 A6 hin6 rfl fun T7 h7 X7 e7 W7 => ?_
  have V7 := Arv.set A6 q6 S6 N6 H6 G6 rfl W7 1 rfl (Nat.le_of_ble_eq_true rfl)
  replace V7 : Arv Z h7 a0 k_a0 .double (3 : Int32) [(.double (FP.ddiv v0 (FP.i2d (3 : Int32)))), (.double (FP.ddiv v1 (FP.i2d (3 : Int32)))), (.double v2)] (.double (0 : UInt64)) := V7
  have N7 := Fr.snoc X7 N4 g_a0
  have SZ7 : n0 ≤ h7.size := Nat.le_trans SZ4 (Keep.of_wr W7).1
  have K7 := Keep.wr K4 W7 (Or.inl (List.mem_of_getElem? (i := 0) rfl))
  refine Gz.iinc 21 #[.val (.ref a0), .val (.int (3 : Int32)), .val (.int (2 : Int32))] X7 hx (dd d1_18) rfl rfl rfl ?_
  refine Gz.goto 5 X7 hx (dd d1_21) (by decide) (by decide) ?_
  refine Gz.iloadN 6 X7 hx (dd d1_5) rfl rfl ?_
  refine Gz.iloadN 7 X7 hx (dd d1_6) rfl rfl ?_
  refine Gz.icmpNo 10 X7 hx (dd d1_7) (tlt (by decide : (2 : Int32) < (3 : Int32))).2.1 rfl ?_
  refine Gz.aloadN 11 X7 hx (dd d1_10) rfl rfl rfl ?_
  refine Gz.iloadN 12 X7 hx (dd d1_11) rfl rfl ?_
  refine Gz.st (S' := (T7.setTop (mkF m 13 #[.val (.ref a0), .val (.int (3 : Int32)), .val (.int (2 : Int32))] [(.int (2 : Int32)), (.ref a0), (.int (2 : Int32)), (.ref a0)]))) (fun t k => by jvm_step X7.here [X7.here.top, hx, (dd d1_12), Value.category]; exact k) ?_
  obtain ⟨c8, A8, q8, S8, N8, H8, G8⟩ := id V7
  have hin8 : ¬ ((2 : Int32) < 0 ∨ c8.slots.size ≤ ((2 : Int32)).toNatClampNeg) := inb_of S8 ⟨by decide, by decide⟩
  refine Gz.ldD 14 X7 hx hZ (dd d1_13) e7 A8 hin8 (Has.at H8 hin8 (rfl : _ = ((.double v2) : Value))) rfl ?_
  refine Gz.iloadN 15 X7 hx (dd d1_14) rfl rfl ?_
  refine Gz.i2d 16 X7 hx (dd d1_15) rfl ?_
  refine Gz.ddiv 17 X7 hx (dd d1_16) (hq2) rfl ?_
  obtain ⟨c9, A9, q9, S9, N9, H9, G9⟩ := id V7
  have hin9 : ¬ ((2 : Int32) < 0 ∨ c9.slots.size ≤ ((2 : Int32)).toNatClampNeg) := inb_of S9 ⟨by decide, by decide⟩
  refine Gz.stD 18 X7 hx hZ (dd d1_17) e7 A9 hin9 rfl fun T10 h10 X10 e10 W10 => ?_
  have V10 := Arv.set A9 q9 S9 N9 H9 G9 rfl W10 2 rfl (Nat.le_of_ble_eq_true rfl)
  replace V10 : Arv Z h10 a0 k_a0 .double (3 : Int32) [(.double (FP.ddiv v0 (FP.i2d (3 : Int32)))), (.double (FP.ddiv v1 (FP.i2d (3 : Int32)))), (.double (FP.ddiv v2 (FP.i2d (3 : Int32))))] (.double (0 : UInt64)) := V10
  have N10 := Fr.snoc X10 N7 g_a0
  have SZ10 : n0 ≤ h10.size := Nat.le_trans SZ7 (Keep.of_wr W10).1
  have K10 := Keep.wr K7 W10 (Or.inl (List.mem_of_getElem? (i := 0) rfl))
  refine Gz.iinc 21 #[.val (.ref a0), .val (.int (3 : Int32)), .val (.int (3 : Int32))] X10 hx (dd d1_18) rfl rfl rfl ?_
  refine Gz.goto 5 X10 hx (dd d1_21) (by decide) (by decide) ?_
  refine Gz.iloadN 6 X10 hx (dd d1_5) rfl rfl ?_
  refine Gz.iloadN 7 X10 hx (dd d1_6) rfl rfl ?_
  refine Gz.icmpYes 24 X10 hx (dd d1_7) (flt (by decide : ¬ ((3 : Int32) < (3 : Int32)))).2.1 (by decide) (by decide) ?_
  refine Gz.fin X10 (v := none) (fun _ => rfl) hlk (by decide) (by decide) (fun fs hr => X10.returnOut hx hret (dd d1_24) hr) ?_
  rw [e10]
  exact ⟨rfl, N10, K10, V10⟩
theorem ef_rmN4 (m : MethodId) (a0 : Addr) : entryFrame m #[(.ref a0)] 3 = mkF m 0 #[.val (.ref a0), .unset, .unset] [] := by first | (simp [entryFrame, mkF, argsToLocals, Value.category]; done) | rfl
def Q_rmN4 (Z : State) (a0 : Addr) (k_a0 : ClassId) (v0 : UInt64) (v1 : UInt64) (v2 : UInt64) (v3 : UInt64) (h0 : Heap) (n0 : Nat) (v : Option Value) (h : Heap) (L : List Loc) : Prop := v = none ∧ Fr n0 L ∧ Keep h0 h [a0] ∧ Arv Z h a0 k_a0 .double (4 : Int32) [(.double (FP.ddiv v0 (FP.i2d (4 : Int32)))), (.double (FP.ddiv v1 (FP.i2d (4 : Int32)))), (.double (FP.ddiv v2 (FP.i2d (4 : Int32)))), (.double (FP.ddiv v3 (FP.i2d (4 : Int32))))] (.double (0 : UInt64))
set_option maxRecDepth 65536 in
set_option maxHeartbeats 40000000 in
theorem rmN4 (l : Launch) (Z : State) (av0 : Array Value) (hw : ∀ d ∈ tables_1, d.before av0 Z = true) (ws : List Jvm.Cond) (a0 : Addr) (k_a0 : ClassId) (v0 : UInt64) (v1 : UInt64) (v2 : UInt64) (v3 : UInt64) (h0 : Heap) (n0 : Nat) (Z0 : n0 ≤ h0.size) (V_a0 : Arv Z h0 a0 k_a0 .double (4 : Int32) [(.double v0), (.double v1), (.double v2), (.double v3)] (.double (0 : UInt64))) (g_a0 : n0 ≤ a0) (hq0 : Jvm.Free.Fl.NoNaN64 (FP.ddiv v0 (FP.i2d (4 : Int32)))) (hq1 : Jvm.Free.Fl.NoNaN64 (FP.ddiv v1 (FP.i2d (4 : Int32)))) (hq2 : Jvm.Free.Fl.NoNaN64 (FP.ddiv v2 (FP.i2d (4 : Int32)))) (hq3 : Jvm.Free.Fl.NoNaN64 (FP.ddiv v3 (FP.i2d (4 : Int32)))) :
    MetFree l (⟨"com/example/fold3/fold3/rank/PageRank", "normalise", "([D)V"⟩ : MethodName) (head1 (Jvm.Cond.code (⟨"com/example/fold3/fold3/rank/PageRank", "normalise", "([D)V"⟩ : MethodName) prog_27_method_3_code 3 none :: ws) ({ frames := 0, cells := 0, slots := 0, locals := 0 } : Room)) (fun a U => a = #[(.ref a0)] ∧ Z.Warmed39 U.vm ∧ U.heap = h0) (fun _ _ _ _ _ => True) (fun _ U o U' => ∃ v L, o = .returned v ∧ Q_rmN4 Z a0 k_a0 v0 v1 v2 v3 h0 n0 v U'.heap L ∧ FrameEnd U o U' L ({ frames := 0, cells := 0, slots := 0, locals := 0 } : Room).cells ({ frames := 0, cells := 0, slots := 0, locals := 0 } : Room).slots) := by
  refine MetFree.of_bodySF (plainFor_of_name pn_0) hisR ?_
  intro p e s m args below meth c s₁ Bd hml0 hP hK
  obtain ⟨rfl, hZ, hh⟩ := hP
  have hx := Bd.exec
  have hby := Bd.bytes
  have hml : c.maxLocals = 3 := hml0
  have dd : ∀ {pc : Nat} {r : Except DecodeError (Instr × Nat)}, decode prog_27_method_3_code pc = r → decode c.code pc = r := fun q => hb hby q
  have hown : s.vm.findClass "com/example/fold3/fold3/rank/PageRank" = some m.cls := findClass_of_methodNamed Bd.named
  have hnm := (name_of_methodNamed Bd.named Bd.method).1
  have X0 : Stand p l e ({ frames := 0, cells := 0, slots := 0, locals := 0 } : Room) s m #[(.ref a0)] below meth c s₁ [] 0 0 := Stand.of_body Bd
  have e0 : s₁.heap = h0 := by rw [← hh, Bd.state]; rfl
  have N0 := Fr.nil n0
  have hret := Bd.returns
  have hlk := Bd.notSynchronized
  show Gz p e below s ({ frames := 0, cells := 0, slots := 0, locals := 0 } : Room).cells ({ frames := 0, cells := 0, slots := 0, locals := 0 } : Room).slots (Q_rmN4 Z a0 k_a0 v0 v1 v2 v3 h0 n0) (s₁.setTop (entryFrame m #[(.ref a0)] 3))
  refine Gz.enter (ef_rmN4 m a0) ?_
  refine Gz.aloadN 1 X0 hx (dd d1_0) rfl rfl rfl ?_
  obtain ⟨c1, A1, -, S1, N1, -, -⟩ := id V_a0
  refine Gz.alen 2 X0 hx hZ (dd d1_1) e0 A1 S1 N1 rfl ?_
  refine Gz.istoreN 3 #[.val (.ref a0), .val (.int (4 : Int32)), .unset] X0 hx (dd d1_2) rfl rfl ?_
  refine Gz.iconst 4 (0 : Int32) X0 hx (dd d1_3) rfl rfl ?_
  refine Gz.istoreN 5 #[.val (.ref a0), .val (.int (4 : Int32)), .val (.int (0 : Int32))] X0 hx (dd d1_4) rfl rfl ?_
  refine Gz.iloadN 6 X0 hx (dd d1_5) rfl rfl ?_
  refine Gz.iloadN 7 X0 hx (dd d1_6) rfl rfl ?_
  refine Gz.icmpNo 10 X0 hx (dd d1_7) (tlt (by decide : (0 : Int32) < (4 : Int32))).2.1 rfl ?_
  refine Gz.aloadN 11 X0 hx (dd d1_10) rfl rfl rfl ?_
  refine Gz.iloadN 12 X0 hx (dd d1_11) rfl rfl ?_
  refine Gz.st (S' := (s₁.setTop (mkF m 13 #[.val (.ref a0), .val (.int (4 : Int32)), .val (.int (0 : Int32))] [(.int (0 : Int32)), (.ref a0), (.int (0 : Int32)), (.ref a0)]))) (fun t k => by jvm_step X0.here [X0.here.top, hx, (dd d1_12), Value.category]; exact k) ?_
  obtain ⟨c2, A2, q2, S2, N2, H2, G2⟩ := id V_a0
  have hin2 : ¬ ((0 : Int32) < 0 ∨ c2.slots.size ≤ ((0 : Int32)).toNatClampNeg) := inb_of S2 ⟨by decide, by decide⟩
  refine Gz.ldD 14 X0 hx hZ (dd d1_13) e0 A2 hin2 (Has.at H2 hin2 (rfl : _ = ((.double v0) : Value))) rfl ?_
  refine Gz.iloadN 15 X0 hx (dd d1_14) rfl rfl ?_
  refine Gz.i2d 16 X0 hx (dd d1_15) rfl ?_
  refine Gz.ddiv 17 X0 hx (dd d1_16) (hq0) rfl ?_
  obtain ⟨c3, A3, q3, S3, N3, H3, G3⟩ := id V_a0
  have hin3 : ¬ ((0 : Int32) < 0 ∨ c3.slots.size ≤ ((0 : Int32)).toNatClampNeg) := inb_of S3 ⟨by decide, by decide⟩
  refine Gz.stD 18 X0 hx hZ (dd d1_17) e0 A3 hin3 rfl fun T4 h4 X4 e4 W4 => ?_
  have V4 := Arv.set A3 q3 S3 N3 H3 G3 rfl W4 0 rfl (Nat.le_of_ble_eq_true rfl)
  replace V4 : Arv Z h4 a0 k_a0 .double (4 : Int32) [(.double (FP.ddiv v0 (FP.i2d (4 : Int32)))), (.double v1), (.double v2), (.double v3)] (.double (0 : UInt64)) := V4
  have N4 := Fr.snoc X4 N0 g_a0
  have SZ4 : n0 ≤ h4.size := Nat.le_trans Z0 (Keep.of_wr W4).1
  have K4 := Keep.wr (Keep.refl h0 [a0]) W4 (Or.inl (List.mem_of_getElem? (i := 0) rfl))
  refine Gz.iinc 21 #[.val (.ref a0), .val (.int (4 : Int32)), .val (.int (1 : Int32))] X4 hx (dd d1_18) rfl rfl rfl ?_
  refine Gz.goto 5 X4 hx (dd d1_21) (by decide) (by decide) ?_
  refine Gz.iloadN 6 X4 hx (dd d1_5) rfl rfl ?_
  refine Gz.iloadN 7 X4 hx (dd d1_6) rfl rfl ?_
  refine Gz.icmpNo 10 X4 hx (dd d1_7) (tlt (by decide : (1 : Int32) < (4 : Int32))).2.1 rfl ?_
  refine Gz.aloadN 11 X4 hx (dd d1_10) rfl rfl rfl ?_
  refine Gz.iloadN 12 X4 hx (dd d1_11) rfl rfl ?_
  refine Gz.st (S' := (T4.setTop (mkF m 13 #[.val (.ref a0), .val (.int (4 : Int32)), .val (.int (1 : Int32))] [(.int (1 : Int32)), (.ref a0), (.int (1 : Int32)), (.ref a0)]))) (fun t k => by jvm_step X4.here [X4.here.top, hx, (dd d1_12), Value.category]; exact k) ?_
  obtain ⟨c5, A5, q5, S5, N5, H5, G5⟩ := id V4
  have hin5 : ¬ ((1 : Int32) < 0 ∨ c5.slots.size ≤ ((1 : Int32)).toNatClampNeg) := inb_of S5 ⟨by decide, by decide⟩
  refine Gz.ldD 14 X4 hx hZ (dd d1_13) e4 A5 hin5 (Has.at H5 hin5 (rfl : _ = ((.double v1) : Value))) rfl ?_
  refine Gz.iloadN 15 X4 hx (dd d1_14) rfl rfl ?_
  refine Gz.i2d 16 X4 hx (dd d1_15) rfl ?_
  refine Gz.ddiv 17 X4 hx (dd d1_16) (hq1) rfl ?_
  obtain ⟨c6, A6, q6, S6, N6, H6, G6⟩ := id V4
  have hin6 : ¬ ((1 : Int32) < 0 ∨ c6.slots.size ≤ ((1 : Int32)).toNatClampNeg) := inb_of S6 ⟨by decide, by decide⟩
  refine Gz.stD 18 X4 hx hZ (dd d1_17) e4 A6 hin6 rfl fun T7 h7 X7 e7 W7 => ?_
  have V7 := Arv.set A6 q6 S6 N6 H6 G6 rfl W7 1 rfl (Nat.le_of_ble_eq_true rfl)
  replace V7 : Arv Z h7 a0 k_a0 .double (4 : Int32) [(.double (FP.ddiv v0 (FP.i2d (4 : Int32)))), (.double (FP.ddiv v1 (FP.i2d (4 : Int32)))), (.double v2), (.double v3)] (.double (0 : UInt64)) := V7
  have N7 := Fr.snoc X7 N4 g_a0
  have SZ7 : n0 ≤ h7.size := Nat.le_trans SZ4 (Keep.of_wr W7).1
  have K7 := Keep.wr K4 W7 (Or.inl (List.mem_of_getElem? (i := 0) rfl))
  refine Gz.iinc 21 #[.val (.ref a0), .val (.int (4 : Int32)), .val (.int (2 : Int32))] X7 hx (dd d1_18) rfl rfl rfl ?_
  refine Gz.goto 5 X7 hx (dd d1_21) (by decide) (by decide) ?_
  refine Gz.iloadN 6 X7 hx (dd d1_5) rfl rfl ?_
  refine Gz.iloadN 7 X7 hx (dd d1_6) rfl rfl ?_
  refine Gz.icmpNo 10 X7 hx (dd d1_7) (tlt (by decide : (2 : Int32) < (4 : Int32))).2.1 rfl ?_
  refine Gz.aloadN 11 X7 hx (dd d1_10) rfl rfl rfl ?_
  refine Gz.iloadN 12 X7 hx (dd d1_11) rfl rfl ?_
  refine Gz.st (S' := (T7.setTop (mkF m 13 #[.val (.ref a0), .val (.int (4 : Int32)), .val (.int (2 : Int32))] [(.int (2 : Int32)), (.ref a0), (.int (2 : Int32)), (.ref a0)]))) (fun t k => by jvm_step X7.here [X7.here.top, hx, (dd d1_12), Value.category]; exact k) ?_
  obtain ⟨c8, A8, q8, S8, N8, H8, G8⟩ := id V7
  have hin8 : ¬ ((2 : Int32) < 0 ∨ c8.slots.size ≤ ((2 : Int32)).toNatClampNeg) := inb_of S8 ⟨by decide, by decide⟩
  refine Gz.ldD 14 X7 hx hZ (dd d1_13) e7 A8 hin8 (Has.at H8 hin8 (rfl : _ = ((.double v2) : Value))) rfl ?_
  refine Gz.iloadN 15 X7 hx (dd d1_14) rfl rfl ?_
  refine Gz.i2d 16 X7 hx (dd d1_15) rfl ?_
  refine Gz.ddiv 17 X7 hx (dd d1_16) (hq2) rfl ?_
  obtain ⟨c9, A9, q9, S9, N9, H9, G9⟩ := id V7
  have hin9 : ¬ ((2 : Int32) < 0 ∨ c9.slots.size ≤ ((2 : Int32)).toNatClampNeg) := inb_of S9 ⟨by decide, by decide⟩
  refine Gz.stD 18 X7 hx hZ (dd d1_17) e7 A9 hin9 rfl fun T10 h10 X10 e10 W10 => ?_
  have V10 := Arv.set A9 q9 S9 N9 H9 G9 rfl W10 2 rfl (Nat.le_of_ble_eq_true rfl)
  replace V10 : Arv Z h10 a0 k_a0 .double (4 : Int32) [(.double (FP.ddiv v0 (FP.i2d (4 : Int32)))), (.double (FP.ddiv v1 (FP.i2d (4 : Int32)))), (.double (FP.ddiv v2 (FP.i2d (4 : Int32)))), (.double v3)] (.double (0 : UInt64)) := V10
  have N10 := Fr.snoc X10 N7 g_a0
  have SZ10 : n0 ≤ h10.size := Nat.le_trans SZ7 (Keep.of_wr W10).1
  have K10 := Keep.wr K7 W10 (Or.inl (List.mem_of_getElem? (i := 0) rfl))
  refine Gz.iinc 21 #[.val (.ref a0), .val (.int (4 : Int32)), .val (.int (3 : Int32))] X10 hx (dd d1_18) rfl rfl rfl ?_
  refine Gz.goto 5 X10 hx (dd d1_21) (by decide) (by decide) ?_
  refine Gz.iloadN 6 X10 hx (dd d1_5) rfl rfl ?_
  refine Gz.iloadN 7 X10 hx (dd d1_6) rfl rfl ?_
  refine Gz.icmpNo 10 X10 hx (dd d1_7) (tlt (by decide : (3 : Int32) < (4 : Int32))).2.1 rfl ?_
  refine Gz.aloadN 11 X10 hx (dd d1_10) rfl rfl rfl ?_
  refine Gz.iloadN 12 X10 hx (dd d1_11) rfl rfl ?_
  refine Gz.st (S' := (T10.setTop (mkF m 13 #[.val (.ref a0), .val (.int (4 : Int32)), .val (.int (3 : Int32))] [(.int (3 : Int32)), (.ref a0), (.int (3 : Int32)), (.ref a0)]))) (fun t k => by jvm_step X10.here [X10.here.top, hx, (dd d1_12), Value.category]; exact k) ?_
  obtain ⟨c11, A11, q11, S11, N11, H11, G11⟩ := id V10
  have hin11 : ¬ ((3 : Int32) < 0 ∨ c11.slots.size ≤ ((3 : Int32)).toNatClampNeg) := inb_of S11 ⟨by decide, by decide⟩
  refine Gz.ldD 14 X10 hx hZ (dd d1_13) e10 A11 hin11 (Has.at H11 hin11 (rfl : _ = ((.double v3) : Value))) rfl ?_
  refine Gz.iloadN 15 X10 hx (dd d1_14) rfl rfl ?_
  refine Gz.i2d 16 X10 hx (dd d1_15) rfl ?_
  refine Gz.ddiv 17 X10 hx (dd d1_16) (hq3) rfl ?_
  obtain ⟨c12, A12, q12, S12, N12, H12, G12⟩ := id V10
  have hin12 : ¬ ((3 : Int32) < 0 ∨ c12.slots.size ≤ ((3 : Int32)).toNatClampNeg) := inb_of S12 ⟨by decide, by decide⟩
  refine Gz.stD 18 X10 hx hZ (dd d1_17) e10 A12 hin12 rfl fun T13 h13 X13 e13 W13 => ?_
  have V13 := Arv.set A12 q12 S12 N12 H12 G12 rfl W13 3 rfl (Nat.le_of_ble_eq_true rfl)
  replace V13 : Arv Z h13 a0 k_a0 .double (4 : Int32) [(.double (FP.ddiv v0 (FP.i2d (4 : Int32)))), (.double (FP.ddiv v1 (FP.i2d (4 : Int32)))), (.double (FP.ddiv v2 (FP.i2d (4 : Int32)))), (.double (FP.ddiv v3 (FP.i2d (4 : Int32))))] (.double (0 : UInt64)) := V13
  have N13 := Fr.snoc X13 N10 g_a0
  have SZ13 : n0 ≤ h13.size := Nat.le_trans SZ10 (Keep.of_wr W13).1
  have K13 := Keep.wr K10 W13 (Or.inl (List.mem_of_getElem? (i := 0) rfl))
  refine Gz.iinc 21 #[.val (.ref a0), .val (.int (4 : Int32)), .val (.int (4 : Int32))] X13 hx (dd d1_18) rfl rfl rfl ?_
  refine Gz.goto 5 X13 hx (dd d1_21) (by decide) (by decide) ?_
  refine Gz.iloadN 6 X13 hx (dd d1_5) rfl rfl ?_
  refine Gz.iloadN 7 X13 hx (dd d1_6) rfl rfl ?_
  refine Gz.icmpYes 24 X13 hx (dd d1_7) (flt (by decide : ¬ ((4 : Int32) < (4 : Int32)))).2.1 (by decide) (by decide) ?_
  refine Gz.fin X13 (v := none) (fun _ => rfl) hlk (by decide) (by decide) (fun fs hr => X13.returnOut hx hret (dd d1_24) hr) ?_
  rw [e13]
  exact ⟨rfl, N13, K13, V13⟩
theorem pd_0 : parseMethodDescriptor "([D)V" = some ⟨[(.array .double)], none⟩ := by decide +kernel
abbrev ym0 : MethodName := ⟨"com/example/fold3/fold3/rank/PageRank", "normalise", "([D)V"⟩
theorem pn_1 : plainName "com/example/fold3/fold3/rank/PageRankNormalisePinLaw" = true := by first | (simp [plainName, overriddenIn]; done) | decide +kernel
theorem ef_rm0 (m : MethodId) (p0 : Int32) (p1 : Int32) (p2 : Int32) (p3 : Int32) (p4 : Int32) : entryFrame m #[(.int p0), (.int p1), (.int p2), (.int p3), (.int p4)] maxLocals = mkF m 0 #[.val (.int p0), .val (.int p1), .val (.int p2), .val (.int p3), .val (.int p4), .unset, .unset, .unset] [] := by first | (simp [entryFrame, mkF, argsToLocals, Value.category, maxLocals]; done) | rfl
def Q_law (n0 : Nat) (v : Option Value) (h : Heap) (L : List Loc) : Prop := v = some (.int 1) ∧ Fr n0 L
set_option maxRecDepth 65536 in
set_option maxHeartbeats 40000000 in
theorem rm0 (l : Launch) (Z : State) (av0 : Array Value) (hw : ∀ d ∈ tables_1, d.before av0 Z = true) (ws : List Jvm.Cond) (p0 : Int32) (p1 : Int32) (p2 : Int32) (p3 : Int32) (p4 : Int32) (h0 : Heap) (n0 : Nat) (Z0 : n0 ≤ h0.size)  :
    MetFree l x (head1 (Jvm.Cond.code x code maxLocals ret :: ws) room_1) (fun a U => a = #[(.int p0), (.int p1), (.int p2), (.int p3), (.int p4)] ∧ Z.Warmed39 U.vm ∧ U.heap = h0) (fun _ _ _ _ _ => True) (fun _ U o U' => ∃ v L, o = .returned v ∧ Q_law n0 v U'.heap L ∧ FrameEnd U o U' L 16 128) := by
  refine MetFree.of_bodySF (plainFor_of_name pn_1) hisR ?_
  intro p e s m args below meth c s₁ Bd hml0 hP hK
  obtain ⟨rfl, hZ, hh⟩ := hP
  have hx := Bd.exec
  have hby := Bd.bytes
  have hml : c.maxLocals = 8 := hml0
  have dd : ∀ {pc : Nat} {r : Except DecodeError (Instr × Nat)}, decode code pc = r → decode c.code pc = r := fun q => hb hby q
  have hown : s.vm.findClass "com/example/fold3/fold3/rank/PageRankNormalisePinLaw" = some m.cls := findClass_of_methodNamed Bd.named
  have hnm := (name_of_methodNamed Bd.named Bd.method).1
  have X0 : Stand p l e room_1 s m #[(.int p0), (.int p1), (.int p2), (.int p3), (.int p4)] below meth c s₁ [] 0 0 := Stand.of_body Bd
  have e0 : s₁.heap = h0 := by rw [← hh, Bd.state]; rfl
  have N0 := Fr.nil n0
  have hret := Bd.returns
  have hlk := Bd.notSynchronized
  show Gz p e below s 16 128 (Q_law n0) (s₁.setTop (entryFrame m #[(.int p0), (.int p1), (.int p2), (.int p3), (.int p4)] maxLocals))
  refine Gz.enter (ef_rm0 m p0 p1 p2 p3 p4) ?_
  refine Gz.iloadN 1 X0 hx (dd at_0) rfl rfl ?_
  refine Gz.iconst 2 (3 : Int32) X0 hx (dd at_1) rfl rfl ?_
  refine Gz.iand 3 X0 hx (dd at_2) rfl ?_
  refine Gz.iconst 4 (1 : Int32) X0 hx (dd at_3) rfl rfl ?_
  refine Gz.iadd 5 X0 hx (dd at_4) rfl ?_
  show Gz p e below s _ _ _ (s₁.setTop (mkF m 5 #[.val (.int p0), .val (.int p1), .val (.int p2), .val (.int p3), .val (.int p4), .unset, .unset, .unset] [(.int ((p0 &&& (3 : Int32)) + (1 : Int32)))]))
  rcases own_and3 p0 with hs1 | hs1 | hs1 | hs1
  · rw [hs1]
    refine Gz.istore 7 #[.val (.int p0), .val (.int p1), .val (.int p2), .val (.int p3), .val (.int p4), .val (.int (1 : Int32)), .unset, .unset] X0 hx (dd at_5) rfl rfl ?_
    refine Gz.iload 9 X0 hx (dd at_7) rfl rfl ?_
    obtain ⟨T2, h2, k2, X2, e2, E2, A2, Q2, st2⟩ := newPE X0 hx hZ (ww hw 0 rfl) e0 (g := (mkF m 9 #[.val (.int p0), .val (.int p1), .val (.int p2), .val (.int p3), .val (.int p4), .val (.int (1 : Int32)), .unset, .unset] [(.int (1 : Int32))])) rfl (dd at_9) rfl (by decide) (cap := 1) (by decide) (by decide) (by decide) (by decide) (ad := "[D") rfl
    obtain ⟨b2, g2⟩ : ∃ z, z = h0.size := ⟨_, rfl⟩
    rw [← g2] at A2 Q2 st2
    have g_b2 : n0 ≤ b2 := Nat.le_trans Z0 (Nat.le_of_eq g2.symm)
    have SZ2 : n0 ≤ h2.size := Nat.le_trans Z0 E2.1
    have V2 : Arv Z h2 b2 k2 .double (1 : Int32) [(.double (0 : UInt64))] (.double (0 : UInt64)) := (Arv.new A2 (by decide)).pad (pad_rep [] (.double (0 : UInt64)) 1)
    refine Gz.st st2 ?_
    refine Gz.astore 13 #[.val (.int p0), .val (.int p1), .val (.int p2), .val (.int p3), .val (.int p4), .val (.int (1 : Int32)), .val (.ref b2), .unset] X2 hx (dd at_11) rfl rfl rfl ?_
    refine Gz.aload 15 X2 hx (dd at_13) rfl rfl rfl ?_
    refine Gz.iconst 16 (0 : Int32) X2 hx (dd at_15) rfl rfl ?_
    refine Gz.iload 18 X2 hx (dd at_16) rfl rfl ?_
    refine Gz.i2lV 19 (1 : Int64) X2 hx (dd at_18) rfl rfl ?_
    refine Gz.iloadN 20 X2 hx (dd at_19) rfl rfl ?_
    refine Gz.i2l 21 X2 hx (dd at_20) rfl ?_
    refine Gz.lmul 22 X2 hx (dd at_21) rfl ?_
    refine Gz.l2d 23 X2 hx (dd at_22) rfl ?_
    obtain ⟨c3, A3, q3, S3, N3, H3, G3⟩ := id V2
    have hin3 : ¬ ((0 : Int32) < 0 ∨ c3.slots.size ≤ ((0 : Int32)).toNatClampNeg) := inb_of S3 ⟨by decide, by decide⟩
    refine Gz.stD 24 X2 hx hZ (dd at_23) e2 A3 hin3 rfl fun T4 h4 X4 e4 W4 => ?_
    have V4 := Arv.set A3 q3 S3 N3 H3 G3 rfl W4 0 rfl (Nat.le_of_ble_eq_true rfl)
    replace V4 : Arv Z h4 b2 k2 .double (1 : Int32) [(.double (FP.l2d ((1 : Int64) * (p1.toInt64))))] (.double (0 : UInt64)) := V4
    have f4_Eb2 := Exa.wr W4 Q2
    have N4 := Fr.snoc X4 N0 g_b2
    have SZ4 : n0 ≤ h4.size := Nat.le_trans SZ2 (Keep.of_wr W4).1
    refine Gz.iload 26 X4 hx (dd at_24) rfl rfl ?_
    refine Gz.iconst 27 (1 : Int32) X4 hx (dd at_26) rfl rfl ?_
    refine Gz.icmpYes 41 X4 hx (dd at_27) (flt (by decide : ¬ ((1 : Int32) < (1 : Int32)))).2.2.2 (by decide) (by decide) ?_
    refine Gz.iload 43 X4 hx (dd at_41) rfl rfl ?_
    refine Gz.iconst 44 (2 : Int32) X4 hx (dd at_43) rfl rfl ?_
    refine Gz.icmpYes 58 X4 hx (dd at_44) (flt (by decide : ¬ ((2 : Int32) < (1 : Int32)))).2.2.2 (by decide) (by decide) ?_
    refine Gz.iload 60 X4 hx (dd at_58) rfl rfl ?_
    refine Gz.iconst 61 (3 : Int32) X4 hx (dd at_60) rfl rfl ?_
    refine Gz.icmpYes 76 X4 hx (dd at_61) (flt (by decide : ¬ ((3 : Int32) < (1 : Int32)))).2.2.2 (by decide) (by decide) ?_
    refine Gz.aload 78 X4 hx (dd at_76) rfl rfl rfl ?_
    obtain ⟨_, _, ⟨T5, L5, k5, n5⟩, -, X5, ⟨Lc5, hQ5, l5, y5, z5⟩, st5⟩ := Jvm.LawKit.callS X4 hx (y := ym0) hown (mvT hZ (ww hw 1 rfl)) (mvT hZ (ww hw 2 rfl)) (mvT hZ (ww hw 3 rfl)) (mvT hZ (ww hw 4 rfl)) (by decide) (backOf (W := 0) (rmN1 l Z av0 hw [] b2 k2 (FP.l2d ((1 : Int64) * (p1.toInt64))) h4 n0 SZ4 V4 g_b2 (own_nn p1 (1 : Int32) (1 : Int64) (by decide) (by decide) (by decide))) hZ (ww hw 4 rfl) (ww hw 3 rfl) (by decide) (by decide)) (g := (mkF m 78 #[.val (.int p0), .val (.int p1), .val (.int p2), .val (.int p3), .val (.int p4), .val (.int (1 : Int32)), .val (.ref b2), .unset] [(.ref b2)])) rfl (by rw [hml]; rfl) (argsL := [(.ref b2)]) (rest := []) (lenOf pd_0 rfl) rfl (Nat.le_refl _) (dd at_78) (fun _ _ => ⟨rfl, e4, (by decide : 1 + 0 ≤ _), (by decide : 1 + 0 ≤ _)⟩)
    dsimp only [Pt.U, Pt.locs, Pt.cells, Pt.slots, Q_rmN1] at X5 l5 y5 z5 st5 hQ5
    subst l5 y5 z5
    rw [own_dv p1 (1 : Int32) (1 : Int64) (by decide) (by decide) (by decide)] at hQ5
    obtain ⟨rfl, N5q, K5q, QA5⟩ := hQ5
    have N5 := Fr.app N4 N5q
    have f5_Eb2 := Exa.keep f4_Eb2 K5q
    have SZ5 := Nat.le_trans SZ4 K5q.1
    refine Gz.st st5 ?_
    refine Gz.aload 83 X5 hx (dd at_81) rfl rfl rfl ?_
    obtain ⟨c6, A6, -, S6, N6, -, -⟩ := id QA5
    refine Gz.alen 84 X5 hx hZ (dd at_83) rfl A6 S6 N6 rfl ?_
    refine Gz.iload 86 X5 hx (dd at_84) rfl rfl ?_
    refine Gz.icmpNo 89 X5 hx (dd at_86) (teq (by decide : (1 : Int32) = (1 : Int32))).2 rfl ?_
    refine Gz.aload 91 X5 hx (dd at_89) rfl rfl rfl ?_
    refine Gz.iconst 92 (0 : Int32) X5 hx (dd at_91) rfl rfl ?_
    obtain ⟨c7, A7, q7, S7, N7, H7, G7⟩ := id QA5
    have hin7 : ¬ ((0 : Int32) < 0 ∨ c7.slots.size ≤ ((0 : Int32)).toNatClampNeg) := inb_of S7 ⟨by decide, by decide⟩
    refine Gz.ldD 93 X5 hx hZ (dd at_92) rfl A7 hin7 (Has.at H7 hin7 (rfl : _ = ((.double (FP.l2d (p1.toInt64))) : Value))) rfl ?_
    refine Gz.iloadN 94 X5 hx (dd at_93) rfl rfl ?_
    refine Gz.i2d 95 X5 hx (dd at_94) rfl ?_
    refine Gz.dcmp 96 X5 hx (dd at_95) rfl ?_
    refine Gz.ifNo 99 X5 hx (dd at_96) ((if0 _ _).trans (teq (own_cm p1 .l : (cmpValue (FP.dcmp (FP.l2d (p1.toInt64)) (FP.i2d p1)) .l) = (0 : Int32))).2) rfl ?_
    refine Gz.iconst 100 (1 : Int32) X5 hx (dd at_99) rfl rfl ?_
    refine Gz.goto 104 X5 hx (dd at_100) (by decide) (by decide) ?_
    refine Gz.istore 106 #[.val (.int p0), .val (.int p1), .val (.int p2), .val (.int p3), .val (.int p4), .val (.int (1 : Int32)), .val (.ref b2), .val (.int (1 : Int32))] X5 hx (dd at_104) rfl rfl ?_
    refine Gz.iload 108 X5 hx (dd at_106) rfl rfl ?_
    refine Gz.iconst 109 (1 : Int32) X5 hx (dd at_108) rfl rfl ?_
    refine Gz.icmpYes 134 X5 hx (dd at_109) (flt (by decide : ¬ ((1 : Int32) < (1 : Int32)))).2.2.2 (by decide) (by decide) ?_
    refine Gz.iload 136 X5 hx (dd at_134) rfl rfl ?_
    refine Gz.iconst 137 (2 : Int32) X5 hx (dd at_136) rfl rfl ?_
    refine Gz.icmpYes 162 X5 hx (dd at_137) (flt (by decide : ¬ ((2 : Int32) < (1 : Int32)))).2.2.2 (by decide) (by decide) ?_
    refine Gz.iload 164 X5 hx (dd at_162) rfl rfl ?_
    refine Gz.iconst 165 (3 : Int32) X5 hx (dd at_164) rfl rfl ?_
    refine Gz.icmpYes 191 X5 hx (dd at_165) (flt (by decide : ¬ ((3 : Int32) < (1 : Int32)))).2.2.2 (by decide) (by decide) ?_
    refine Gz.iload 193 X5 hx (dd at_191) rfl rfl ?_
    refine Gz.fin X5 (v := some (.int (1 : Int32))) (fun h => by rw [hret] at h; cases h) hlk (by decide) (by decide) (fun fs hr => retN X5 hx (t := .boolean) hret (by simp) (dd at_193) hr) ?_
    exact ⟨rfl, N5⟩
  · rw [hs1]
    refine Gz.istore 7 #[.val (.int p0), .val (.int p1), .val (.int p2), .val (.int p3), .val (.int p4), .val (.int (2 : Int32)), .unset, .unset] X0 hx (dd at_5) rfl rfl ?_
    refine Gz.iload 9 X0 hx (dd at_7) rfl rfl ?_
    obtain ⟨T8, h8, k8, X8, e8, E8, A8, Q8, st8⟩ := newPE X0 hx hZ (ww hw 0 rfl) e0 (g := (mkF m 9 #[.val (.int p0), .val (.int p1), .val (.int p2), .val (.int p3), .val (.int p4), .val (.int (2 : Int32)), .unset, .unset] [(.int (2 : Int32))])) rfl (dd at_9) rfl (by decide) (cap := 2) (by decide) (by decide) (by decide) (by decide) (ad := "[D") rfl
    obtain ⟨b8, g8⟩ : ∃ z, z = h0.size := ⟨_, rfl⟩
    rw [← g8] at A8 Q8 st8
    have g_b8 : n0 ≤ b8 := Nat.le_trans Z0 (Nat.le_of_eq g8.symm)
    have SZ8 : n0 ≤ h8.size := Nat.le_trans Z0 E8.1
    have V8 : Arv Z h8 b8 k8 .double (2 : Int32) [(.double (0 : UInt64)), (.double (0 : UInt64))] (.double (0 : UInt64)) := (Arv.new A8 (by decide)).pad (pad_rep [] (.double (0 : UInt64)) 2)
    refine Gz.st st8 ?_
    refine Gz.astore 13 #[.val (.int p0), .val (.int p1), .val (.int p2), .val (.int p3), .val (.int p4), .val (.int (2 : Int32)), .val (.ref b8), .unset] X8 hx (dd at_11) rfl rfl rfl ?_
    refine Gz.aload 15 X8 hx (dd at_13) rfl rfl rfl ?_
    refine Gz.iconst 16 (0 : Int32) X8 hx (dd at_15) rfl rfl ?_
    refine Gz.iload 18 X8 hx (dd at_16) rfl rfl ?_
    refine Gz.i2lV 19 (2 : Int64) X8 hx (dd at_18) rfl rfl ?_
    refine Gz.iloadN 20 X8 hx (dd at_19) rfl rfl ?_
    refine Gz.i2l 21 X8 hx (dd at_20) rfl ?_
    refine Gz.lmul 22 X8 hx (dd at_21) rfl ?_
    refine Gz.l2d 23 X8 hx (dd at_22) rfl ?_
    obtain ⟨c9, A9, q9, S9, N9, H9, G9⟩ := id V8
    have hin9 : ¬ ((0 : Int32) < 0 ∨ c9.slots.size ≤ ((0 : Int32)).toNatClampNeg) := inb_of S9 ⟨by decide, by decide⟩
    refine Gz.stD 24 X8 hx hZ (dd at_23) e8 A9 hin9 rfl fun T10 h10 X10 e10 W10 => ?_
    have V10 := Arv.set A9 q9 S9 N9 H9 G9 rfl W10 0 rfl (Nat.le_of_ble_eq_true rfl)
    replace V10 : Arv Z h10 b8 k8 .double (2 : Int32) [(.double (FP.l2d ((2 : Int64) * (p1.toInt64)))), (.double (0 : UInt64))] (.double (0 : UInt64)) := V10
    have f10_Eb8 := Exa.wr W10 Q8
    have N10 := Fr.snoc X10 N0 g_b8
    have SZ10 : n0 ≤ h10.size := Nat.le_trans SZ8 (Keep.of_wr W10).1
    refine Gz.iload 26 X10 hx (dd at_24) rfl rfl ?_
    refine Gz.iconst 27 (1 : Int32) X10 hx (dd at_26) rfl rfl ?_
    refine Gz.icmpNo 30 X10 hx (dd at_27) (tlt (by decide : (1 : Int32) < (2 : Int32))).2.2.2 rfl ?_
    refine Gz.aload 32 X10 hx (dd at_30) rfl rfl rfl ?_
    refine Gz.iconst 33 (1 : Int32) X10 hx (dd at_32) rfl rfl ?_
    refine Gz.iload 35 X10 hx (dd at_33) rfl rfl ?_
    refine Gz.i2lV 36 (2 : Int64) X10 hx (dd at_35) rfl rfl ?_
    refine Gz.iloadN 37 X10 hx (dd at_36) rfl rfl ?_
    refine Gz.i2l 38 X10 hx (dd at_37) rfl ?_
    refine Gz.lmul 39 X10 hx (dd at_38) rfl ?_
    refine Gz.l2d 40 X10 hx (dd at_39) rfl ?_
    obtain ⟨c11, A11, q11, S11, N11, H11, G11⟩ := id V10
    have hin11 : ¬ ((1 : Int32) < 0 ∨ c11.slots.size ≤ ((1 : Int32)).toNatClampNeg) := inb_of S11 ⟨by decide, by decide⟩
    refine Gz.stD 41 X10 hx hZ (dd at_40) e10 A11 hin11 rfl fun T12 h12 X12 e12 W12 => ?_
    have V12 := Arv.set A11 q11 S11 N11 H11 G11 rfl W12 1 rfl (Nat.le_of_ble_eq_true rfl)
    replace V12 : Arv Z h12 b8 k8 .double (2 : Int32) [(.double (FP.l2d ((2 : Int64) * (p1.toInt64)))), (.double (FP.l2d ((2 : Int64) * (p2.toInt64))))] (.double (0 : UInt64)) := V12
    have f12_Eb8 := Exa.wr W12 f10_Eb8
    have N12 := Fr.snoc X12 N10 g_b8
    have SZ12 : n0 ≤ h12.size := Nat.le_trans SZ10 (Keep.of_wr W12).1
    refine Gz.iload 43 X12 hx (dd at_41) rfl rfl ?_
    refine Gz.iconst 44 (2 : Int32) X12 hx (dd at_43) rfl rfl ?_
    refine Gz.icmpYes 58 X12 hx (dd at_44) (flt (by decide : ¬ ((2 : Int32) < (2 : Int32)))).2.2.2 (by decide) (by decide) ?_
    refine Gz.iload 60 X12 hx (dd at_58) rfl rfl ?_
    refine Gz.iconst 61 (3 : Int32) X12 hx (dd at_60) rfl rfl ?_
    refine Gz.icmpYes 76 X12 hx (dd at_61) (flt (by decide : ¬ ((3 : Int32) < (2 : Int32)))).2.2.2 (by decide) (by decide) ?_
    refine Gz.aload 78 X12 hx (dd at_76) rfl rfl rfl ?_
    obtain ⟨_, _, ⟨T13, L13, k13, n13⟩, -, X13, ⟨Lc13, hQ13, l13, y13, z13⟩, st13⟩ := Jvm.LawKit.callS X12 hx (y := ym0) hown (mvT hZ (ww hw 1 rfl)) (mvT hZ (ww hw 2 rfl)) (mvT hZ (ww hw 3 rfl)) (mvT hZ (ww hw 4 rfl)) (by decide) (backOf (W := 0) (rmN2 l Z av0 hw [] b8 k8 (FP.l2d ((2 : Int64) * (p1.toInt64))) (FP.l2d ((2 : Int64) * (p2.toInt64))) h12 n0 SZ12 V12 g_b8 (own_nn p1 (2 : Int32) (2 : Int64) (by decide) (by decide) (by decide)) (own_nn p2 (2 : Int32) (2 : Int64) (by decide) (by decide) (by decide))) hZ (ww hw 4 rfl) (ww hw 3 rfl) (by decide) (by decide)) (g := (mkF m 78 #[.val (.int p0), .val (.int p1), .val (.int p2), .val (.int p3), .val (.int p4), .val (.int (2 : Int32)), .val (.ref b8), .unset] [(.ref b8)])) rfl (by rw [hml]; rfl) (argsL := [(.ref b8)]) (rest := []) (lenOf pd_0 rfl) rfl (Nat.le_refl _) (dd at_78) (fun _ _ => ⟨rfl, e12, (by decide : 1 + 0 ≤ _), (by decide : 2 + 0 ≤ _)⟩)
    dsimp only [Pt.U, Pt.locs, Pt.cells, Pt.slots, Q_rmN2] at X13 l13 y13 z13 st13 hQ13
    subst l13 y13 z13
    rw [own_dv p1 (2 : Int32) (2 : Int64) (by decide) (by decide) (by decide), own_dv p2 (2 : Int32) (2 : Int64) (by decide) (by decide) (by decide)] at hQ13
    obtain ⟨rfl, N13q, K13q, QA13⟩ := hQ13
    have N13 := Fr.app N12 N13q
    have f13_Eb8 := Exa.keep f12_Eb8 K13q
    have SZ13 := Nat.le_trans SZ12 K13q.1
    refine Gz.st st13 ?_
    refine Gz.aload 83 X13 hx (dd at_81) rfl rfl rfl ?_
    obtain ⟨c14, A14, -, S14, N14, -, -⟩ := id QA13
    refine Gz.alen 84 X13 hx hZ (dd at_83) rfl A14 S14 N14 rfl ?_
    refine Gz.iload 86 X13 hx (dd at_84) rfl rfl ?_
    refine Gz.icmpNo 89 X13 hx (dd at_86) (teq (by decide : (2 : Int32) = (2 : Int32))).2 rfl ?_
    refine Gz.aload 91 X13 hx (dd at_89) rfl rfl rfl ?_
    refine Gz.iconst 92 (0 : Int32) X13 hx (dd at_91) rfl rfl ?_
    obtain ⟨c15, A15, q15, S15, N15, H15, G15⟩ := id QA13
    have hin15 : ¬ ((0 : Int32) < 0 ∨ c15.slots.size ≤ ((0 : Int32)).toNatClampNeg) := inb_of S15 ⟨by decide, by decide⟩
    refine Gz.ldD 93 X13 hx hZ (dd at_92) rfl A15 hin15 (Has.at H15 hin15 (rfl : _ = ((.double (FP.l2d (p1.toInt64))) : Value))) rfl ?_
    refine Gz.iloadN 94 X13 hx (dd at_93) rfl rfl ?_
    refine Gz.i2d 95 X13 hx (dd at_94) rfl ?_
    refine Gz.dcmp 96 X13 hx (dd at_95) rfl ?_
    refine Gz.ifNo 99 X13 hx (dd at_96) ((if0 _ _).trans (teq (own_cm p1 .l : (cmpValue (FP.dcmp (FP.l2d (p1.toInt64)) (FP.i2d p1)) .l) = (0 : Int32))).2) rfl ?_
    refine Gz.iconst 100 (1 : Int32) X13 hx (dd at_99) rfl rfl ?_
    refine Gz.goto 104 X13 hx (dd at_100) (by decide) (by decide) ?_
    refine Gz.istore 106 #[.val (.int p0), .val (.int p1), .val (.int p2), .val (.int p3), .val (.int p4), .val (.int (2 : Int32)), .val (.ref b8), .val (.int (1 : Int32))] X13 hx (dd at_104) rfl rfl ?_
    refine Gz.iload 108 X13 hx (dd at_106) rfl rfl ?_
    refine Gz.iconst 109 (1 : Int32) X13 hx (dd at_108) rfl rfl ?_
    refine Gz.icmpNo 112 X13 hx (dd at_109) (tlt (by decide : (1 : Int32) < (2 : Int32))).2.2.2 rfl ?_
    refine Gz.iload 114 X13 hx (dd at_112) rfl rfl ?_
    refine Gz.ifNo 117 X13 hx (dd at_114) ((if0 _ _).trans (feq (by decide : ¬ ((1 : Int32) = (0 : Int32)))).1) rfl ?_
    refine Gz.aload 119 X13 hx (dd at_117) rfl rfl rfl ?_
    refine Gz.iconst 120 (1 : Int32) X13 hx (dd at_119) rfl rfl ?_
    obtain ⟨c16, A16, q16, S16, N16, H16, G16⟩ := id QA13
    have hin16 : ¬ ((1 : Int32) < 0 ∨ c16.slots.size ≤ ((1 : Int32)).toNatClampNeg) := inb_of S16 ⟨by decide, by decide⟩
    refine Gz.ldD 121 X13 hx hZ (dd at_120) rfl A16 hin16 (Has.at H16 hin16 (rfl : _ = ((.double (FP.l2d (p2.toInt64))) : Value))) rfl ?_
    refine Gz.iloadN 122 X13 hx (dd at_121) rfl rfl ?_
    refine Gz.i2d 123 X13 hx (dd at_122) rfl ?_
    refine Gz.dcmp 124 X13 hx (dd at_123) rfl ?_
    refine Gz.ifNo 127 X13 hx (dd at_124) ((if0 _ _).trans (teq (own_cm p2 .l : (cmpValue (FP.dcmp (FP.l2d (p2.toInt64)) (FP.i2d p2)) .l) = (0 : Int32))).2) rfl ?_
    refine Gz.iconst 128 (1 : Int32) X13 hx (dd at_127) rfl rfl ?_
    refine Gz.goto 132 X13 hx (dd at_128) (by decide) (by decide) ?_
    refine Gz.istore 134 #[.val (.int p0), .val (.int p1), .val (.int p2), .val (.int p3), .val (.int p4), .val (.int (2 : Int32)), .val (.ref b8), .val (.int (1 : Int32))] X13 hx (dd at_132) rfl rfl ?_
    refine Gz.iload 136 X13 hx (dd at_134) rfl rfl ?_
    refine Gz.iconst 137 (2 : Int32) X13 hx (dd at_136) rfl rfl ?_
    refine Gz.icmpYes 162 X13 hx (dd at_137) (flt (by decide : ¬ ((2 : Int32) < (2 : Int32)))).2.2.2 (by decide) (by decide) ?_
    refine Gz.iload 164 X13 hx (dd at_162) rfl rfl ?_
    refine Gz.iconst 165 (3 : Int32) X13 hx (dd at_164) rfl rfl ?_
    refine Gz.icmpYes 191 X13 hx (dd at_165) (flt (by decide : ¬ ((3 : Int32) < (2 : Int32)))).2.2.2 (by decide) (by decide) ?_
    refine Gz.iload 193 X13 hx (dd at_191) rfl rfl ?_
    refine Gz.fin X13 (v := some (.int (1 : Int32))) (fun h => by rw [hret] at h; cases h) hlk (by decide) (by decide) (fun fs hr => retN X13 hx (t := .boolean) hret (by simp) (dd at_193) hr) ?_
    exact ⟨rfl, N13⟩
  · rw [hs1]
    refine Gz.istore 7 #[.val (.int p0), .val (.int p1), .val (.int p2), .val (.int p3), .val (.int p4), .val (.int (3 : Int32)), .unset, .unset] X0 hx (dd at_5) rfl rfl ?_
    refine Gz.iload 9 X0 hx (dd at_7) rfl rfl ?_
    obtain ⟨T17, h17, k17, X17, e17, E17, A17, Q17, st17⟩ := newPE X0 hx hZ (ww hw 0 rfl) e0 (g := (mkF m 9 #[.val (.int p0), .val (.int p1), .val (.int p2), .val (.int p3), .val (.int p4), .val (.int (3 : Int32)), .unset, .unset] [(.int (3 : Int32))])) rfl (dd at_9) rfl (by decide) (cap := 3) (by decide) (by decide) (by decide) (by decide) (ad := "[D") rfl
    obtain ⟨b17, g17⟩ : ∃ z, z = h0.size := ⟨_, rfl⟩
    rw [← g17] at A17 Q17 st17
    have g_b17 : n0 ≤ b17 := Nat.le_trans Z0 (Nat.le_of_eq g17.symm)
    have SZ17 : n0 ≤ h17.size := Nat.le_trans Z0 E17.1
    have V17 : Arv Z h17 b17 k17 .double (3 : Int32) [(.double (0 : UInt64)), (.double (0 : UInt64)), (.double (0 : UInt64))] (.double (0 : UInt64)) := (Arv.new A17 (by decide)).pad (pad_rep [] (.double (0 : UInt64)) 3)
    refine Gz.st st17 ?_
    refine Gz.astore 13 #[.val (.int p0), .val (.int p1), .val (.int p2), .val (.int p3), .val (.int p4), .val (.int (3 : Int32)), .val (.ref b17), .unset] X17 hx (dd at_11) rfl rfl rfl ?_
    refine Gz.aload 15 X17 hx (dd at_13) rfl rfl rfl ?_
    refine Gz.iconst 16 (0 : Int32) X17 hx (dd at_15) rfl rfl ?_
    refine Gz.iload 18 X17 hx (dd at_16) rfl rfl ?_
    refine Gz.i2lV 19 (3 : Int64) X17 hx (dd at_18) rfl rfl ?_
    refine Gz.iloadN 20 X17 hx (dd at_19) rfl rfl ?_
    refine Gz.i2l 21 X17 hx (dd at_20) rfl ?_
    refine Gz.lmul 22 X17 hx (dd at_21) rfl ?_
    refine Gz.l2d 23 X17 hx (dd at_22) rfl ?_
    obtain ⟨c18, A18, q18, S18, N18, H18, G18⟩ := id V17
    have hin18 : ¬ ((0 : Int32) < 0 ∨ c18.slots.size ≤ ((0 : Int32)).toNatClampNeg) := inb_of S18 ⟨by decide, by decide⟩
    refine Gz.stD 24 X17 hx hZ (dd at_23) e17 A18 hin18 rfl fun T19 h19 X19 e19 W19 => ?_
    have V19 := Arv.set A18 q18 S18 N18 H18 G18 rfl W19 0 rfl (Nat.le_of_ble_eq_true rfl)
    replace V19 : Arv Z h19 b17 k17 .double (3 : Int32) [(.double (FP.l2d ((3 : Int64) * (p1.toInt64)))), (.double (0 : UInt64)), (.double (0 : UInt64))] (.double (0 : UInt64)) := V19
    have f19_Eb17 := Exa.wr W19 Q17
    have N19 := Fr.snoc X19 N0 g_b17
    have SZ19 : n0 ≤ h19.size := Nat.le_trans SZ17 (Keep.of_wr W19).1
    refine Gz.iload 26 X19 hx (dd at_24) rfl rfl ?_
    refine Gz.iconst 27 (1 : Int32) X19 hx (dd at_26) rfl rfl ?_
    refine Gz.icmpNo 30 X19 hx (dd at_27) (tlt (by decide : (1 : Int32) < (3 : Int32))).2.2.2 rfl ?_
    refine Gz.aload 32 X19 hx (dd at_30) rfl rfl rfl ?_
    refine Gz.iconst 33 (1 : Int32) X19 hx (dd at_32) rfl rfl ?_
    refine Gz.iload 35 X19 hx (dd at_33) rfl rfl ?_
    refine Gz.i2lV 36 (3 : Int64) X19 hx (dd at_35) rfl rfl ?_
    refine Gz.iloadN 37 X19 hx (dd at_36) rfl rfl ?_
    refine Gz.i2l 38 X19 hx (dd at_37) rfl ?_
    refine Gz.lmul 39 X19 hx (dd at_38) rfl ?_
    refine Gz.l2d 40 X19 hx (dd at_39) rfl ?_
    obtain ⟨c20, A20, q20, S20, N20, H20, G20⟩ := id V19
    have hin20 : ¬ ((1 : Int32) < 0 ∨ c20.slots.size ≤ ((1 : Int32)).toNatClampNeg) := inb_of S20 ⟨by decide, by decide⟩
    refine Gz.stD 41 X19 hx hZ (dd at_40) e19 A20 hin20 rfl fun T21 h21 X21 e21 W21 => ?_
    have V21 := Arv.set A20 q20 S20 N20 H20 G20 rfl W21 1 rfl (Nat.le_of_ble_eq_true rfl)
    replace V21 : Arv Z h21 b17 k17 .double (3 : Int32) [(.double (FP.l2d ((3 : Int64) * (p1.toInt64)))), (.double (FP.l2d ((3 : Int64) * (p2.toInt64)))), (.double (0 : UInt64))] (.double (0 : UInt64)) := V21
    have f21_Eb17 := Exa.wr W21 f19_Eb17
    have N21 := Fr.snoc X21 N19 g_b17
    have SZ21 : n0 ≤ h21.size := Nat.le_trans SZ19 (Keep.of_wr W21).1
    refine Gz.iload 43 X21 hx (dd at_41) rfl rfl ?_
    refine Gz.iconst 44 (2 : Int32) X21 hx (dd at_43) rfl rfl ?_
    refine Gz.icmpNo 47 X21 hx (dd at_44) (tlt (by decide : (2 : Int32) < (3 : Int32))).2.2.2 rfl ?_
    refine Gz.aload 49 X21 hx (dd at_47) rfl rfl rfl ?_
    refine Gz.iconst 50 (2 : Int32) X21 hx (dd at_49) rfl rfl ?_
    refine Gz.iload 52 X21 hx (dd at_50) rfl rfl ?_
    refine Gz.i2lV 53 (3 : Int64) X21 hx (dd at_52) rfl rfl ?_
    refine Gz.iloadN 54 X21 hx (dd at_53) rfl rfl ?_
    refine Gz.i2l 55 X21 hx (dd at_54) rfl ?_
    refine Gz.lmul 56 X21 hx (dd at_55) rfl ?_
    refine Gz.l2d 57 X21 hx (dd at_56) rfl ?_
    obtain ⟨c22, A22, q22, S22, N22, H22, G22⟩ := id V21
    have hin22 : ¬ ((2 : Int32) < 0 ∨ c22.slots.size ≤ ((2 : Int32)).toNatClampNeg) := inb_of S22 ⟨by decide, by decide⟩
    refine Gz.stD 58 X21 hx hZ (dd at_57) e21 A22 hin22 rfl fun T23 h23 X23 e23 W23 => ?_
    have V23 := Arv.set A22 q22 S22 N22 H22 G22 rfl W23 2 rfl (Nat.le_of_ble_eq_true rfl)
    replace V23 : Arv Z h23 b17 k17 .double (3 : Int32) [(.double (FP.l2d ((3 : Int64) * (p1.toInt64)))), (.double (FP.l2d ((3 : Int64) * (p2.toInt64)))), (.double (FP.l2d ((3 : Int64) * (p3.toInt64))))] (.double (0 : UInt64)) := V23
    have f23_Eb17 := Exa.wr W23 f21_Eb17
    have N23 := Fr.snoc X23 N21 g_b17
    have SZ23 : n0 ≤ h23.size := Nat.le_trans SZ21 (Keep.of_wr W23).1
    refine Gz.iload 60 X23 hx (dd at_58) rfl rfl ?_
    refine Gz.iconst 61 (3 : Int32) X23 hx (dd at_60) rfl rfl ?_
    refine Gz.icmpYes 76 X23 hx (dd at_61) (flt (by decide : ¬ ((3 : Int32) < (3 : Int32)))).2.2.2 (by decide) (by decide) ?_
    refine Gz.aload 78 X23 hx (dd at_76) rfl rfl rfl ?_
    obtain ⟨_, _, ⟨T24, L24, k24, n24⟩, -, X24, ⟨Lc24, hQ24, l24, y24, z24⟩, st24⟩ := Jvm.LawKit.callS X23 hx (y := ym0) hown (mvT hZ (ww hw 1 rfl)) (mvT hZ (ww hw 2 rfl)) (mvT hZ (ww hw 3 rfl)) (mvT hZ (ww hw 4 rfl)) (by decide) (backOf (W := 0) (rmN3 l Z av0 hw [] b17 k17 (FP.l2d ((3 : Int64) * (p1.toInt64))) (FP.l2d ((3 : Int64) * (p2.toInt64))) (FP.l2d ((3 : Int64) * (p3.toInt64))) h23 n0 SZ23 V23 g_b17 (own_nn p1 (3 : Int32) (3 : Int64) (by decide) (by decide) (by decide)) (own_nn p2 (3 : Int32) (3 : Int64) (by decide) (by decide) (by decide)) (own_nn p3 (3 : Int32) (3 : Int64) (by decide) (by decide) (by decide))) hZ (ww hw 4 rfl) (ww hw 3 rfl) (by decide) (by decide)) (g := (mkF m 78 #[.val (.int p0), .val (.int p1), .val (.int p2), .val (.int p3), .val (.int p4), .val (.int (3 : Int32)), .val (.ref b17), .unset] [(.ref b17)])) rfl (by rw [hml]; rfl) (argsL := [(.ref b17)]) (rest := []) (lenOf pd_0 rfl) rfl (Nat.le_refl _) (dd at_78) (fun _ _ => ⟨rfl, e23, (by decide : 1 + 0 ≤ _), (by decide : 3 + 0 ≤ _)⟩)
    dsimp only [Pt.U, Pt.locs, Pt.cells, Pt.slots, Q_rmN3] at X24 l24 y24 z24 st24 hQ24
    subst l24 y24 z24
    rw [own_dv p1 (3 : Int32) (3 : Int64) (by decide) (by decide) (by decide), own_dv p2 (3 : Int32) (3 : Int64) (by decide) (by decide) (by decide), own_dv p3 (3 : Int32) (3 : Int64) (by decide) (by decide) (by decide)] at hQ24
    obtain ⟨rfl, N24q, K24q, QA24⟩ := hQ24
    have N24 := Fr.app N23 N24q
    have f24_Eb17 := Exa.keep f23_Eb17 K24q
    have SZ24 := Nat.le_trans SZ23 K24q.1
    refine Gz.st st24 ?_
    refine Gz.aload 83 X24 hx (dd at_81) rfl rfl rfl ?_
    obtain ⟨c25, A25, -, S25, N25, -, -⟩ := id QA24
    refine Gz.alen 84 X24 hx hZ (dd at_83) rfl A25 S25 N25 rfl ?_
    refine Gz.iload 86 X24 hx (dd at_84) rfl rfl ?_
    refine Gz.icmpNo 89 X24 hx (dd at_86) (teq (by decide : (3 : Int32) = (3 : Int32))).2 rfl ?_
    refine Gz.aload 91 X24 hx (dd at_89) rfl rfl rfl ?_
    refine Gz.iconst 92 (0 : Int32) X24 hx (dd at_91) rfl rfl ?_
    obtain ⟨c26, A26, q26, S26, N26, H26, G26⟩ := id QA24
    have hin26 : ¬ ((0 : Int32) < 0 ∨ c26.slots.size ≤ ((0 : Int32)).toNatClampNeg) := inb_of S26 ⟨by decide, by decide⟩
    refine Gz.ldD 93 X24 hx hZ (dd at_92) rfl A26 hin26 (Has.at H26 hin26 (rfl : _ = ((.double (FP.l2d (p1.toInt64))) : Value))) rfl ?_
    refine Gz.iloadN 94 X24 hx (dd at_93) rfl rfl ?_
    refine Gz.i2d 95 X24 hx (dd at_94) rfl ?_
    refine Gz.dcmp 96 X24 hx (dd at_95) rfl ?_
    refine Gz.ifNo 99 X24 hx (dd at_96) ((if0 _ _).trans (teq (own_cm p1 .l : (cmpValue (FP.dcmp (FP.l2d (p1.toInt64)) (FP.i2d p1)) .l) = (0 : Int32))).2) rfl ?_
    refine Gz.iconst 100 (1 : Int32) X24 hx (dd at_99) rfl rfl ?_
    refine Gz.goto 104 X24 hx (dd at_100) (by decide) (by decide) ?_
    refine Gz.istore 106 #[.val (.int p0), .val (.int p1), .val (.int p2), .val (.int p3), .val (.int p4), .val (.int (3 : Int32)), .val (.ref b17), .val (.int (1 : Int32))] X24 hx (dd at_104) rfl rfl ?_
    refine Gz.iload 108 X24 hx (dd at_106) rfl rfl ?_
    refine Gz.iconst 109 (1 : Int32) X24 hx (dd at_108) rfl rfl ?_
    refine Gz.icmpNo 112 X24 hx (dd at_109) (tlt (by decide : (1 : Int32) < (3 : Int32))).2.2.2 rfl ?_
    refine Gz.iload 114 X24 hx (dd at_112) rfl rfl ?_
    refine Gz.ifNo 117 X24 hx (dd at_114) ((if0 _ _).trans (feq (by decide : ¬ ((1 : Int32) = (0 : Int32)))).1) rfl ?_
    refine Gz.aload 119 X24 hx (dd at_117) rfl rfl rfl ?_
    refine Gz.iconst 120 (1 : Int32) X24 hx (dd at_119) rfl rfl ?_
    obtain ⟨c27, A27, q27, S27, N27, H27, G27⟩ := id QA24
    have hin27 : ¬ ((1 : Int32) < 0 ∨ c27.slots.size ≤ ((1 : Int32)).toNatClampNeg) := inb_of S27 ⟨by decide, by decide⟩
    refine Gz.ldD 121 X24 hx hZ (dd at_120) rfl A27 hin27 (Has.at H27 hin27 (rfl : _ = ((.double (FP.l2d (p2.toInt64))) : Value))) rfl ?_
    refine Gz.iloadN 122 X24 hx (dd at_121) rfl rfl ?_
    refine Gz.i2d 123 X24 hx (dd at_122) rfl ?_
    refine Gz.dcmp 124 X24 hx (dd at_123) rfl ?_
    refine Gz.ifNo 127 X24 hx (dd at_124) ((if0 _ _).trans (teq (own_cm p2 .l : (cmpValue (FP.dcmp (FP.l2d (p2.toInt64)) (FP.i2d p2)) .l) = (0 : Int32))).2) rfl ?_
    refine Gz.iconst 128 (1 : Int32) X24 hx (dd at_127) rfl rfl ?_
    refine Gz.goto 132 X24 hx (dd at_128) (by decide) (by decide) ?_
    refine Gz.istore 134 #[.val (.int p0), .val (.int p1), .val (.int p2), .val (.int p3), .val (.int p4), .val (.int (3 : Int32)), .val (.ref b17), .val (.int (1 : Int32))] X24 hx (dd at_132) rfl rfl ?_
    refine Gz.iload 136 X24 hx (dd at_134) rfl rfl ?_
    refine Gz.iconst 137 (2 : Int32) X24 hx (dd at_136) rfl rfl ?_
    refine Gz.icmpNo 140 X24 hx (dd at_137) (tlt (by decide : (2 : Int32) < (3 : Int32))).2.2.2 rfl ?_
    refine Gz.iload 142 X24 hx (dd at_140) rfl rfl ?_
    refine Gz.ifNo 145 X24 hx (dd at_142) ((if0 _ _).trans (feq (by decide : ¬ ((1 : Int32) = (0 : Int32)))).1) rfl ?_
    refine Gz.aload 147 X24 hx (dd at_145) rfl rfl rfl ?_
    refine Gz.iconst 148 (2 : Int32) X24 hx (dd at_147) rfl rfl ?_
    obtain ⟨c28, A28, q28, S28, N28, H28, G28⟩ := id QA24
    have hin28 : ¬ ((2 : Int32) < 0 ∨ c28.slots.size ≤ ((2 : Int32)).toNatClampNeg) := inb_of S28 ⟨by decide, by decide⟩
    refine Gz.ldD 149 X24 hx hZ (dd at_148) rfl A28 hin28 (Has.at H28 hin28 (rfl : _ = ((.double (FP.l2d (p3.toInt64))) : Value))) rfl ?_
    refine Gz.iloadN 150 X24 hx (dd at_149) rfl rfl ?_
    refine Gz.i2d 151 X24 hx (dd at_150) rfl ?_
    refine Gz.dcmp 152 X24 hx (dd at_151) rfl ?_
    refine Gz.ifNo 155 X24 hx (dd at_152) ((if0 _ _).trans (teq (own_cm p3 .l : (cmpValue (FP.dcmp (FP.l2d (p3.toInt64)) (FP.i2d p3)) .l) = (0 : Int32))).2) rfl ?_
    refine Gz.iconst 156 (1 : Int32) X24 hx (dd at_155) rfl rfl ?_
    refine Gz.goto 160 X24 hx (dd at_156) (by decide) (by decide) ?_
    refine Gz.istore 162 #[.val (.int p0), .val (.int p1), .val (.int p2), .val (.int p3), .val (.int p4), .val (.int (3 : Int32)), .val (.ref b17), .val (.int (1 : Int32))] X24 hx (dd at_160) rfl rfl ?_
    refine Gz.iload 164 X24 hx (dd at_162) rfl rfl ?_
    refine Gz.iconst 165 (3 : Int32) X24 hx (dd at_164) rfl rfl ?_
    refine Gz.icmpYes 191 X24 hx (dd at_165) (flt (by decide : ¬ ((3 : Int32) < (3 : Int32)))).2.2.2 (by decide) (by decide) ?_
    refine Gz.iload 193 X24 hx (dd at_191) rfl rfl ?_
    refine Gz.fin X24 (v := some (.int (1 : Int32))) (fun h => by rw [hret] at h; cases h) hlk (by decide) (by decide) (fun fs hr => retN X24 hx (t := .boolean) hret (by simp) (dd at_193) hr) ?_
    exact ⟨rfl, N24⟩
  · rw [hs1]
    refine Gz.istore 7 #[.val (.int p0), .val (.int p1), .val (.int p2), .val (.int p3), .val (.int p4), .val (.int (4 : Int32)), .unset, .unset] X0 hx (dd at_5) rfl rfl ?_
    refine Gz.iload 9 X0 hx (dd at_7) rfl rfl ?_
    obtain ⟨T29, h29, k29, X29, e29, E29, A29, Q29, st29⟩ := newPE X0 hx hZ (ww hw 0 rfl) e0 (g := (mkF m 9 #[.val (.int p0), .val (.int p1), .val (.int p2), .val (.int p3), .val (.int p4), .val (.int (4 : Int32)), .unset, .unset] [(.int (4 : Int32))])) rfl (dd at_9) rfl (by decide) (cap := 4) (by decide) (by decide) (by decide) (by decide) (ad := "[D") rfl
    obtain ⟨b29, g29⟩ : ∃ z, z = h0.size := ⟨_, rfl⟩
    rw [← g29] at A29 Q29 st29
    have g_b29 : n0 ≤ b29 := Nat.le_trans Z0 (Nat.le_of_eq g29.symm)
    have SZ29 : n0 ≤ h29.size := Nat.le_trans Z0 E29.1
    have V29 : Arv Z h29 b29 k29 .double (4 : Int32) [(.double (0 : UInt64)), (.double (0 : UInt64)), (.double (0 : UInt64)), (.double (0 : UInt64))] (.double (0 : UInt64)) := (Arv.new A29 (by decide)).pad (pad_rep [] (.double (0 : UInt64)) 4)
    refine Gz.st st29 ?_
    refine Gz.astore 13 #[.val (.int p0), .val (.int p1), .val (.int p2), .val (.int p3), .val (.int p4), .val (.int (4 : Int32)), .val (.ref b29), .unset] X29 hx (dd at_11) rfl rfl rfl ?_
    refine Gz.aload 15 X29 hx (dd at_13) rfl rfl rfl ?_
    refine Gz.iconst 16 (0 : Int32) X29 hx (dd at_15) rfl rfl ?_
    refine Gz.iload 18 X29 hx (dd at_16) rfl rfl ?_
    refine Gz.i2lV 19 (4 : Int64) X29 hx (dd at_18) rfl rfl ?_
    refine Gz.iloadN 20 X29 hx (dd at_19) rfl rfl ?_
    refine Gz.i2l 21 X29 hx (dd at_20) rfl ?_
    refine Gz.lmul 22 X29 hx (dd at_21) rfl ?_
    refine Gz.l2d 23 X29 hx (dd at_22) rfl ?_
    obtain ⟨c30, A30, q30, S30, N30, H30, G30⟩ := id V29
    have hin30 : ¬ ((0 : Int32) < 0 ∨ c30.slots.size ≤ ((0 : Int32)).toNatClampNeg) := inb_of S30 ⟨by decide, by decide⟩
    refine Gz.stD 24 X29 hx hZ (dd at_23) e29 A30 hin30 rfl fun T31 h31 X31 e31 W31 => ?_
    have V31 := Arv.set A30 q30 S30 N30 H30 G30 rfl W31 0 rfl (Nat.le_of_ble_eq_true rfl)
    replace V31 : Arv Z h31 b29 k29 .double (4 : Int32) [(.double (FP.l2d ((4 : Int64) * (p1.toInt64)))), (.double (0 : UInt64)), (.double (0 : UInt64)), (.double (0 : UInt64))] (.double (0 : UInt64)) := V31
    have f31_Eb29 := Exa.wr W31 Q29
    have N31 := Fr.snoc X31 N0 g_b29
    have SZ31 : n0 ≤ h31.size := Nat.le_trans SZ29 (Keep.of_wr W31).1
    refine Gz.iload 26 X31 hx (dd at_24) rfl rfl ?_
    refine Gz.iconst 27 (1 : Int32) X31 hx (dd at_26) rfl rfl ?_
    refine Gz.icmpNo 30 X31 hx (dd at_27) (tlt (by decide : (1 : Int32) < (4 : Int32))).2.2.2 rfl ?_
    refine Gz.aload 32 X31 hx (dd at_30) rfl rfl rfl ?_
    refine Gz.iconst 33 (1 : Int32) X31 hx (dd at_32) rfl rfl ?_
    refine Gz.iload 35 X31 hx (dd at_33) rfl rfl ?_
    refine Gz.i2lV 36 (4 : Int64) X31 hx (dd at_35) rfl rfl ?_
    refine Gz.iloadN 37 X31 hx (dd at_36) rfl rfl ?_
    refine Gz.i2l 38 X31 hx (dd at_37) rfl ?_
    refine Gz.lmul 39 X31 hx (dd at_38) rfl ?_
    refine Gz.l2d 40 X31 hx (dd at_39) rfl ?_
    obtain ⟨c32, A32, q32, S32, N32, H32, G32⟩ := id V31
    have hin32 : ¬ ((1 : Int32) < 0 ∨ c32.slots.size ≤ ((1 : Int32)).toNatClampNeg) := inb_of S32 ⟨by decide, by decide⟩
    refine Gz.stD 41 X31 hx hZ (dd at_40) e31 A32 hin32 rfl fun T33 h33 X33 e33 W33 => ?_
    have V33 := Arv.set A32 q32 S32 N32 H32 G32 rfl W33 1 rfl (Nat.le_of_ble_eq_true rfl)
    replace V33 : Arv Z h33 b29 k29 .double (4 : Int32) [(.double (FP.l2d ((4 : Int64) * (p1.toInt64)))), (.double (FP.l2d ((4 : Int64) * (p2.toInt64)))), (.double (0 : UInt64)), (.double (0 : UInt64))] (.double (0 : UInt64)) := V33
    have f33_Eb29 := Exa.wr W33 f31_Eb29
    have N33 := Fr.snoc X33 N31 g_b29
    have SZ33 : n0 ≤ h33.size := Nat.le_trans SZ31 (Keep.of_wr W33).1
    refine Gz.iload 43 X33 hx (dd at_41) rfl rfl ?_
    refine Gz.iconst 44 (2 : Int32) X33 hx (dd at_43) rfl rfl ?_
    refine Gz.icmpNo 47 X33 hx (dd at_44) (tlt (by decide : (2 : Int32) < (4 : Int32))).2.2.2 rfl ?_
    refine Gz.aload 49 X33 hx (dd at_47) rfl rfl rfl ?_
    refine Gz.iconst 50 (2 : Int32) X33 hx (dd at_49) rfl rfl ?_
    refine Gz.iload 52 X33 hx (dd at_50) rfl rfl ?_
    refine Gz.i2lV 53 (4 : Int64) X33 hx (dd at_52) rfl rfl ?_
    refine Gz.iloadN 54 X33 hx (dd at_53) rfl rfl ?_
    refine Gz.i2l 55 X33 hx (dd at_54) rfl ?_
    refine Gz.lmul 56 X33 hx (dd at_55) rfl ?_
    refine Gz.l2d 57 X33 hx (dd at_56) rfl ?_
    obtain ⟨c34, A34, q34, S34, N34, H34, G34⟩ := id V33
    have hin34 : ¬ ((2 : Int32) < 0 ∨ c34.slots.size ≤ ((2 : Int32)).toNatClampNeg) := inb_of S34 ⟨by decide, by decide⟩
    refine Gz.stD 58 X33 hx hZ (dd at_57) e33 A34 hin34 rfl fun T35 h35 X35 e35 W35 => ?_
    have V35 := Arv.set A34 q34 S34 N34 H34 G34 rfl W35 2 rfl (Nat.le_of_ble_eq_true rfl)
    replace V35 : Arv Z h35 b29 k29 .double (4 : Int32) [(.double (FP.l2d ((4 : Int64) * (p1.toInt64)))), (.double (FP.l2d ((4 : Int64) * (p2.toInt64)))), (.double (FP.l2d ((4 : Int64) * (p3.toInt64)))), (.double (0 : UInt64))] (.double (0 : UInt64)) := V35
    have f35_Eb29 := Exa.wr W35 f33_Eb29
    have N35 := Fr.snoc X35 N33 g_b29
    have SZ35 : n0 ≤ h35.size := Nat.le_trans SZ33 (Keep.of_wr W35).1
    refine Gz.iload 60 X35 hx (dd at_58) rfl rfl ?_
    refine Gz.iconst 61 (3 : Int32) X35 hx (dd at_60) rfl rfl ?_
    refine Gz.icmpNo 64 X35 hx (dd at_61) (tlt (by decide : (3 : Int32) < (4 : Int32))).2.2.2 rfl ?_
    refine Gz.aload 66 X35 hx (dd at_64) rfl rfl rfl ?_
    refine Gz.iconst 67 (3 : Int32) X35 hx (dd at_66) rfl rfl ?_
    refine Gz.iload 69 X35 hx (dd at_67) rfl rfl ?_
    refine Gz.i2lV 70 (4 : Int64) X35 hx (dd at_69) rfl rfl ?_
    refine Gz.iload 72 X35 hx (dd at_70) rfl rfl ?_
    refine Gz.i2l 73 X35 hx (dd at_72) rfl ?_
    refine Gz.lmul 74 X35 hx (dd at_73) rfl ?_
    refine Gz.l2d 75 X35 hx (dd at_74) rfl ?_
    obtain ⟨c36, A36, q36, S36, N36, H36, G36⟩ := id V35
    have hin36 : ¬ ((3 : Int32) < 0 ∨ c36.slots.size ≤ ((3 : Int32)).toNatClampNeg) := inb_of S36 ⟨by decide, by decide⟩
    refine Gz.stD 76 X35 hx hZ (dd at_75) e35 A36 hin36 rfl fun T37 h37 X37 e37 W37 => ?_
    have V37 := Arv.set A36 q36 S36 N36 H36 G36 rfl W37 3 rfl (Nat.le_of_ble_eq_true rfl)
    replace V37 : Arv Z h37 b29 k29 .double (4 : Int32) [(.double (FP.l2d ((4 : Int64) * (p1.toInt64)))), (.double (FP.l2d ((4 : Int64) * (p2.toInt64)))), (.double (FP.l2d ((4 : Int64) * (p3.toInt64)))), (.double (FP.l2d ((4 : Int64) * (p4.toInt64))))] (.double (0 : UInt64)) := V37
    have f37_Eb29 := Exa.wr W37 f35_Eb29
    have N37 := Fr.snoc X37 N35 g_b29
    have SZ37 : n0 ≤ h37.size := Nat.le_trans SZ35 (Keep.of_wr W37).1
    refine Gz.aload 78 X37 hx (dd at_76) rfl rfl rfl ?_
    obtain ⟨_, _, ⟨T38, L38, k38, n38⟩, -, X38, ⟨Lc38, hQ38, l38, y38, z38⟩, st38⟩ := Jvm.LawKit.callS X37 hx (y := ym0) hown (mvT hZ (ww hw 1 rfl)) (mvT hZ (ww hw 2 rfl)) (mvT hZ (ww hw 3 rfl)) (mvT hZ (ww hw 4 rfl)) (by decide) (backOf (W := 0) (rmN4 l Z av0 hw [] b29 k29 (FP.l2d ((4 : Int64) * (p1.toInt64))) (FP.l2d ((4 : Int64) * (p2.toInt64))) (FP.l2d ((4 : Int64) * (p3.toInt64))) (FP.l2d ((4 : Int64) * (p4.toInt64))) h37 n0 SZ37 V37 g_b29 (own_nn p1 (4 : Int32) (4 : Int64) (by decide) (by decide) (by decide)) (own_nn p2 (4 : Int32) (4 : Int64) (by decide) (by decide) (by decide)) (own_nn p3 (4 : Int32) (4 : Int64) (by decide) (by decide) (by decide)) (own_nn p4 (4 : Int32) (4 : Int64) (by decide) (by decide) (by decide))) hZ (ww hw 4 rfl) (ww hw 3 rfl) (by decide) (by decide)) (g := (mkF m 78 #[.val (.int p0), .val (.int p1), .val (.int p2), .val (.int p3), .val (.int p4), .val (.int (4 : Int32)), .val (.ref b29), .unset] [(.ref b29)])) rfl (by rw [hml]; rfl) (argsL := [(.ref b29)]) (rest := []) (lenOf pd_0 rfl) rfl (Nat.le_refl _) (dd at_78) (fun _ _ => ⟨rfl, e37, (by decide : 1 + 0 ≤ _), (by decide : 4 + 0 ≤ _)⟩)
    dsimp only [Pt.U, Pt.locs, Pt.cells, Pt.slots, Q_rmN4] at X38 l38 y38 z38 st38 hQ38
    subst l38 y38 z38
    rw [own_dv p1 (4 : Int32) (4 : Int64) (by decide) (by decide) (by decide), own_dv p2 (4 : Int32) (4 : Int64) (by decide) (by decide) (by decide), own_dv p3 (4 : Int32) (4 : Int64) (by decide) (by decide) (by decide), own_dv p4 (4 : Int32) (4 : Int64) (by decide) (by decide) (by decide)] at hQ38
    obtain ⟨rfl, N38q, K38q, QA38⟩ := hQ38
    have N38 := Fr.app N37 N38q
    have f38_Eb29 := Exa.keep f37_Eb29 K38q
    have SZ38 := Nat.le_trans SZ37 K38q.1
    refine Gz.st st38 ?_
    refine Gz.aload 83 X38 hx (dd at_81) rfl rfl rfl ?_
    obtain ⟨c39, A39, -, S39, N39, -, -⟩ := id QA38
    refine Gz.alen 84 X38 hx hZ (dd at_83) rfl A39 S39 N39 rfl ?_
    refine Gz.iload 86 X38 hx (dd at_84) rfl rfl ?_
    refine Gz.icmpNo 89 X38 hx (dd at_86) (teq (by decide : (4 : Int32) = (4 : Int32))).2 rfl ?_
    refine Gz.aload 91 X38 hx (dd at_89) rfl rfl rfl ?_
    refine Gz.iconst 92 (0 : Int32) X38 hx (dd at_91) rfl rfl ?_
    obtain ⟨c40, A40, q40, S40, N40, H40, G40⟩ := id QA38
    have hin40 : ¬ ((0 : Int32) < 0 ∨ c40.slots.size ≤ ((0 : Int32)).toNatClampNeg) := inb_of S40 ⟨by decide, by decide⟩
    refine Gz.ldD 93 X38 hx hZ (dd at_92) rfl A40 hin40 (Has.at H40 hin40 (rfl : _ = ((.double (FP.l2d (p1.toInt64))) : Value))) rfl ?_
    refine Gz.iloadN 94 X38 hx (dd at_93) rfl rfl ?_
    refine Gz.i2d 95 X38 hx (dd at_94) rfl ?_
    refine Gz.dcmp 96 X38 hx (dd at_95) rfl ?_
    refine Gz.ifNo 99 X38 hx (dd at_96) ((if0 _ _).trans (teq (own_cm p1 .l : (cmpValue (FP.dcmp (FP.l2d (p1.toInt64)) (FP.i2d p1)) .l) = (0 : Int32))).2) rfl ?_
    refine Gz.iconst 100 (1 : Int32) X38 hx (dd at_99) rfl rfl ?_
    refine Gz.goto 104 X38 hx (dd at_100) (by decide) (by decide) ?_
    refine Gz.istore 106 #[.val (.int p0), .val (.int p1), .val (.int p2), .val (.int p3), .val (.int p4), .val (.int (4 : Int32)), .val (.ref b29), .val (.int (1 : Int32))] X38 hx (dd at_104) rfl rfl ?_
    refine Gz.iload 108 X38 hx (dd at_106) rfl rfl ?_
    refine Gz.iconst 109 (1 : Int32) X38 hx (dd at_108) rfl rfl ?_
    refine Gz.icmpNo 112 X38 hx (dd at_109) (tlt (by decide : (1 : Int32) < (4 : Int32))).2.2.2 rfl ?_
    refine Gz.iload 114 X38 hx (dd at_112) rfl rfl ?_
    refine Gz.ifNo 117 X38 hx (dd at_114) ((if0 _ _).trans (feq (by decide : ¬ ((1 : Int32) = (0 : Int32)))).1) rfl ?_
    refine Gz.aload 119 X38 hx (dd at_117) rfl rfl rfl ?_
    refine Gz.iconst 120 (1 : Int32) X38 hx (dd at_119) rfl rfl ?_
    obtain ⟨c41, A41, q41, S41, N41, H41, G41⟩ := id QA38
    have hin41 : ¬ ((1 : Int32) < 0 ∨ c41.slots.size ≤ ((1 : Int32)).toNatClampNeg) := inb_of S41 ⟨by decide, by decide⟩
    refine Gz.ldD 121 X38 hx hZ (dd at_120) rfl A41 hin41 (Has.at H41 hin41 (rfl : _ = ((.double (FP.l2d (p2.toInt64))) : Value))) rfl ?_
    refine Gz.iloadN 122 X38 hx (dd at_121) rfl rfl ?_
    refine Gz.i2d 123 X38 hx (dd at_122) rfl ?_
    refine Gz.dcmp 124 X38 hx (dd at_123) rfl ?_
    refine Gz.ifNo 127 X38 hx (dd at_124) ((if0 _ _).trans (teq (own_cm p2 .l : (cmpValue (FP.dcmp (FP.l2d (p2.toInt64)) (FP.i2d p2)) .l) = (0 : Int32))).2) rfl ?_
    refine Gz.iconst 128 (1 : Int32) X38 hx (dd at_127) rfl rfl ?_
    refine Gz.goto 132 X38 hx (dd at_128) (by decide) (by decide) ?_
    refine Gz.istore 134 #[.val (.int p0), .val (.int p1), .val (.int p2), .val (.int p3), .val (.int p4), .val (.int (4 : Int32)), .val (.ref b29), .val (.int (1 : Int32))] X38 hx (dd at_132) rfl rfl ?_
    refine Gz.iload 136 X38 hx (dd at_134) rfl rfl ?_
    refine Gz.iconst 137 (2 : Int32) X38 hx (dd at_136) rfl rfl ?_
    refine Gz.icmpNo 140 X38 hx (dd at_137) (tlt (by decide : (2 : Int32) < (4 : Int32))).2.2.2 rfl ?_
    refine Gz.iload 142 X38 hx (dd at_140) rfl rfl ?_
    refine Gz.ifNo 145 X38 hx (dd at_142) ((if0 _ _).trans (feq (by decide : ¬ ((1 : Int32) = (0 : Int32)))).1) rfl ?_
    refine Gz.aload 147 X38 hx (dd at_145) rfl rfl rfl ?_
    refine Gz.iconst 148 (2 : Int32) X38 hx (dd at_147) rfl rfl ?_
    obtain ⟨c42, A42, q42, S42, N42, H42, G42⟩ := id QA38
    have hin42 : ¬ ((2 : Int32) < 0 ∨ c42.slots.size ≤ ((2 : Int32)).toNatClampNeg) := inb_of S42 ⟨by decide, by decide⟩
    refine Gz.ldD 149 X38 hx hZ (dd at_148) rfl A42 hin42 (Has.at H42 hin42 (rfl : _ = ((.double (FP.l2d (p3.toInt64))) : Value))) rfl ?_
    refine Gz.iloadN 150 X38 hx (dd at_149) rfl rfl ?_
    refine Gz.i2d 151 X38 hx (dd at_150) rfl ?_
    refine Gz.dcmp 152 X38 hx (dd at_151) rfl ?_
    refine Gz.ifNo 155 X38 hx (dd at_152) ((if0 _ _).trans (teq (own_cm p3 .l : (cmpValue (FP.dcmp (FP.l2d (p3.toInt64)) (FP.i2d p3)) .l) = (0 : Int32))).2) rfl ?_
    refine Gz.iconst 156 (1 : Int32) X38 hx (dd at_155) rfl rfl ?_
    refine Gz.goto 160 X38 hx (dd at_156) (by decide) (by decide) ?_
    refine Gz.istore 162 #[.val (.int p0), .val (.int p1), .val (.int p2), .val (.int p3), .val (.int p4), .val (.int (4 : Int32)), .val (.ref b29), .val (.int (1 : Int32))] X38 hx (dd at_160) rfl rfl ?_
    refine Gz.iload 164 X38 hx (dd at_162) rfl rfl ?_
    refine Gz.iconst 165 (3 : Int32) X38 hx (dd at_164) rfl rfl ?_
    refine Gz.icmpNo 168 X38 hx (dd at_165) (tlt (by decide : (3 : Int32) < (4 : Int32))).2.2.2 rfl ?_
    refine Gz.iload 170 X38 hx (dd at_168) rfl rfl ?_
    refine Gz.ifNo 173 X38 hx (dd at_170) ((if0 _ _).trans (feq (by decide : ¬ ((1 : Int32) = (0 : Int32)))).1) rfl ?_
    refine Gz.aload 175 X38 hx (dd at_173) rfl rfl rfl ?_
    refine Gz.iconst 176 (3 : Int32) X38 hx (dd at_175) rfl rfl ?_
    obtain ⟨c43, A43, q43, S43, N43, H43, G43⟩ := id QA38
    have hin43 : ¬ ((3 : Int32) < 0 ∨ c43.slots.size ≤ ((3 : Int32)).toNatClampNeg) := inb_of S43 ⟨by decide, by decide⟩
    refine Gz.ldD 177 X38 hx hZ (dd at_176) rfl A43 hin43 (Has.at H43 hin43 (rfl : _ = ((.double (FP.l2d (p4.toInt64))) : Value))) rfl ?_
    refine Gz.iload 179 X38 hx (dd at_177) rfl rfl ?_
    refine Gz.i2d 180 X38 hx (dd at_179) rfl ?_
    refine Gz.dcmp 181 X38 hx (dd at_180) rfl ?_
    refine Gz.ifNo 184 X38 hx (dd at_181) ((if0 _ _).trans (teq (own_cm p4 .l : (cmpValue (FP.dcmp (FP.l2d (p4.toInt64)) (FP.i2d p4)) .l) = (0 : Int32))).2) rfl ?_
    refine Gz.iconst 185 (1 : Int32) X38 hx (dd at_184) rfl rfl ?_
    refine Gz.goto 189 X38 hx (dd at_185) (by decide) (by decide) ?_
    refine Gz.istore 191 #[.val (.int p0), .val (.int p1), .val (.int p2), .val (.int p3), .val (.int p4), .val (.int (4 : Int32)), .val (.ref b29), .val (.int (1 : Int32))] X38 hx (dd at_189) rfl rfl ?_
    refine Gz.iload 193 X38 hx (dd at_191) rfl rfl ?_
    refine Gz.fin X38 (v := some (.int (1 : Int32))) (fun h => by rw [hret] at h; cases h) hlk (by decide) (by decide) (fun fs hr => retN X38 hx (t := .boolean) hret (by simp) (dd at_193) hr) ?_
    exact ⟨rfl, N38⟩
set_option maxRecDepth 65536 in
set_option maxHeartbeats 40000000 in
theorem comes_1 {Post : Tables → Env → Array Value → State → Outcome → State → Prop} (hpost : ∀ tb e args s v u, (limb_1_1.after args s (.returned v) u = true ∧ limb_1_2.after args s (.returned v) u = true ∧ True) → FrameEnd s (.returned v) u (Jvm.fieldLocs frame_1_writes args s ++ Jvm.arrayLocs frame_1_arrays args s ++ Jvm.staticLocs frame_1_statics s) 16 128 → Post tb e args s (.returned v) u) :
    ArmFor flags0 classFile x code maxLocals ret World_1 tables_1 room_1 Calls_1 rest_1 Pre_1 Post := by
  intro l hfl _ _ p e ha hc hk s m args below hf hA hF happ hP
  obtain ⟨hcalls, hrest, hpre⟩ := hP
  obtain ⟨-, -, -, hnamed, -, -, -, hat⟩ := (Spec.applies_iff hf).mp happ
  obtain ⟨hg, hn⟩ := and_e (Cond.before_iff.mp (show (Jvm.Cond.and given_1 narrow_1).before args s = true from hpre))
  obtain ⟨hcnt, hg0⟩ := and_e hg
  obtain ⟨ha0, hg1⟩ := and_e hg0
  obtain ⟨ha1, hg2⟩ := and_e hg1
  obtain ⟨ha2, hg3⟩ := and_e hg2
  obtain ⟨ha3, hg4⟩ := and_e hg3
  have ha4 := hg4
  obtain ⟨w0, w1, w2, w3, w4, rfl⟩ : ∃ w0 w1 w2 w3 w4 : Value, args = #[w0, w1, w2, w3, w4] := by
    have hs : args.size = 5 := by simpa [Cond.value, given_1] using hcnt
    obtain ⟨L⟩ := args
    match L, hs with
    | [w0, w1, w2, w3, w4], _ => exact ⟨w0, w1, w2, w3, w4, rfl⟩
  have hw := fun d (hd : d ∈ tables_1) => atoms_spec (ws := Jvm.Cond.code x code maxLocals ret :: tables_1) hat d (List.mem_cons_of_mem _ hd)
  have hfit : Fit s := fun {y c} hc i hi => by
    obtain ⟨ha, rfl⟩ := Array.getElem?_eq_some_iff.mp hc
    have q := List.all_eq_true.mp ((Array.all_eq_true_iff_forall_mem.mp hF) _ (Array.getElem_mem ha)) i (List.mem_range.mpr hi)
    simpa [Array.getElem?_eq_getElem hi] using q
  obtain ⟨i0, ei0⟩ := is_v ha0
  obtain rfl : w0 = (.int i0) := Option.some.inj ei0
  obtain ⟨i1, ei1⟩ := is_v ha1
  obtain rfl : w1 = (.int i1) := Option.some.inj ei1
  obtain ⟨i2, ei2⟩ := is_v ha2
  obtain rfl : w2 = (.int i2) := Option.some.inj ei2
  obtain ⟨i3, ei3⟩ := is_v ha3
  obtain rfl : w3 = (.int i3) := Option.some.inj ei3
  obtain ⟨i4, ei4⟩ := is_v ha4
  obtain rfl : w4 = (.int i4) := Option.some.inj ei4
  obtain ⟨n, o, h1, h2, h3, _, L, rfl, ⟨rfl, N⟩, hq⟩ := rm0 l s _ hw tables_1 i0 i1 i2 i3 i4  s.heap s.heap.size (Nat.le_refl _)  p e ha hc hk s m _ below hf ((Spec.applies_iff_loose hf).mp happ).1 ⟨rfl, State.Warmed39.refl s, rfl⟩ trivial
  refine ⟨n, _, h1, h2, h3, hpost _ _ _ _ _ _ ⟨Cond.after_iff.mpr rfl, Cond.after_iff.mpr (eq_i res_at (Term.int_eval (1)) rfl), trivial⟩ ⟨hq.1, hq.2.1, (hq.2.2.sift fun y hy => Or.inr (N y hy)).mono (by decide) (by decide)⟩⟩
theorem main_1_1 : Claimed_1_1 := comes_1 fun _ _ _ _ _ _ h hF => ⟨h.1, hF⟩
theorem main_1_2 : Claimed_1_2 := comes_1 fun _ _ _ _ _ _ h hF => ⟨h.2.1, hF⟩
end Jvm.Pilot.@@N@@
namespace Jvm.Pilot.@@N@@
open Jvm Jvm.ClassFile Sem Op Lib Jvm.Free Jvm.Stand Jvm.Pilot.@@N@@.Jvm.D
/-! MADE BY PROGRAM (witnessworld.py) out of the Statement's table words and the real class files: 9 classes; the members and pool entries that the words name. The judged class is class 1, her method 1. -/
namespace start1
open Jvm.ClassFile
def u (s : String) : CpInfo := .utf8 (stringToUtf16 s)
/-- a pool by its gaps: so many unusable entries, then the entry; so many at the end -/
def gap : Nat → List CpInfo → List CpInfo
  | 0, r => r
  | n + 1, r => .unusable :: gap n r
def poolList (es : List (Nat × CpInfo)) (last : Nat) : List CpInfo := es.foldr (fun e r => gap e.1 (e.2 :: r)) (gap last [])
def pool (es : List (Nat × CpInfo)) (last : Nat) : Array CpInfo := ⟨poolList es last⟩
def fileOf (pool : Array CpInfo) (this : Nat) (attrs : Array Attribute := #[]) (ms : Array MethodInfo := #[]) (fl : Nat := 33) (sup : Nat := 0) (ifs : Array Nat := #[]) (fds : Array FieldInfo := #[]) : ClassFile where
  minorVersion := 0
  majorVersion := 65
  constantPool := pool
  accessFlags := fl
  thisClass := this
  superClass := sup
  interfaces := ifs
  fields := fds
  methods := ms
  attributes := attrs
def plain (name : String) (sup : Option ClassId) : Class where
  name := name
  kind := .ordinary
  loader := none
  accessFlags := 33
  super := sup
  interfaces := #[]
  cf := none
  fields := #[]
  methods := #[]
  instanceTypes := #[]
  staticTypes := #[]
  resolved := #[]
  callSites := []
  init := .initialized
  statics := none
  mirror := none

def pool0 : Array CpInfo := pool [(5, u "<init>"), (0, u "()V"), (1, .class_ 10), (1, u "java/lang/Object")] 113

def k0m0 : Method := { name := "<init>", desc := "()V", sig := { parameters := [], returnType := none }, accessFlags := 1, code := none }
/-- java/lang/Object -/
def k0 : Class := { plain "java/lang/Object" none with
  accessFlags := 33
  interfaces := #[]
  cf := some (fileOf pool0 8 #[] #[{ accessFlags := 1, nameIndex := 5, descriptorIndex := 6, attributes := #[] }] 33 0 #[] #[])
  fields := #[]
  methods := #[k0m0]
  instanceTypes := #[]
  staticTypes := #[]
  resolved := Array.replicate 124 none
  statics := none }

def pool1 : Array CpInfo := pool [(2, .class_ 4), (1, u "java/lang/Object"), (0, u "<init>"), (0, u "()V"), (0, .methodref 8 9), (0, .class_ 10), (0, .nameAndType 11 12), (0, u "com/example/fold3/fold3/rank/PageRank"), (0, u "normalise"), (0, u "([D)V"), (0, .class_ 14), (0, u "com/example/fold3/fold3/rank/PageRankNormalisePinLaw"), (2, u "law"), (0, u "(IIIII)Z")] 5

def k1m0 : Method := { name := "<init>", desc := "()V", sig := { parameters := [], returnType := none }, accessFlags := 2, code := none }
def k1c1 : Code := { maxStack := 6, maxLocals := 8, code := code, exceptionTable := #[], attributes := #[] }
def k1m1 : Method := { name := "law", desc := "(IIIII)Z", sig := { parameters := [.int, .int, .int, .int, .int], returnType := some .boolean }, accessFlags := 9, code := some k1c1 }
/-- com/example/fold3/fold3/rank/PageRankNormalisePinLaw -/
def k1 : Class := { plain "com/example/fold3/fold3/rank/PageRankNormalisePinLaw" (some 0) with
  accessFlags := 49
  interfaces := #[]
  cf := some (fileOf pool1 13 #[] #[{ accessFlags := 2, nameIndex := 5, descriptorIndex := 6, attributes := #[] }, { accessFlags := 9, nameIndex := 17, descriptorIndex := 18, attributes := #[] }] 49 2 #[] #[])
  fields := #[]
  methods := #[k1m0, k1m1]
  instanceTypes := #[]
  staticTypes := #[]
  resolved := Array.replicate 24 none
  statics := none }

def pool2 : Array CpInfo := pool [(2, .class_ 4), (1, u "java/lang/Object"), (0, u "<init>"), (0, u "()V"), (19, .class_ 27), (0, u "com/example/fold3/fold3/rank/PageRank"), (4, u "BASE"), (0, u "D"), (1, u "DAMPING"), (7, u "normalise"), (0, u "([D)V")] 2

def k2m0 : Method := { name := "<init>", desc := "()V", sig := { parameters := [], returnType := none }, accessFlags := 2, code := none }
def k2c1 : Code := { maxStack := 6, maxLocals := 3, code := prog_27_method_3_code, exceptionTable := #[], attributes := #[] }
def k2m1 : Method := { name := "normalise", desc := "([D)V", sig := { parameters := [(.array .double)], returnType := none }, accessFlags := 9, code := some k2c1 }
/-- com/example/fold3/fold3/rank/PageRank -/
def k2 : Class := { plain "com/example/fold3/fold3/rank/PageRank" (some 0) with
  accessFlags := 49
  interfaces := #[]
  cf := some (fileOf pool2 26 #[] #[{ accessFlags := 2, nameIndex := 5, descriptorIndex := 6, attributes := #[] }, { accessFlags := 9, nameIndex := 43, descriptorIndex := 44, attributes := #[] }] 49 2 #[] #[{ accessFlags := 26, nameIndex := 32, descriptorIndex := 33, attributes := #[] }, { accessFlags := 26, nameIndex := 35, descriptorIndex := 33, attributes := #[] }])
  fields := #[{ name := "BASE", type := .double, accessFlags := 26, slot := 0, constantValue := 0 }, { name := "DAMPING", type := .double, accessFlags := 26, slot := 1, constantValue := 0 }]
  methods := #[k2m0, k2m1]
  instanceTypes := #[]
  staticTypes := #[.double, .double]
  resolved := Array.replicate 47 none
  statics := none }

def pool3 : Array CpInfo := pool [(1, u "java/lang/Cloneable"), (0, .class_ 1), (0, u "java/lang/Object"), (0, .class_ 3)] 3

/-- java/lang/Cloneable -/
def k3 : Class := { plain "java/lang/Cloneable" (some 0) with
  accessFlags := 1537
  interfaces := #[]
  cf := some (fileOf pool3 2 #[] #[] 1537 4 #[] #[])
  fields := #[]
  methods := #[]
  instanceTypes := #[]
  staticTypes := #[]
  resolved := Array.replicate 8 none
  statics := none }

def pool4 : Array CpInfo := pool [(1, u "java/io/Serializable"), (0, .class_ 1), (0, u "java/lang/Object"), (0, .class_ 3)] 3

/-- java/io/Serializable -/
def k4 : Class := { plain "java/io/Serializable" (some 0) with
  accessFlags := 1537
  interfaces := #[]
  cf := some (fileOf pool4 2 #[] #[] 1537 4 #[] #[])
  fields := #[]
  methods := #[]
  instanceTypes := #[]
  staticTypes := #[]
  resolved := Array.replicate 8 none
  statics := none }

/-- the primitive byte -/
def k5 : Class := { plain "byte" none with kind := .primitive 'B', accessFlags := 0x411 }
/-- [B -/
def k6 : Class := { plain "[B" (some 0) with kind := .array 5 .byte, interfaces := #[3, 4], accessFlags := 1041 }

/-- the primitive int -/
def k7 : Class := { plain "int" none with kind := .primitive 'I', accessFlags := 0x411 }
/-- [I -/
def k8 : Class := { plain "[I" (some 0) with kind := .array 7 .int, interfaces := #[3, 4], accessFlags := 1041 }

/-- the primitive double -/
def k9 : Class := { plain "double" none with kind := .primitive 'D', accessFlags := 0x411 }
/-- [D -/
def k10 : Class := { plain "[D" (some 0) with kind := .array 9 .double, interfaces := #[3, 4], accessFlags := 1041 }

def heap : Heap := #[]
def classes : Array Class := #[k0, k1, k2, k3, k4, k5, k6, k7, k8, k9, k10]
def interned : List (Array UInt16 × Addr) := []
def slotsUsed : Nat := 0
def theMethod : MethodId := ⟨1, 1⟩
def args0 : Array Value := #[.int 1, .int 2, .int 3, .int 4, .int 5]
def aboutOver (below : List Frame) : State where
  vm := { classes := classes, interned := interned.toArray }
  heap := heap
  slotsUsed := slotsUsed
  threads := #[{ frames := .invoking theMethod args0 :: below }]
def below0 : List Frame := [.native { method := ⟨0, 0⟩, args := #[] }]
def about1 : State := aboutOver below0
def p0 : Program := .bare "" "" ""
def e0 : Env := launch0.env 0 0 0
theorem w_frames : about1.frames = Frame.invoking theMethod args0 :: below0 := rfl
set_option maxRecDepth 65536 in
theorem w_args : argsFit about1.vm theMethod args0 = true := by decide +kernel
set_option maxRecDepth 65536 in
theorem w_heap : heapFits about1 = true := by decide +kernel
set_option maxRecDepth 65536 in
theorem w_runnable : about1.curStatus? = some .runnable := by decide +kernel
set_option maxRecDepth 65536 in
theorem w_alone : about1.alone = true := by decide +kernel
set_option maxRecDepth 65536 in
theorem w_named : about1.methodNamed? x = some theMethod := by decide +kernel
set_option maxRecDepth 65536 in
theorem w_hears : about1.hears theMethod below0 = true := by decide +kernel
set_option maxRecDepth 65536 in
theorem w_ripe : about1.ripe theMethod args0 below0 = true := by decide +kernel
theorem w_running : about1.status = .running := rfl
set_option maxRecDepth 65536 in
theorem w_room : about1.hasRoom e0.platform room_1 = true :=
  launch0.hasRoom_least _ room_1 (by decide +kernel) (by decide +kernel) (by decide +kernel) (by decide +kernel) (by decide +kernel) (by decide +kernel)
theorem allAtoms_all (ts : List Jvm.Cond) (a : Array Jvm.Value) (st : Jvm.State) : (allAtoms ts).before a st = ts.all (fun c => c.before a st) := by
  induction ts with
  | nil => rfl
  | cons c t ih =>
    show (Jvm.Cond.and c (allAtoms t)).before a st = _
    rw [Jvm.Cond.before_and, ih, List.all_cons]
def words1 : List Jvm.Cond := Jvm.Cond.code x code maxLocals ret :: tables_1
/-- a 'code' word, met by the world's own term for the bytes: nothing is compared byte by byte -/
theorem code_word {y : MethodName} {bytes : ByteArray} {mx : Nat} {rt : Option FieldType} {a : Array Value} {s : State} {m : MethodId} {meth : Method} {c : Code} (h1 : s.methodNamed? y = some m) (h2 : s.vm.method? m = some meth) (h3 : meth.code = some c) (h4 : c.code = bytes)
    (h5 : (c.maxLocals == mx && c.exceptionTable.isEmpty && decide (c.maxStack ≤ mostOperands) && decide (meth.sig.returnType = rt) && !meth.locks && decide (parseMethodDescriptor y.desc = some meth.sig)) = true) : (Jvm.Cond.code y bytes mx rt).before a s = true := by
  simp only [Bool.and_eq_true, beq_iff_eq, Bool.not_eq_true', decide_eq_true_eq] at h5
  obtain ⟨⟨⟨⟨⟨g1, g2⟩, g3⟩, g4⟩, g5⟩, g6⟩ := h5
  simp [Cond.before, Cond.holds, Cond.value, h1, h2, h3, h4, g1, g2, g3, g4, g5, g6]
def isCode : Jvm.Cond → Bool
  | .code _ _ _ _ => true
  | _ => false
theorem all_split {L : List Jvm.Cond} {P : Jvm.Cond → Bool} (h1 : L.all (fun c => isCode c || P c) = true) (h2 : ∀ c ∈ L.filter isCode, P c = true) : L.all P = true := by
  refine List.all_eq_true.mpr fun c hc => ?_
  have h := List.all_eq_true.mp h1 c hc
  rcases Bool.eq_false_or_eq_true (isCode c) with hi | hi
  · exact h2 c (List.mem_filter.mpr ⟨hc, hi⟩)
  · simpa [hi] using h
set_option maxRecDepth 65536 in
theorem w_c0 : (Jvm.Cond.code x code maxLocals ret).before args0 about1 = true := code_word (m := ⟨1, 1⟩) (meth := k1m1) (c := k1c1) (by decide +kernel) rfl rfl rfl (by decide +kernel)
set_option maxRecDepth 65536 in
theorem w_c1 : (Jvm.Cond.code ({ cls := "com/example/fold3/fold3/rank/PageRank", name := "normalise", desc := "([D)V" } : Jvm.MethodName) prog_27_method_3_code (3 : Nat) (Option.none : Option Jvm.ClassFile.FieldType)).before args0 about1 = true := code_word (m := ⟨2, 1⟩) (meth := k2m1) (c := k2c1) (by decide +kernel) rfl rfl rfl (by decide +kernel)
def codes1 : List Jvm.Cond := [Jvm.Cond.code x code maxLocals ret, Jvm.Cond.code ({ cls := "com/example/fold3/fold3/rank/PageRank", name := "normalise", desc := "([D)V" } : Jvm.MethodName) prog_27_method_3_code (3 : Nat) (Option.none : Option Jvm.ClassFile.FieldType)]
set_option maxRecDepth 65536 in
theorem codes_eq : words1.filter isCode = codes1 := rfl
theorem w_codes : ∀ c ∈ words1.filter isCode, c.before args0 about1 = true := by
  rw [codes_eq]
  intro c hc
  simp only [codes1, List.mem_cons, List.not_mem_nil, or_false] at hc
  rcases hc with rfl | rfl
  · exact w_c0
  · exact w_c1
set_option maxRecDepth 65536 in
theorem w_t1 : words1.all (fun c => isCode c || c.before args0 about1) = true := by decide +kernel
theorem w_tables : (allAtoms (Jvm.Cond.code x code maxLocals ret :: tables_1)).before args0 about1 = true := by
  rw [allAtoms_all]
  show words1.all (fun c => c.before args0 about1) = true
  refine all_split ?_ w_codes
  rw [w_t1]
set_option maxRecDepth 65536 in
theorem w_case : (Jvm.Cond.and given_1 narrow_1).before args0 about1 = true := by decide +kernel
theorem w_applies : (headSpec (Jvm.Cond.code x code maxLocals ret :: tables_1) room_1).applies x e0.platform about1 = true :=
  (Spec.applies_iff w_frames).mpr ⟨w_running, w_runnable, w_alone, w_named, w_hears, w_ripe, w_room, w_tables⟩
theorem atStart : AtStart classFile x code maxLocals ret World_1 tables_1 room_1 Calls_1 rest_1 Pre_1 launch0 p0 e0 about1 theMethod args0 below0 :=
  ⟨lists_1, trivial, launch0.admits_env _ _ _, launch0.least_env, fairChoices_fair.cas, fairChoices_fair.clock, w_frames, w_args, w_heap, w_applies, trivial, trivial, w_case⟩
end start1
theorem witness_1 : WitnessClaimed_1 := ⟨start1.p0, start1.e0, start1.about1, start1.theMethod, start1.args0, start1.below0, start1.atStart⟩
end Jvm.Pilot.@@N@@
