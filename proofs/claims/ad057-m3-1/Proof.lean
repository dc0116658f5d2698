import JvmDerived
import JvmDerived.Pilot.@@N@@Statement
import JvmDerived.Pilot.@@N@@Code
set_option linter.unusedVariables false
set_option linter.unusedSimpArgs false
namespace Jvm.RoadKit
open Sem ClassFile Op Lib Jvm.Stand Jvm.Free Jvm.LawKit
section New
variable {p : Program} {l : Launch} {e : Env} {R : Room} {s : State} {m : MethodId} {args : Array Value} {below : List Frame} {meth : Method} {c : Code} {T : State} {locs : List Loc} {cells slots : Nat}
theorem retI (X : Stand p l e R s m args below meth c T locs cells slots) (hx : p.tables.exec = Jvm.exec) {pc : Nat} {Ls : Array Slot} {z : Int32} {rest : List Value} (hret : meth.sig.returnType = some .int) (hd : decode c.code pc = .ok (.ireturn, 1)) {fs : List Frame}
    (hl : ∀ (f : JFrame) (acts : List Action), f.method = m → f.locked = none → f.entered = [] → (doReturn e (T.setTop f) acts (some (.int z))).1 = T.setFrames fs) : Steps p.tables e below (T.setTop (mkF m pc Ls (.int z :: rest))) (T.setFrames fs) :=
  retOut X hx hret rfl (Or.inl ⟨rfl, Or.inl rfl, z, rfl⟩) hd hl
theorem retJ (X : Stand p l e R s m args below meth c T locs cells slots) (hx : p.tables.exec = Jvm.exec) {pc : Nat} {Ls : Array Slot} {z : Int64} {rest : List Value} (hret : meth.sig.returnType = some .long) (hd : decode c.code pc = .ok (.lreturn, 1)) {fs : List Frame}
    (hl : ∀ (f : JFrame) (acts : List Action), f.method = m → f.locked = none → f.entered = [] → (doReturn e (T.setTop f) acts (some (.long z))).1 = T.setFrames fs) : Steps p.tables e below (T.setTop (mkF m pc Ls (.long z :: rest))) (T.setFrames fs) :=
  retOut X hx hret rfl (Or.inr (Or.inl ⟨rfl, rfl, z, rfl⟩)) hd hl
theorem retA (X : Stand p l e R s m args below meth c T locs cells slots) (hx : p.tables.exec = Jvm.exec) {pc : Nat} {Ls : Array Slot} {w : Value} {t : FieldType} {rest : List Value} (hret : meth.sig.returnType = some t) (hd : decode c.code pc = .ok (.areturn, 1)) {fs : List Frame}
    (hl : ∀ (f : JFrame) (acts : List Action), f.method = m → f.locked = none → f.entered = [] → (doReturn e (T.setTop f) acts (some w)).1 = T.setFrames fs) (ht : t.isReference = true) (hw : w.isRef = true) : Steps p.tables e below (T.setTop (mkF m pc Ls (w :: rest))) (T.setFrames fs) :=
  retOut X hx hret (by cases t <;> first | rfl | (cases ht; done)) (Or.inr (Or.inr (Or.inr (Or.inr ⟨rfl, ht, hw⟩)))) hd hl
/-- from the state S on, the body runs to its end and leaves what Q says -/
def Gz (p : Program) (e : Env) (below : List Frame) (s : State) (C N : Nat) (Q : Option Value → Heap → List Loc → Prop) (S : State) : Prop :=
  ∃ s₂ o, Steps p.tables e below S s₂ ∧ s₂.status = .running ∧ Ended s₂ below o ∧ ∃ v L, o = .returned v ∧ Q v s₂.heap L ∧ FrameEnd s o s₂ L C N
variable {C N : Nat} {Q : Option Value → Heap → List Loc → Prop} {S S' : State}
theorem Gz.st (k : ∀ t, Steps p.tables e below S' t → Steps p.tables e below S t) (h : Gz p e below s C N Q S') : Gz p e below s C N Q S := by
  obtain ⟨s₂, o, h1, h2⟩ := h
  exact ⟨s₂, o, k _ h1, h2⟩
theorem Gz.tr (k : Steps p.tables e below S S') (h : Gz p e below s C N Q S') : Gz p e below s C N Q S := by
  obtain ⟨s₂, o, h1, h2⟩ := h
  exact ⟨s₂, o, k.trans h1, h2⟩
variable {pc : Nat} {Ls : Array Slot} {st : List Value} {Z : State} {a0 : Array Value} {hh : Heap}
theorem Gz.iloadN (n : Nat) {k : Fin 4} {v : Int32} (X : Stand p l e R s m args below meth c T locs cells slots) (hx : p.tables.exec = Jvm.exec) (hd : decode c.code pc = .ok (.iload_n k, 1)) (hl : Ls[k.val]? = some (.val (.int v))) (q : pc + 1 = n) (h : Gz p e below s C N Q (T.setTop (mkF m n Ls (.int v :: st)))) : Gz p e below s C N Q (T.setTop (mkF m pc Ls st)) := by subst q; exact Gz.st (fun t k => XS.iloadN X.here hx rfl hd hl k) h
theorem Gz.iload (n : Nat) {k : Nat} {v : Int32} (X : Stand p l e R s m args below meth c T locs cells slots) (hx : p.tables.exec = Jvm.exec) (hd : decode c.code pc = .ok (.iload k, 2)) (hl : Ls[k]? = some (.val (.int v))) (q : pc + 2 = n) (h : Gz p e below s C N Q (T.setTop (mkF m n Ls (.int v :: st)))) : Gz p e below s C N Q (T.setTop (mkF m pc Ls st)) := by subst q; exact Gz.st (fun t k => XS.iload X.here hx rfl hd hl k) h
theorem Gz.istore (n : Nat) (l' : Array Slot) {k : Nat} {v : Int32} (X : Stand p l e R s m args below meth c T locs cells slots) (hx : p.tables.exec = Jvm.exec) (hd : decode c.code pc = .ok (.istore k, 2)) (hl : storeLocals Ls k (.int v) = some l') (q : pc + 2 = n) (h : Gz p e below s C N Q (T.setTop (mkF m n l' st))) : Gz p e below s C N Q (T.setTop (mkF m pc Ls (.int v :: st))) := by subst q; exact Gz.st (fun t k => XS.istore X.here hx rfl hd rfl hl k) h
theorem Gz.dloadN (n : Nat) {k : Fin 4} {v : UInt64} (X : Stand p l e R s m args below meth c T locs cells slots) (hx : p.tables.exec = Jvm.exec) (hd : decode c.code pc = .ok (.dload_n k, 1)) (hl : Ls[k.val]? = some (.val (.double v))) (q : pc + 1 = n) (h : Gz p e below s C N Q (T.setTop (mkF m n Ls (.double v :: st)))) : Gz p e below s C N Q (T.setTop (mkF m pc Ls st)) := by subst q; exact Gz.st (fun t k => XS.dloadN X.here hx rfl hd hl k) h
theorem Gz.dload (n : Nat) {k : Nat} {v : UInt64} (X : Stand p l e R s m args below meth c T locs cells slots) (hx : p.tables.exec = Jvm.exec) (hd : decode c.code pc = .ok (.dload k, 2)) (hl : Ls[k]? = some (.val (.double v))) (q : pc + 2 = n) (h : Gz p e below s C N Q (T.setTop (mkF m n Ls (.double v :: st)))) : Gz p e below s C N Q (T.setTop (mkF m pc Ls st)) := by subst q; exact Gz.st (fun t k => XS.dload X.here hx rfl hd hl k) h
theorem Gz.dstore (n : Nat) (l' : Array Slot) {k : Nat} {v : UInt64} (X : Stand p l e R s m args below meth c T locs cells slots) (hx : p.tables.exec = Jvm.exec) (hd : decode c.code pc = .ok (.dstore k, 2)) (hl : storeLocals Ls k (.double v) = some l') (q : pc + 2 = n) (h : Gz p e below s C N Q (T.setTop (mkF m n l' st))) : Gz p e below s C N Q (T.setTop (mkF m pc Ls (.double v :: st))) := by subst q; exact Gz.st (fun t k => XS.dstore X.here hx rfl hd rfl hl k) h
theorem Gz.aloadN (n : Nat) {k : Fin 4} {v : Value} (X : Stand p l e R s m args below meth c T locs cells slots) (hx : p.tables.exec = Jvm.exec) (hd : decode c.code pc = .ok (.aload_n k, 1)) (hl : Ls[k.val]? = some (.val v)) (hv : v.isRef = true) (q : pc + 1 = n) (h : Gz p e below s C N Q (T.setTop (mkF m n Ls (v :: st)))) : Gz p e below s C N Q (T.setTop (mkF m pc Ls st)) := by subst q; exact Gz.st (fun t k => XS.aloadN X.here hx rfl hd hl hv k) h
theorem Gz.aload (n : Nat) {k : Nat} {v : Value} (X : Stand p l e R s m args below meth c T locs cells slots) (hx : p.tables.exec = Jvm.exec) (hd : decode c.code pc = .ok (.aload k, 2)) (hl : Ls[k]? = some (.val v)) (hv : v.isRef = true) (q : pc + 2 = n) (h : Gz p e below s C N Q (T.setTop (mkF m n Ls (v :: st)))) : Gz p e below s C N Q (T.setTop (mkF m pc Ls st)) := by subst q; exact Gz.st (fun t k => XS.aload X.here hx rfl hd hl hv k) h
theorem Gz.astoreN (n : Nat) (l' : Array Slot) {k : Fin 4} {v : Value} (X : Stand p l e R s m args below meth c T locs cells slots) (hx : p.tables.exec = Jvm.exec) (hd : decode c.code pc = .ok (.astore_n k, 1)) (hl : storeLocals Ls k.val v = some l') (hv : v.isRef = true) (q : pc + 1 = n) (h : Gz p e below s C N Q (T.setTop (mkF m n l' st))) : Gz p e below s C N Q (T.setTop (mkF m pc Ls (v :: st))) := by subst q; exact Gz.st (fun t k => XS.astoreN X.here hx rfl hd rfl hv hl k) h
theorem Gz.astore (n : Nat) (l' : Array Slot) {k : Nat} {v : Value} (X : Stand p l e R s m args below meth c T locs cells slots) (hx : p.tables.exec = Jvm.exec) (hd : decode c.code pc = .ok (.astore k, 2)) (hl : storeLocals Ls k v = some l') (hv : v.isRef = true) (q : pc + 2 = n) (h : Gz p e below s C N Q (T.setTop (mkF m n l' st))) : Gz p e below s C N Q (T.setTop (mkF m pc Ls (v :: st))) := by subst q; exact Gz.st (fun t k => XS.astore X.here hx rfl hd rfl hv hl k) h
theorem Gz.iconst (n : Nat) (v : Int32) (X : Stand p l e R s m args below meth c T locs cells slots) (hx : p.tables.exec = Jvm.exec) {i : Int} (hd : decode c.code pc = .ok (.iconst i, 1)) (hv : Int32.ofInt i = v) (q : pc + 1 = n) (h : Gz p e below s C N Q (T.setTop (mkF m n Ls (.int v :: st)))) : Gz p e below s C N Q (T.setTop (mkF m pc Ls st)) := by subst q hv; exact Gz.st (fun t k => XS.iconst X.here hx rfl hd k) h
theorem Gz.bipush (n : Nat) (v : Int32) (X : Stand p l e R s m args below meth c T locs cells slots) (hx : p.tables.exec = Jvm.exec) {i : Int} (hd : decode c.code pc = .ok (.bipush i, 2)) (hv : (Int8.ofInt i).toInt32 = v) (q : pc + 2 = n) (h : Gz p e below s C N Q (T.setTop (mkF m n Ls (.int v :: st)))) : Gz p e below s C N Q (T.setTop (mkF m pc Ls st)) := by subst q hv; exact Gz.st (fun t k => XS.bipush X.here hx rfl hd k) h
theorem Gz.iand (n : Nat) {x y : Int32} (X : Stand p l e R s m args below meth c T locs cells slots) (hx : p.tables.exec = Jvm.exec) (hd : decode c.code pc = .ok (.iand, 1))  (q : pc + 1 = n) (h : Gz p e below s C N Q (T.setTop (mkF m n Ls (.int (x &&& y) :: st)))) : Gz p e below s C N Q (T.setTop (mkF m pc Ls (.int y :: .int x :: st))) := by subst q; exact Gz.st (fun t k => XS.iand X.here hx rfl hd rfl k) h
theorem Gz.irem (n : Nat) {x y : Int32} (X : Stand p l e R s m args below meth c T locs cells slots) (hx : p.tables.exec = Jvm.exec) (hd : decode c.code pc = .ok (.irem, 1)) (hy : y ≠ 0) (q : pc + 1 = n) (h : Gz p e below s C N Q (T.setTop (mkF m n Ls (.int (x % y) :: st)))) : Gz p e below s C N Q (T.setTop (mkF m pc Ls (.int y :: .int x :: st))) := by subst q; exact Gz.st (fun t k => iremM X hx rfl hd rfl hy k) h
theorem Gz.dup (n : Nat) {x : Value} (X : Stand p l e R s m args below meth c T locs cells slots) (hx : p.tables.exec = Jvm.exec) (hd : decode c.code pc = .ok (.dup, 1)) (hc : x.category = 1) (q : pc + 1 = n) (h : Gz p e below s C N Q (T.setTop (mkF m n Ls (x :: x :: st)))) : Gz p e below s C N Q (T.setTop (mkF m pc Ls (x :: st))) := by subst q; exact Gz.st (fun t k => XS.dup X.here hx rfl hd rfl hc k) h
theorem Gz.goto (n : Nat) (X : Stand p l e R s m args below meth c T locs cells slots) (hx : p.tables.exec = Jvm.exec) {o : Int} (hd : decode c.code pc = .ok (.goto o, 3)) (ho : 0 ≤ (pc : Int) + o) (q : ((pc : Int) + o).toNat = n) (h : Gz p e below s C N Q (T.setTop (mkF m n Ls st))) : Gz p e below s C N Q (T.setTop (mkF m pc Ls st)) := Gz.st (fun t k => XS.goto X.here hx rfl (pc0 := pc) (pc' := n) rfl hd ho q k) h
theorem Gz.ifYes (n : Nat) (X : Stand p l e R s m args below meth c T locs cells slots) (hx : p.tables.exec = Jvm.exec) {cd : ClassFile.Cond} {x : Int32} {o : Int} (hd : decode c.code pc = .ok (.ifCond cd o, 3)) (hc : ifCond.holds cd x = true) (ho : 0 ≤ (pc : Int) + o) (q : ((pc : Int) + o).toNat = n) (h : Gz p e below s C N Q (T.setTop (mkF m n Ls st))) : Gz p e below s C N Q (T.setTop (mkF m pc Ls (.int x :: st))) := Gz.st (fun t k => XS.ifYes X.here hx rfl (pc0 := pc) (pc' := n) rfl hd rfl hc ho q k) h
theorem Gz.ifNo (n : Nat) (X : Stand p l e R s m args below meth c T locs cells slots) (hx : p.tables.exec = Jvm.exec) {cd : ClassFile.Cond} {x : Int32} {o : Int} (hd : decode c.code pc = .ok (.ifCond cd o, 3)) (hc : ifCond.holds cd x = false) (q : pc + 3 = n) (h : Gz p e below s C N Q (T.setTop (mkF m n Ls st))) : Gz p e below s C N Q (T.setTop (mkF m pc Ls (.int x :: st))) := by subst q; exact Gz.st (fun t k => XS.ifNo X.here hx rfl hd rfl hc k) h
theorem Gz.icmpYes (n : Nat) (X : Stand p l e R s m args below meth c T locs cells slots) (hx : p.tables.exec = Jvm.exec) {cd : ClassFile.Cond} {x y : Int32} {o : Int} (hd : decode c.code pc = .ok (.if_icmp cd o, 3)) (hc : if_icmp.holds cd x y = true) (ho : 0 ≤ (pc : Int) + o) (q : ((pc : Int) + o).toNat = n) (h : Gz p e below s C N Q (T.setTop (mkF m n Ls st))) : Gz p e below s C N Q (T.setTop (mkF m pc Ls (.int y :: .int x :: st))) := Gz.st (fun t k => XS.icmpYes X.here hx rfl (pc0 := pc) (pc' := n) rfl hd rfl hc ho q k) h
theorem Gz.icmpNo (n : Nat) (X : Stand p l e R s m args below meth c T locs cells slots) (hx : p.tables.exec = Jvm.exec) {cd : ClassFile.Cond} {x y : Int32} {o : Int} (hd : decode c.code pc = .ok (.if_icmp cd o, 3)) (hc : if_icmp.holds cd x y = false) (q : pc + 3 = n) (h : Gz p e below s C N Q (T.setTop (mkF m n Ls st))) : Gz p e below s C N Q (T.setTop (mkF m pc Ls (.int y :: .int x :: st))) := by subst q; exact Gz.st (fun t k => XS.icmpNo X.here hx rfl hd rfl hc k) h
theorem Gz.acmp (n : Nat) (same : Bool) (X : Stand p l e R s m args below meth c T locs cells slots) (hx : p.tables.exec = Jvm.exec) {cd : ACond} {x y : Value} {o : Int} (hd : decode c.code pc = .ok (.if_acmp cd o, 3)) (h1 : x.isRef = true) (h2 : y.isRef = true) (hq : decide (x = y) = same) (ho : 0 ≤ (pc : Int) + o) (q : n = if acV cd same = true then ((pc : Int) + o).toNat else pc + 3) (h : Gz p e below s C N Q (T.setTop (mkF m n Ls st))) : Gz p e below s C N Q (T.setTop (mkF m pc Ls (y :: x :: st))) := Gz.st (fun t k => Jvm.RoadKit.acmp X hx rfl h1 h2 (pc0 := pc) (pc' := n) rfl hd rfl hq ho q k) h
theorem Gz.ldcI (n : Nat) (X : Stand p l e R s m args below meth c T locs cells slots) (hx : p.tables.exec = Jvm.exec) {own : String} {ix : Nat} {v : Int32} (hd : decode c.code pc = .ok (.ldc ix, 2)) (hown : s.vm.findClass own = some m.cls) (w : (Cond.constant own ix v).before args s = true) (q : pc + 2 = n) (h : Gz p e below s C N Q (T.setTop (mkF m n Ls (.int v :: st)))) : Gz p e below s C N Q (T.setTop (mkF m pc Ls st)) := by subst q; exact Gz.st (X.ldcInt hx hown w (g := mkF m pc Ls st) rfl hd) h
theorem Gz.i2d (n : Nat) (X : Stand p l e R s m args below meth c T locs cells slots) (hx : p.tables.exec = Jvm.exec) {x : Int32} (hd : decode c.code pc = .ok (.i2d, 1)) (q : pc + 1 = n) (h : Gz p e below s C N Q (T.setTop (mkF m n Ls (.double (FP.i2d x) :: st)))) : Gz p e below s C N Q (T.setTop (mkF m pc Ls (.int x :: st))) := by subst q; exact Gz.st (fun t k => XS.i2dS X.here hx rfl hd rfl rfl k) h
theorem Gz.dcmp (n : Nat) (X : Stand p l e R s m args below meth c T locs cells slots) (hx : p.tables.exec = Jvm.exec) {o : CmpOp} {x y : UInt64} (hd : decode c.code pc = .ok (.dcmp o, 1)) (q : pc + 1 = n) (h : Gz p e below s C N Q (T.setTop (mkF m n Ls (.int (cmpValue (FP.dcmp x y) o) :: st)))) : Gz p e below s C N Q (T.setTop (mkF m pc Ls (.double y :: .double x :: st))) := by subst q; exact Gz.st (fun t k => XS.dcmpS X.here hx rfl hd rfl rfl k) h
theorem Gz.getF (n : Nat) (X : Stand p l e R s m args below meth c T locs cells slots) (hx : p.tables.exec = Jvm.exec) (hZ : Z.Warmed39 s.vm) {own : String} (hown : s.vm.findClass own = some m.cls) {R0 O nm d host : String} {ix : Nat} (hd : decode c.code pc = .ok (.getfield ix, 3)) (w : (Cond.fieldLink own ix R0 nm d).before a0 Z = true ∨ (Cond.fieldLinkNest own ix R0 nm d host).before a0 Z = true) (via : Via Z R0 O nm d) (eT : T.heap = hh) {a : Addr} {v : Value} (F : Fld Z hh a O nm d v) (q : pc + 3 = n) (h : ∀ T', Stand p l e R s m args below meth c T' (locs) (cells) (slots) → T'.heap = hh → Gz p e below s C N Q (T'.setTop (mkF m n Ls (v :: st)))) : Gz p e below s C N Q (T.setTop (mkF m pc Ls (.ref a :: st))) := by
  subst q
  obtain ⟨T', X', e', st'⟩ := Jvm.RoadKit.getF X hx hZ hown w via eT F (g := mkF m pc Ls (.ref a :: st)) rfl rfl hd
  exact Gz.st st' (h T' X' e')
theorem Gz.getS (n : Nat) (X : Stand p l e R s m args below meth c T locs cells slots) (hx : p.tables.exec = Jvm.exec) (hZ : Z.Warmed39 s.vm) {own : String} (hown : s.vm.findClass own = some m.cls) {R0 O nm d host : String} {ix : Nat} (hd : decode c.code pc = .ok (.getstatic ix, 3)) (w : (Cond.fieldLink own ix R0 nm d).before a0 Z = true ∨ (Cond.fieldLinkNest own ix R0 nm d host).before a0 Z = true) (via : Via Z R0 O nm d) (eT : T.heap = hh) {v : Value} (F : Sta Z hh O nm d v) (q : pc + 3 = n) (h : ∀ T', Stand p l e R s m args below meth c T' (locs) (cells) (slots) → T'.heap = hh → Gz p e below s C N Q (T'.setTop (mkF m n Ls (v :: st)))) : Gz p e below s C N Q (T.setTop (mkF m pc Ls st)) := by
  subst q
  obtain ⟨T', X', e', st'⟩ := getS2 X hx hZ hown w via eT F (g := mkF m pc Ls st) rfl hd
  exact Gz.st st' (h T' X' e')
theorem Gz.stR (n : Nat) (X : Stand p l e R s m args below meth c T locs cells slots) (hx : p.tables.exec = Jvm.exec) (hZ : Z.Warmed39 s.vm) {a : Addr} {cl : Cell} {j : Int32} {v : Value} {ty : FieldType} (hd : decode c.code pc = .ok (.aastore, 1)) (eT : T.heap = hh) (A : Arr Z hh a cl ty) (hj : ¬ (j < 0 ∨ cl.slots.size ≤ j.toNatClampNeg)) (hty : ty.isReference = true) (F : Sto Z hh a v) (q : pc + 1 = n) (h : ∀ T' h', Stand p l e R s m args below meth c T' (locs ++ [⟨a, j.toNatClampNeg⟩]) (cells) (slots) → T'.heap = h' → Wr hh h' a j.toNatClampNeg v → Gz p e below s C N Q (T'.setTop (mkF m n Ls st))) : Gz p e below s C N Q (T.setTop (mkF m pc Ls (v :: .int j :: .ref a :: st))) := by
  subst q
  obtain ⟨T', h', X', e', W, st'⟩ := Jvm.RoadKit.stR X hx hZ eT A (j := j) hj hty F (g := mkF m pc Ls (v :: .int j :: .ref a :: st)) rfl rfl hd
  exact Gz.st st' (h T' h' X' e' W)
theorem Gz.ldA (n : Nat) (X : Stand p l e R s m args below meth c T locs cells slots) (hx : p.tables.exec = Jvm.exec) (hZ : Z.Warmed39 s.vm) {a : Addr} {cl : Cell} {j : Int32} {v : Value} {ty : FieldType} (hr : ty.isReference = true) (hd : decode c.code pc = .ok (.aaload, 1)) (eT : T.heap = hh) (A : Arr Z hh a cl ty) (hj : ¬ (j < 0 ∨ cl.slots.size ≤ j.toNatClampNeg)) (hv : cl.slots[j.toNatClampNeg]? = some v) (q : pc + 1 = n) (h : Gz p e below s C N Q (T.setTop (mkF m n Ls (v :: st)))) : Gz p e below s C N Q (T.setTop (mkF m pc Ls (.int j :: .ref a :: st))) := by
  subst q
  exact Gz.st (X.aaload hx (j := j) (v := v) (by rw [eT]; exact A.1) (State.isArrayOf_alike hZ.alike A.2.1) hr A.2.2 hj hv (g := mkF m pc Ls (.int j :: .ref a :: st)) rfl rfl hd) h
theorem Gz.enter {g g' : JFrame} (q : g = g') (h : Gz p e below s C N Q (T.setTop g')) : Gz p e below s C N Q (T.setTop g) := q ▸ h
theorem Gz.fin (X : Stand p l e R s m args below meth c T locs cells slots) {v : Option Value} (hv : meth.sig.returnType = none → v = none) (hlocks : meth.locks = false) (hc : cells ≤ C) (hn : slots ≤ N)
    (hst : ∀ fs, (∀ (f : JFrame) (acts : List Action), f.method = m → f.locked = none → f.entered = [] → (doReturn e (T.setTop f) acts v).1 = T.setFrames fs) → Steps p.tables e below S (T.setFrames fs)) (hq : Q v T.heap locs) : Gz p e below s C N Q S := by
  obtain ⟨fs, hr, hrun, hended, hW, hsame⟩ := X.leave hv hlocks
  exact ⟨_, _, hst fs hr, hrun, hended, _, _, rfl, hq, ⟨_, rfl⟩, hW, hsame.mono hc hn⟩
theorem retNV (X : Stand p l e R s m args below meth c T locs cells slots) (hx : p.tables.exec = Jvm.exec) {pc : Nat} {Ls : Array Slot} {z w : Int32} {t : FieldType} {rest : List Value} (hret : meth.sig.returnType = some t) (ht : t = .boolean ∨ t = .byte ∨ t = .char ∨ t = .short)
    (hd : decode c.code pc = .ok (.ireturn, 1)) {fs : List Frame} (hl : ∀ (f : JFrame) (acts : List Action), f.method = m → f.locked = none → f.entered = [] → (doReturn e (T.setTop f) acts (some (.int w))).1 = T.setFrames fs) (hw : nar t z = w) :
    Steps p.tables e below (T.setTop (mkF m pc Ls (.int z :: rest))) (T.setFrames fs) := by subst hw; exact retN X hx hret ht hd hl
theorem own_nb (x : Int32) : nar .byte (x.toInt8.toInt32) = x.toInt8.toInt32 := by show (x.toInt8.toInt32).toInt8.toInt32 = _; simp
theorem lt_irr (x : Int32) : ¬ x < x := Int32.lt_irrefl
theorem own_rl {a z r j : Nat} (h : a < z) (q : r = z + 1 + j) : a ≠ r := by omega
theorem own_ro {x z r j : Nat} (h : x = z) (q : r = z + 1 + j) : x ≠ r := by omega
theorem own_rr {z a b i j : Nat} (h : a = z + 1 + i) (q : b = z + 1 + j) (w : i ≠ j) : a ≠ b := by omega
theorem own_rg {n z r j : Nat} (h : n ≤ z) (q : r = z + 1 + j) : n ≤ r := by omega
theorem own_selp {a0 : Array Value} {y y' : MethodName} (hsame : y'.cls = y.cls) (hsel : (Cond.selects y'.cls y' y').before a0 s = true) (hi' : (Cond.instanceMethod y').before a0 s = true) (hi : (Cond.instanceMethod y).before a0 s = true) (hp : s.PrivateAt y) (hy : y.cls ≠ "java/lang/invoke/MethodHandle" ∧ y.cls ≠ "java/lang/invoke/VarHandle") : (Cond.selects y.cls y y).before a0 s = true := by
  obtain ⟨mk, methM, hn, hm, -, -⟩ := Cond.instanceMethod_spec hi'
  obtain ⟨kr, hkr, hni⟩ := notFace_of_selects hsel mk hn
  exact selects_self_of_private (hsame ▸ findClass_of_methodNamed hn) hkr hni hp hi hy
def NSt (h : Heap) (w : Addr) : Prop := ∀ cell : Cell, h[w]? = some cell → cell.vm.isStatics = false
theorem nst_of {Z : State} {h : Heap} {w : Addr} {K : String} (E : Exa Z h w K) : NSt h w := fun cell hc => by
  obtain ⟨c', k, h1, h2, h3, h4, -⟩ := E
  cases hc.symm.trans h1
  exact h4
theorem own_staK {Z : State} {h h' : Heap} {ws : List Addr} {K n d : String} {v : Value} (F : Sta Z h K n d v) (KK : Keep h h' ws) (q : ∀ w ∈ ws, NSt h w) : Sta Z h' K n d v := by
  obtain ⟨cf, i, k, f, a, cell, h1, h2, h3, h4, h5, h6, h7⟩ := F
  refine ⟨cf, i, k, f, a, cell, h1, h2, h3, h4, KK.2.1 a cell h5 fun hm => ?_, h6, h7⟩
  have := q a hm cell h5
  rw [h6] at this
  cases this
/-- a call of a method that the named class inherits, by the contract of the one that declares it -/
theorem own_upBack (X : Stand p l e R s m args below meth c T locs cells slots) (hx : p.tables.exec = Jvm.exec) {own K owner : String} {index : Nat} {y : MethodName} (hown : s.vm.findClass own = some m.cls) (w1 : (Cond.methodLink own index y).before args s = true) (w2 : (Cond.sameMethod y.cls owner y.name y.desc).before args s = true) (ho : owner ≠ "java/lang/invoke/MethodHandle" ∧ owner ≠ "java/lang/invoke/VarHandle")
    (w3 : (Cond.declares ⟨owner, y.name, y.desc⟩).before args s = true) (w4 : (Cond.selects K y ⟨owner, y.name, y.desc⟩).before args s = true) (w5 : (Cond.instanceMethod ⟨owner, y.name, y.desc⟩).before args s = true)
    {W : Nat} {Pre : Pt → Array Value → Prop} {Post : Pt → Array Value → Option Value → Pt → Prop} (hK : Back l R p e below s args ⟨owner, y.name, y.desc⟩ 3 W Pre Post)
    {b : Addr} {cB : ClassId} (hcB : s.vm.findClass K = some cB) (hb : IsOf cB T b) {g : JFrame} (hg : g.method = m) (hsize : g.locals.size = c.maxLocals) {argsL rest : List Value}
    (hlen : ∀ sig, parseMethodDescriptor y.desc = some sig → argsL.length = sig.parameters.length) (hstack : g.stack = argsL.reverse ++ .ref b :: rest) (hW : 2 * g.monitorRoom + (rest.map fun v => v.category).sum ≤ W)
    (hd : decode c.code g.pc = .ok (.invokevirtual index, 3)) (hpre : ∀ vm₁, s.WarmedH vm₁ → Pre ⟨T.setVm vm₁, locs, cells, slots⟩ (.ref b :: argsL).toArray) :
    ∃ (v : Option Value) (vm₁ : Vm) (B : Pt), s.WarmedH vm₁ ∧ Stand p l e R s m args below meth c B.U B.locs B.cells B.slots ∧ Post ⟨T.setVm vm₁, locs, cells, slots⟩ (.ref b :: argsL).toArray v B ∧
      Steps p.tables e below (T.setTop g) (B.U.setTop { g with pc := g.pc + 3, stack := v.toList ++ rest }) := by
  obtain ⟨cell, hc1, hc2, hc3⟩ := hb
  obtain ⟨r0, r, n0, hr0, st0, sig0⟩ := Cond.declares_spec w3
  obtain ⟨mk, mm, nk, hmk, -, abk⟩ := Cond.instanceMethod_spec w5
  obtain ⟨cn, ck, r1, f1, f2, f3, f4, f5⟩ := Cond.sameMethod_found w2
  obtain ⟨c2, r2, m2, q1, q2, q3, q4, kP, k1, k2⟩ := Cond.selects_spec w4
  obtain rfl : r0 = mk := Option.some.inj (n0.symm.trans nk)
  obtain rfl : r0 = r1 := Option.some.inj (n0.symm.trans f5)
  obtain rfl : r0 = r2 := Option.some.inj (f4.symm.trans q2)
  obtain rfl : r0 = m2 := Option.some.inj (n0.symm.trans q3)
  obtain rfl : cB = c2 := Option.some.inj (hcB.symm.trans q1)
  obtain ⟨vm₁, X₁, st₁⟩ := X.invokevirtualUp hx hown w1 w2 ho n0 hr0 st0 hc1 (fun z h => by rw [h] at hc3; cases hc3) (by rw [Launch.admits_selectMethod X.admits, hc2]; exact q4) hmk abk k1 k2 hg (argsL := argsL) (rest := rest) (hlen _ sig0) hstack hd
  obtain ⟨v, B, X', hp, hs⟩ := hK m meth c ⟨T.setVm vm₁, locs, cells, slots⟩ { g with stack := rest } (.invokevirtual index) r0 (.ref b :: argsL).toArray X₁ hg hsize hd hW (X₁.named n0) (hpre vm₁ X₁.warmed)
  exact ⟨v, vm₁, B, X₁.warmed, X', hp, (st₁ _ fun acts => by rw [doInvoke_state]; exact Steps.refl _).trans hs⟩
theorem own_fldI {a0 : Array Value} {Z : State} {t : Term} {a : Addr} {C n d : String} {k : Int32} (ev : t.eval a0 Z none [] Z = some (.ref a)) (h : (Cond.eq (.field t C n d) (.int k)).value a0 Z none Z [] = some true) : Fld Z Z.heap a C n d (.int k) := by
  obtain ⟨x, y, e1, e2, k1, k2⟩ := cmp_v (Or.inl h)
  cases Option.some.inj (e2.symm.trans (Term.int_eval k))
  obtain ⟨z, rfl⟩ := k2
  have q := gotT (Cond.eq_ints e1 (Term.int_eval k)) h
  subst q
  rw [fld_at ev] at e1
  exact Fld.start e1
theorem own_len {a0 : Array Value} {Z : State} {t : Term} {a : Addr} {cl : Cell} {ty : FieldType} {z : Int32} (ev : t.eval a0 Z none [] Z = some (.ref a)) (A : Arr Z Z.heap a cl ty) (h : (Cond.eq (.length t) (.int z)).value a0 Z none Z [] = some true) : cl.slots.size < 2 ^ 31 ∧ cl.slots.size.toInt32 = z := by
  obtain ⟨x, y, e1, e2, k1, k2⟩ := cmp_v (Or.inl h)
  obtain ⟨b, cell, f1, f2, f3, f4⟩ := Jvm.Lib.length_spec e1
  cases Option.some.inj (ev.symm.trans f1)
  cases f2.symm.trans (Arr.fin (U := Z) (Vm.Alike.refl _) A)
  subst f4
  exact ⟨f3, gotT (Cond.eq_ints e1 (Term.int_eval z)) h⟩
theorem own_el {a0 : Array Value} {Z : State} {t : Term} {a : Addr} {cl : Cell} {ty : FieldType} {j v : Int32} (ev : t.eval a0 Z none [] Z = some (.ref a)) (A : Arr Z Z.heap a cl ty) (h : (Cond.eq (.elem t (.int j)) (.int v)).value a0 Z none Z [] = some true) : cl.slots[j.toNatClampNeg]? = some (.int v) := by
  obtain ⟨x, y, e1, e2, k1, k2⟩ := cmp_v (Or.inl h)
  cases Option.some.inj (e2.symm.trans (Term.int_eval v))
  obtain ⟨z, rfl⟩ := k2
  have q := gotT (Cond.eq_ints e1 (Term.int_eval v)) h
  subst q
  exact (elem_in e1 ev (Term.int_eval j) A.1).2
end New
end Jvm.RoadKit
namespace Jvm.Pilot.@@N@@
open Jvm Jvm.ClassFile Sem Op Lib Jvm.Free Jvm.Stand Jvm.LawKit Jvm.RoadKit Bundle Jvm.Pilot.@@N@@.Jvm.D
theorem ww {av : Array Value} {Z : State} (hw : ∀ d ∈ tables_1, d.before av Z = true) (i : Nat) {d : Jvm.Cond} (h : tables_1[i]? = some d) : d.before av Z = true := hw _ (List.mem_of_getElem? h)
theorem own_nat (z : Int32) (n : Nat) (hn : n ≤ 2147483648) (h0 : 0 ≤ z.toInt) (h1 : z.toInt < n) : ∃ k : Nat, k < n ∧ z = Int32.ofNat k := by
  refine ⟨z.toInt.toNat, by omega, ?_⟩
  apply Int32.toInt_inj.mp
  rw [Int32.toInt_ofNat_of_lt (by omega)]
  omega
theorem own_i2c (z : Int32) (h0 : 0 ≤ z.toInt) (h1 : z.toInt < 65536) : z.toUInt32.toUInt16.toUInt32.toInt32 = z := by
  apply Int32.toInt_inj.mp
  have := c_i2c z
  omega
theorem own_asym32 {x y : Int32} (h : y < x) : ¬ x < y := fun q => by rw [Int32.lt_iff_toInt_lt] at *; omega
theorem own_asym64 {x y : Int64} (h : y < x) : ¬ x < y := fun q => by rw [Int64.lt_iff_toInt_lt] at *; omega
theorem own_irr32 {x y : Int32} (h : x = y) : ¬ x < y := fun q => by rw [Int32.lt_iff_toInt_lt] at *; subst h; omega
theorem own_irr64 {x y : Int64} (h : x = y) : ¬ x < y := fun q => by rw [Int64.lt_iff_toInt_lt] at *; subst h; omega
theorem own_tri32 {x y : Int32} (h : ¬ y < x) (g : ¬ x = y) : x < y := by
  rw [← Int32.toInt_inj] at g; rw [Int32.lt_iff_toInt_lt] at *; omega
theorem own_tri64 {x y : Int64} (h : ¬ y < x) (g : ¬ x = y) : x < y := by
  rw [← Int64.toInt_inj] at g; rw [Int64.lt_iff_toInt_lt] at *; omega
theorem own_nlt32 {x y : Int32} (h : x < y) : ¬ x = y := fun q => own_irr32 q h
theorem own_nlt64 {x y : Int64} (h : x < y) : ¬ x = y := fun q => own_irr64 q h
theorem own_ngt32 {x y : Int32} (h : y < x) : ¬ x = y := fun q => own_irr32 q.symm h
theorem own_ngt64 {x y : Int64} (h : y < x) : ¬ x = y := fun q => own_irr64 q.symm h
theorem own_both32 {x y : Int32} (h : ¬ x < y) (g : ¬ y < x) : x = y := by
  rw [← Int32.toInt_inj]; rw [Int32.lt_iff_toInt_lt] at *; omega
theorem own_both64 {x y : Int64} (h : ¬ x < y) (g : ¬ y < x) : x = y := by
  rw [← Int64.toInt_inj]; rw [Int64.lt_iff_toInt_lt] at *; omega
theorem own_rem (z d : Int32) (hd : d ≠ 0) (h0 : 0 ≤ z.toInt) (n : Nat) (hn : d.toInt = n) (hn2 : n ≤ 2147483648) : ∃ k : Nat, k < n ∧ z % d = Int32.ofNat k := by
  have hr := c_irem z d n hn
  have hn0 : n ≠ 0 := fun q => hd (Int32.toInt_inj.mp (by rw [hn, q]; rfl))
  have h1 := hr.1 h0
  have h2 : 0 ≤ z.toInt % (n : Int) := Int.emod_nonneg _ (by omega)
  have h3 : z.toInt % (n : Int) < n := Int.emod_lt_of_pos _ (by omega)
  exact own_nat _ n hn2 (by omega) (by omega)
theorem own_ALt32 {e j k : Int32} (h : e < j) (q : j.toInt ≤ k.toInt) : e < k := by
  rw [Int32.lt_iff_toInt_lt] at *; omega
theorem own_AGf32 {e j k : Int32} (h : e < j) (q : j.toInt ≤ k.toInt + 1) : ¬ k < e := by
  rw [Int32.lt_iff_toInt_lt] at *; omega
theorem own_AEf32 {e j k : Int32} (h : e < j) (q : j.toInt ≤ k.toInt) : ¬ e = k := by
  intro z; subst z; rw [Int32.lt_iff_toInt_lt] at h; omega
theorem own_BLf32 {e j k : Int32} (h : ¬ e < j) (q : k.toInt ≤ j.toInt) : ¬ e < k := by
  rw [Int32.lt_iff_toInt_lt] at *; omega
theorem own_BGt32 {e j k : Int32} (h : ¬ e < j) (q : k.toInt < j.toInt) : k < e := by
  rw [Int32.lt_iff_toInt_lt] at *; omega
theorem own_BEf32 {e j k : Int32} (h : ¬ e < j) (q : k.toInt < j.toInt) : ¬ e = k := by
  intro z; subst z; rw [Int32.lt_iff_toInt_lt] at h; omega
theorem own_CLf32 {e j k : Int32} (h : j < e) (q : k.toInt ≤ j.toInt + 1) : ¬ e < k := by
  rw [Int32.lt_iff_toInt_lt] at *; omega
theorem own_CGt32 {e j k : Int32} (h : j < e) (q : k.toInt ≤ j.toInt) : k < e := by
  rw [Int32.lt_iff_toInt_lt] at *; omega
theorem own_CEf32 {e j k : Int32} (h : j < e) (q : k.toInt ≤ j.toInt) : ¬ e = k := by
  intro z; subst z; rw [Int32.lt_iff_toInt_lt] at h; omega
theorem own_DLt32 {e j k : Int32} (h : ¬ j < e) (q : j.toInt < k.toInt) : e < k := by
  rw [Int32.lt_iff_toInt_lt] at *; omega
theorem own_DGf32 {e j k : Int32} (h : ¬ j < e) (q : j.toInt ≤ k.toInt) : ¬ k < e := by
  rw [Int32.lt_iff_toInt_lt] at *; omega
theorem own_DEf32 {e j k : Int32} (h : ¬ j < e) (q : j.toInt < k.toInt) : ¬ e = k := by
  intro z; subst z; rw [Int32.lt_iff_toInt_lt] at h; omega
theorem own_eqEt32 {e j k : Int32} (h : e = j) (q : j = k) : e = k := by rw [h]; exact q
theorem own_eqEf32 {e j k : Int32} (h : e = j) (q : ¬ j = k) : ¬ e = k := by rw [h]; exact q
theorem own_eqLt32 {e j k : Int32} (h : e = j) (q : j < k) : e < k := by rw [h]; exact q
theorem own_eqLf32 {e j k : Int32} (h : e = j) (q : ¬ j < k) : ¬ e < k := by rw [h]; exact q
theorem own_eqGt32 {e j k : Int32} (h : e = j) (q : k < j) : k < e := by rw [h]; exact q
theorem own_eqGf32 {e j k : Int32} (h : e = j) (q : ¬ k < j) : ¬ k < e := by rw [h]; exact q
theorem own_ALt64 {e j k : Int64} (h : e < j) (q : j.toInt ≤ k.toInt) : e < k := by
  rw [Int64.lt_iff_toInt_lt] at *; omega
theorem own_AGf64 {e j k : Int64} (h : e < j) (q : j.toInt ≤ k.toInt + 1) : ¬ k < e := by
  rw [Int64.lt_iff_toInt_lt] at *; omega
theorem own_AEf64 {e j k : Int64} (h : e < j) (q : j.toInt ≤ k.toInt) : ¬ e = k := by
  intro z; subst z; rw [Int64.lt_iff_toInt_lt] at h; omega
theorem own_BLf64 {e j k : Int64} (h : ¬ e < j) (q : k.toInt ≤ j.toInt) : ¬ e < k := by
  rw [Int64.lt_iff_toInt_lt] at *; omega
theorem own_BGt64 {e j k : Int64} (h : ¬ e < j) (q : k.toInt < j.toInt) : k < e := by
  rw [Int64.lt_iff_toInt_lt] at *; omega
theorem own_BEf64 {e j k : Int64} (h : ¬ e < j) (q : k.toInt < j.toInt) : ¬ e = k := by
  intro z; subst z; rw [Int64.lt_iff_toInt_lt] at h; omega
theorem own_CLf64 {e j k : Int64} (h : j < e) (q : k.toInt ≤ j.toInt + 1) : ¬ e < k := by
  rw [Int64.lt_iff_toInt_lt] at *; omega
theorem own_CGt64 {e j k : Int64} (h : j < e) (q : k.toInt ≤ j.toInt) : k < e := by
  rw [Int64.lt_iff_toInt_lt] at *; omega
theorem own_CEf64 {e j k : Int64} (h : j < e) (q : k.toInt ≤ j.toInt) : ¬ e = k := by
  intro z; subst z; rw [Int64.lt_iff_toInt_lt] at h; omega
theorem own_DLt64 {e j k : Int64} (h : ¬ j < e) (q : j.toInt < k.toInt) : e < k := by
  rw [Int64.lt_iff_toInt_lt] at *; omega
theorem own_DGf64 {e j k : Int64} (h : ¬ j < e) (q : j.toInt ≤ k.toInt) : ¬ k < e := by
  rw [Int64.lt_iff_toInt_lt] at *; omega
theorem own_DEf64 {e j k : Int64} (h : ¬ j < e) (q : j.toInt < k.toInt) : ¬ e = k := by
  intro z; subst z; rw [Int64.lt_iff_toInt_lt] at h; omega
theorem own_eqEt64 {e j k : Int64} (h : e = j) (q : j = k) : e = k := by rw [h]; exact q
theorem own_eqEf64 {e j k : Int64} (h : e = j) (q : ¬ j = k) : ¬ e = k := by rw [h]; exact q
theorem own_eqLt64 {e j k : Int64} (h : e = j) (q : j < k) : e < k := by rw [h]; exact q
theorem own_eqLf64 {e j k : Int64} (h : e = j) (q : ¬ j < k) : ¬ e < k := by rw [h]; exact q
theorem own_eqGt64 {e j k : Int64} (h : e = j) (q : k < j) : k < e := by rw [h]; exact q
theorem own_eqGf64 {e j k : Int64} (h : e = j) (q : ¬ k < j) : ¬ k < e := by rw [h]; exact q
theorem d1_0 : decode prog_22_method_4_code 0 = .ok (.aload_n 0, 1) := by decide +kernel
theorem d1_1 : decode prog_22_method_4_code 1 = .ok (.getstatic 3, 3) := by decide +kernel
theorem d1_4 : decode prog_22_method_4_code 4 = .ok (.if_acmp .eq 10, 3) := by decide +kernel
theorem d1_7 : decode prog_22_method_4_code 7 = .ok (.aload_n 0, 1) := by decide +kernel
theorem d1_8 : decode prog_22_method_4_code 8 = .ok (.getstatic 7, 3) := by decide +kernel
theorem d1_11 : decode prog_22_method_4_code 11 = .ok (.if_acmp .ne 7, 3) := by decide +kernel
theorem d1_14 : decode prog_22_method_4_code 14 = .ok (.iconst 1, 1) := by decide +kernel
theorem d1_15 : decode prog_22_method_4_code 15 = .ok (.goto 4, 3) := by decide +kernel
theorem d1_18 : decode prog_22_method_4_code 18 = .ok (.iconst 0, 1) := by decide +kernel
theorem d1_19 : decode prog_22_method_4_code 19 = .ok (.ireturn, 1) := by decide +kernel
theorem pn_0 : plainName "com/example/pathbinder/pathbinder/core/Comparison$Operator" = true := by first | (simp [plainName, overriddenIn]; done) | decide +kernel
theorem ef_rm1 (m : MethodId) (a0 : Addr) : entryFrame m #[(.ref a0)] 1 = mkF m 0 #[.val (.ref a0)] [] := by first | (simp [entryFrame, mkF, argsToLocals, Value.category]; done) | rfl
def fEq (a0 : Addr) (s_EQUAL : Addr) (s_NOT_EQUAL : Addr) : Int32 := (if a0 = s_EQUAL then (1 : Int32) else (if a0 = s_NOT_EQUAL then (1 : Int32) else (0 : Int32)))
def Q_rm1 (Z : State) (a0 : Addr) (s_EQUAL : Addr) (s_NOT_EQUAL : Addr) (h0 : Heap) (n0 : Nat) (v : Option Value) (h : Heap) (L : List Loc) : Prop := v = some (.int (fEq a0 s_EQUAL s_NOT_EQUAL)) ∧ Fr n0 L ∧ h = h0
set_option maxRecDepth 65536 in
set_option maxHeartbeats 40000000 in
theorem rm1 (l : Launch) (Z : State) (av0 : Array Value) (hw : ∀ d ∈ tables_1, d.before av0 Z = true) (ws : List Jvm.Cond) (a0 : Addr) (s_EQUAL : Addr) (s_NOT_EQUAL : Addr) (h0 : Heap) (n0 : Nat) (Z0 : n0 ≤ h0.size) (S_s_EQUAL : Sta Z h0 "com/example/pathbinder/pathbinder/core/Comparison$Operator" "EQUAL" "Lcom/example/pathbinder/pathbinder/core/Comparison$Operator;" (.ref s_EQUAL)) (S_s_NOT_EQUAL : Sta Z h0 "com/example/pathbinder/pathbinder/core/Comparison$Operator" "NOT_EQUAL" "Lcom/example/pathbinder/pathbinder/core/Comparison$Operator;" (.ref s_NOT_EQUAL)) :
    MetFree l (⟨"com/example/pathbinder/pathbinder/core/Comparison$Operator", "isEquality", "()Z"⟩ : MethodName) (head1 (Jvm.Cond.code (⟨"com/example/pathbinder/pathbinder/core/Comparison$Operator", "isEquality", "()Z"⟩ : MethodName) prog_22_method_4_code 1 (some .boolean) :: ws) ({ frames := 0, cells := 0, slots := 0, locals := 0 } : Room)) (fun a U => a = #[(.ref a0)] ∧ Z.Warmed39 U.vm ∧ U.heap = h0) (fun _ _ _ _ _ => True) (fun _ U o U' => ∃ v L, o = .returned v ∧ Q_rm1 Z a0 s_EQUAL s_NOT_EQUAL h0 n0 v U'.heap L ∧ FrameEnd U o U' L ({ frames := 0, cells := 0, slots := 0, locals := 0 } : Room).cells ({ frames := 0, cells := 0, slots := 0, locals := 0 } : Room).slots) := by
  refine MetFree.of_bodySF (plainFor_of_name pn_0) hisR ?_
  intro p e s m args below meth c s₁ Bd hml0 hP hK
  obtain ⟨rfl, hZ, hh⟩ := hP
  have hx := Bd.exec
  have hby := Bd.bytes
  have hml : c.maxLocals = 1 := hml0
  have dd : ∀ {pc : Nat} {r : Except DecodeError (Instr × Nat)}, decode prog_22_method_4_code pc = r → decode c.code pc = r := fun q => hb hby q
  have hown : s.vm.findClass "com/example/pathbinder/pathbinder/core/Comparison$Operator" = some m.cls := findClass_of_methodNamed Bd.named
  have hnm := (name_of_methodNamed Bd.named Bd.method).1
  have X0 : Stand p l e ({ frames := 0, cells := 0, slots := 0, locals := 0 } : Room) s m #[(.ref a0)] below meth c s₁ [] 0 0 := Stand.of_body Bd
  have e0 : s₁.heap = h0 := by rw [← hh, Bd.state]; rfl
  have N0 := Fr.nil n0
  have hret := Bd.returns
  have hlk := Bd.notSynchronized
  show Gz p e below s ({ frames := 0, cells := 0, slots := 0, locals := 0 } : Room).cells ({ frames := 0, cells := 0, slots := 0, locals := 0 } : Room).slots (Q_rm1 Z a0 s_EQUAL s_NOT_EQUAL h0 n0) (s₁.setTop (entryFrame m #[(.ref a0)] 1))
  refine Gz.enter (ef_rm1 m a0) ?_
  refine Gz.aloadN 1 X0 hx (dd d1_0) rfl rfl rfl ?_
  refine Gz.getS 4 X0 hx hZ hown (dd d1_1) (host := "") (Or.inl (ww hw 22 rfl)) Via.refl e0 S_s_EQUAL rfl fun T1 X1 e1 => ?_
  by_cases hc2 : a0 = s_EQUAL
  · refine Gz.acmp 14 true X1 hx (dd d1_4) rfl rfl (decide_eq_true (congrArg Value.ref hc2)) (by decide) (by decide) ?_
    refine Gz.iconst 15 (1 : Int32) X1 hx (dd d1_14) rfl rfl ?_
    refine Gz.goto 19 X1 hx (dd d1_15) (by decide) (by decide) ?_
    refine Gz.fin X1 (v := some (.int (1 : Int32))) (fun h => by rw [hret] at h; cases h) hlk (by decide) (by decide) (fun fs hr => retN X1 hx (t := .boolean) hret (by simp) (dd d1_19) hr) ?_
    rw [e1]
    exact ⟨(by unfold fEq; rw [if_pos hc2]), N0, rfl⟩
  · refine Gz.acmp 7 false X1 hx (dd d1_4) rfl rfl (decide_eq_false fun q => hc2 (Value.ref.inj q)) (by decide) (by decide) ?_
    refine Gz.aloadN 8 X1 hx (dd d1_7) rfl rfl rfl ?_
    refine Gz.getS 11 X1 hx hZ hown (dd d1_8) (host := "") (Or.inl (ww hw 42 rfl)) Via.refl e1 S_s_NOT_EQUAL rfl fun T3 X3 e3 => ?_
    by_cases hc4 : a0 = s_NOT_EQUAL
    · refine Gz.acmp 14 true X3 hx (dd d1_11) rfl rfl (decide_eq_true (congrArg Value.ref hc4)) (by decide) (by decide) ?_
      refine Gz.iconst 15 (1 : Int32) X3 hx (dd d1_14) rfl rfl ?_
      refine Gz.goto 19 X3 hx (dd d1_15) (by decide) (by decide) ?_
      refine Gz.fin X3 (v := some (.int (1 : Int32))) (fun h => by rw [hret] at h; cases h) hlk (by decide) (by decide) (fun fs hr => retN X3 hx (t := .boolean) hret (by simp) (dd d1_19) hr) ?_
      rw [e3]
      exact ⟨(by unfold fEq; rw [if_neg hc2, if_pos hc4]), N0, rfl⟩
    · refine Gz.acmp 18 false X3 hx (dd d1_11) rfl rfl (decide_eq_false fun q => hc4 (Value.ref.inj q)) (by decide) (by decide) ?_
      refine Gz.iconst 19 (0 : Int32) X3 hx (dd d1_18) rfl rfl ?_
      refine Gz.fin X3 (v := some (.int (0 : Int32))) (fun h => by rw [hret] at h; cases h) hlk (by decide) (by decide) (fun fs hr => retN X3 hx (t := .boolean) hret (by simp) (dd d1_19) hr) ?_
      rw [e3]
      exact ⟨(by unfold fEq; rw [if_neg hc2, if_neg hc4]), N0, rfl⟩
theorem d3_0 : decode jdk_37_method_2_code 0 = .ok (.aload_n 0, 1) := by decide +kernel
theorem d3_1 : decode jdk_37_method_2_code 1 = .ok (.getfield 7, 3) := by decide +kernel
theorem d3_4 : decode jdk_37_method_2_code 4 = .ok (.ireturn, 1) := by decide +kernel
theorem pn_1 : plainName "java/lang/Enum" = true := by first | (simp [plainName, overriddenIn]; done) | decide +kernel
theorem ef_rm3 (m : MethodId) (a0 : Addr) : entryFrame m #[(.ref a0)] 1 = mkF m 0 #[.val (.ref a0)] [] := by first | (simp [entryFrame, mkF, argsToLocals, Value.category]; done) | rfl
def fOrd (a0 : Addr) (od : Int32) : Int32 := od
def Q_rm3 (Z : State) (a0 : Addr) (od : Int32) (h0 : Heap) (n0 : Nat) (v : Option Value) (h : Heap) (L : List Loc) : Prop := v = some (.int (fOrd a0 od)) ∧ Fr n0 L ∧ h = h0
set_option maxRecDepth 65536 in
set_option maxHeartbeats 40000000 in
theorem rm3 (l : Launch) (Z : State) (av0 : Array Value) (hw : ∀ d ∈ tables_1, d.before av0 Z = true) (ws : List Jvm.Cond) (a0 : Addr) (od : Int32) (h0 : Heap) (n0 : Nat) (Z0 : n0 ≤ h0.size) (F_ordinal_a0 : Fld Z h0 a0 "java/lang/Enum" "ordinal" "I" (.int od)) :
    MetFree l (⟨"java/lang/Enum", "ordinal", "()I"⟩ : MethodName) (head1 (Jvm.Cond.code (⟨"java/lang/Enum", "ordinal", "()I"⟩ : MethodName) jdk_37_method_2_code 1 (some .int) :: ws) ({ frames := 0, cells := 0, slots := 0, locals := 0 } : Room)) (fun a U => a = #[(.ref a0)] ∧ Z.Warmed39 U.vm ∧ U.heap = h0) (fun _ _ _ _ _ => True) (fun _ U o U' => ∃ v L, o = .returned v ∧ Q_rm3 Z a0 od h0 n0 v U'.heap L ∧ FrameEnd U o U' L ({ frames := 0, cells := 0, slots := 0, locals := 0 } : Room).cells ({ frames := 0, cells := 0, slots := 0, locals := 0 } : Room).slots) := by
  refine MetFree.of_bodySF (plainFor_of_name pn_1) hisR ?_
  intro p e s m args below meth c s₁ Bd hml0 hP hK
  obtain ⟨rfl, hZ, hh⟩ := hP
  have hx := Bd.exec
  have hby := Bd.bytes
  have hml : c.maxLocals = 1 := hml0
  have dd : ∀ {pc : Nat} {r : Except DecodeError (Instr × Nat)}, decode jdk_37_method_2_code pc = r → decode c.code pc = r := fun q => hb hby q
  have hown : s.vm.findClass "java/lang/Enum" = some m.cls := findClass_of_methodNamed Bd.named
  have hnm := (name_of_methodNamed Bd.named Bd.method).1
  have X0 : Stand p l e ({ frames := 0, cells := 0, slots := 0, locals := 0 } : Room) s m #[(.ref a0)] below meth c s₁ [] 0 0 := Stand.of_body Bd
  have e0 : s₁.heap = h0 := by rw [← hh, Bd.state]; rfl
  have N0 := Fr.nil n0
  have hret := Bd.returns
  have hlk := Bd.notSynchronized
  show Gz p e below s ({ frames := 0, cells := 0, slots := 0, locals := 0 } : Room).cells ({ frames := 0, cells := 0, slots := 0, locals := 0 } : Room).slots (Q_rm3 Z a0 od h0 n0) (s₁.setTop (entryFrame m #[(.ref a0)] 1))
  refine Gz.enter (ef_rm3 m a0) ?_
  refine Gz.aloadN 1 X0 hx (dd d3_0) rfl rfl rfl ?_
  refine Gz.getF 4 X0 hx hZ hown (dd d3_1) (host := "") (Or.inl (ww hw 35 rfl)) Via.refl e0 F_ordinal_a0 rfl fun T1 X1 e1 => ?_
  refine Gz.fin X1 (v := some (.int od)) (fun h => by rw [hret] at h; cases h) hlk (by decide) (by decide) (fun fs hr => retI X1 hx hret (dd d3_4) hr) ?_
  rw [e1]
  exact ⟨rfl, N0, rfl⟩
theorem pd_0 : parseMethodDescriptor "()I" = some ⟨[], some .int⟩ := by decide +kernel
abbrev ym0 : MethodName := ⟨"com/example/pathbinder/pathbinder/core/Comparison$Operator", "ordinal", "()I"⟩
theorem d2_0 : decode prog_22_method_7_code 0 = .ok (.aload_n 0, 1) := by decide +kernel
theorem d2_1 : decode prog_22_method_7_code 1 = .ok (.invokevirtual 41, 3) := by decide +kernel
theorem d2_4 : decode prog_22_method_7_code 4 = .ok (.tableswitch 40 0 5 #[50, 50, 54, 60, 66, 72], 40) := by decide +kernel
theorem d2_54 : decode prog_22_method_7_code 54 = .ok (.aload_n 0, 1) := by decide +kernel
theorem d2_55 : decode prog_22_method_7_code 55 = .ok (.goto 24, 3) := by decide +kernel
theorem d2_79 : decode prog_22_method_7_code 79 = .ok (.areturn, 1) := by decide +kernel
theorem ef_rmR0 (m : MethodId) (a0 : Addr) : entryFrame m #[(.ref a0)] 1 = mkF m 0 #[.val (.ref a0)] [] := by first | (simp [entryFrame, mkF, argsToLocals, Value.category]; done) | rfl
def fR0 (a0 : Addr) : Addr := a0
def Q_rmR0 (Z : State) (a0 : Addr) (h0 : Heap) (n0 : Nat) (v : Option Value) (h : Heap) (L : List Loc) : Prop := v = some (.ref (fR0 a0)) ∧ Fr n0 L ∧ h = h0
set_option maxRecDepth 65536 in
set_option maxHeartbeats 40000000 in
theorem rmR0 (l : Launch) (Z : State) (av0 : Array Value) (hw : ∀ d ∈ tables_1, d.before av0 Z = true) (ws : List Jvm.Cond) (a0 : Addr) (h0 : Heap) (n0 : Nat) (Z0 : n0 ≤ h0.size) (E_a0 : Exa Z h0 a0 "com/example/pathbinder/pathbinder/core/Comparison$Operator") (F_ordinal_a0 : Fld Z h0 a0 "java/lang/Enum" "ordinal" "I" (.int (0 : Int32))) :
    MetFree l (⟨"com/example/pathbinder/pathbinder/core/Comparison$Operator", "reversed", "()Lcom/example/pathbinder/pathbinder/core/Comparison$Operator;"⟩ : MethodName) (head1 (Jvm.Cond.code (⟨"com/example/pathbinder/pathbinder/core/Comparison$Operator", "reversed", "()Lcom/example/pathbinder/pathbinder/core/Comparison$Operator;"⟩ : MethodName) prog_22_method_7_code 1 (some (.object "com/example/pathbinder/pathbinder/core/Comparison$Operator")) :: ws) ({ frames := 1, cells := 0, slots := 0, locals := 12 } : Room)) (fun a U => a = #[(.ref a0)] ∧ Z.Warmed39 U.vm ∧ U.heap = h0) (fun _ _ _ _ _ => True) (fun _ U o U' => ∃ v L, o = .returned v ∧ Q_rmR0 Z a0 h0 n0 v U'.heap L ∧ FrameEnd U o U' L ({ frames := 1, cells := 0, slots := 0, locals := 12 } : Room).cells ({ frames := 1, cells := 0, slots := 0, locals := 12 } : Room).slots) := by
  refine MetFree.of_bodySF (plainFor_of_name pn_0) hisR ?_
  intro p e s m args below meth c s₁ Bd hml0 hP hK
  obtain ⟨rfl, hZ, hh⟩ := hP
  have hx := Bd.exec
  have hby := Bd.bytes
  have hml : c.maxLocals = 1 := hml0
  have dd : ∀ {pc : Nat} {r : Except DecodeError (Instr × Nat)}, decode prog_22_method_7_code pc = r → decode c.code pc = r := fun q => hb hby q
  have hown : s.vm.findClass "com/example/pathbinder/pathbinder/core/Comparison$Operator" = some m.cls := findClass_of_methodNamed Bd.named
  have hnm := (name_of_methodNamed Bd.named Bd.method).1
  have X0 : Stand p l e ({ frames := 1, cells := 0, slots := 0, locals := 12 } : Room) s m #[(.ref a0)] below meth c s₁ [] 0 0 := Stand.of_body Bd
  have e0 : s₁.heap = h0 := by rw [← hh, Bd.state]; rfl
  have N0 := Fr.nil n0
  have hret := Bd.returns
  have hlk := Bd.notSynchronized
  show Gz p e below s ({ frames := 1, cells := 0, slots := 0, locals := 12 } : Room).cells ({ frames := 1, cells := 0, slots := 0, locals := 12 } : Room).slots (Q_rmR0 Z a0 h0 n0) (s₁.setTop (entryFrame m #[(.ref a0)] 1))
  refine Gz.enter (ef_rmR0 m a0) ?_
  refine Gz.aloadN 1 X0 hx (dd d2_0) rfl rfl rfl ?_
  obtain ⟨cq1, kq1, q1a, q1b, q1c⟩ := isOf hZ e0 E_a0
  obtain ⟨_, _, ⟨T1, L1, k1, n1⟩, -, X1, ⟨Lc1, hQ1, l1, y1, z1⟩, st1⟩ := own_upBack X0 hx (y := ym0) (owner := "java/lang/Enum") hown (mvT hZ (ww hw 28 rfl)) (mvT hZ (ww hw 29 rfl)) (by decide) (mvT hZ (ww hw 30 rfl)) (mvT hZ (ww hw 32 rfl)) (mvT hZ (ww hw 31 rfl)) (backOf (W := 0) (rm3 l Z av0 hw [] a0 (0 : Int32) h0 n0 Z0 F_ordinal_a0) hZ (ww hw 34 rfl) (ww hw 33 rfl) (by decide) (by decide)) q1a q1c (g := (mkF m 1 #[.val (.ref a0)] [(.ref a0)])) rfl (by rw [hml]; rfl) (argsL := []) (rest := []) (lenOf pd_0 rfl) rfl (Nat.le_refl _) (dd d2_1) (fun _ _ => ⟨rfl, e0, (by decide : 0 + 0 ≤ _), (by decide : 0 + 0 ≤ _)⟩)
  dsimp only [Pt.U, Pt.locs, Pt.cells, Pt.slots, Q_rm3] at X1 l1 y1 z1 st1 hQ1
  subst l1 y1 z1
  rw [show (fOrd a0 (0 : Int32)) = (0 : Int32) from (by unfold fOrd; rfl)] at hQ1
  obtain ⟨rfl, N1q, e1⟩ := hQ1
  have N1 := Fr.app N0 N1q
  refine Gz.tr st1 ?_
  refine Gz.st (fun t k => XS.tswIn X1.here hx rfl (pc0 := 4) (pc' := 54) rfl (dd d2_4) rfl (by decide) (o := 50) rfl (by decide) (by decide) k) ?_
  refine Gz.aloadN 55 X1 hx (dd d2_54) rfl rfl rfl ?_
  refine Gz.goto 79 X1 hx (dd d2_55) (by decide) (by decide) ?_
  refine Gz.fin X1 (v := some (.ref a0)) (fun h => by rw [hret] at h; cases h) hlk (by decide) (by decide) (fun fs hr => retA X1 hx hret (dd d2_79) hr rfl rfl) ?_
  rw [e1]
  exact ⟨rfl, N1, rfl⟩
theorem ef_rmR1 (m : MethodId) (a0 : Addr) : entryFrame m #[(.ref a0)] 1 = mkF m 0 #[.val (.ref a0)] [] := by first | (simp [entryFrame, mkF, argsToLocals, Value.category]; done) | rfl
def fR1 (a0 : Addr) : Addr := a0
def Q_rmR1 (Z : State) (a0 : Addr) (h0 : Heap) (n0 : Nat) (v : Option Value) (h : Heap) (L : List Loc) : Prop := v = some (.ref (fR1 a0)) ∧ Fr n0 L ∧ h = h0
set_option maxRecDepth 65536 in
set_option maxHeartbeats 40000000 in
theorem rmR1 (l : Launch) (Z : State) (av0 : Array Value) (hw : ∀ d ∈ tables_1, d.before av0 Z = true) (ws : List Jvm.Cond) (a0 : Addr) (h0 : Heap) (n0 : Nat) (Z0 : n0 ≤ h0.size) (E_a0 : Exa Z h0 a0 "com/example/pathbinder/pathbinder/core/Comparison$Operator") (F_ordinal_a0 : Fld Z h0 a0 "java/lang/Enum" "ordinal" "I" (.int (1 : Int32))) :
    MetFree l (⟨"com/example/pathbinder/pathbinder/core/Comparison$Operator", "reversed", "()Lcom/example/pathbinder/pathbinder/core/Comparison$Operator;"⟩ : MethodName) (head1 (Jvm.Cond.code (⟨"com/example/pathbinder/pathbinder/core/Comparison$Operator", "reversed", "()Lcom/example/pathbinder/pathbinder/core/Comparison$Operator;"⟩ : MethodName) prog_22_method_7_code 1 (some (.object "com/example/pathbinder/pathbinder/core/Comparison$Operator")) :: ws) ({ frames := 1, cells := 0, slots := 0, locals := 12 } : Room)) (fun a U => a = #[(.ref a0)] ∧ Z.Warmed39 U.vm ∧ U.heap = h0) (fun _ _ _ _ _ => True) (fun _ U o U' => ∃ v L, o = .returned v ∧ Q_rmR1 Z a0 h0 n0 v U'.heap L ∧ FrameEnd U o U' L ({ frames := 1, cells := 0, slots := 0, locals := 12 } : Room).cells ({ frames := 1, cells := 0, slots := 0, locals := 12 } : Room).slots) := by
  refine MetFree.of_bodySF (plainFor_of_name pn_0) hisR ?_
  intro p e s m args below meth c s₁ Bd hml0 hP hK
  obtain ⟨rfl, hZ, hh⟩ := hP
  have hx := Bd.exec
  have hby := Bd.bytes
  have hml : c.maxLocals = 1 := hml0
  have dd : ∀ {pc : Nat} {r : Except DecodeError (Instr × Nat)}, decode prog_22_method_7_code pc = r → decode c.code pc = r := fun q => hb hby q
  have hown : s.vm.findClass "com/example/pathbinder/pathbinder/core/Comparison$Operator" = some m.cls := findClass_of_methodNamed Bd.named
  have hnm := (name_of_methodNamed Bd.named Bd.method).1
  have X0 : Stand p l e ({ frames := 1, cells := 0, slots := 0, locals := 12 } : Room) s m #[(.ref a0)] below meth c s₁ [] 0 0 := Stand.of_body Bd
  have e0 : s₁.heap = h0 := by rw [← hh, Bd.state]; rfl
  have N0 := Fr.nil n0
  have hret := Bd.returns
  have hlk := Bd.notSynchronized
  show Gz p e below s ({ frames := 1, cells := 0, slots := 0, locals := 12 } : Room).cells ({ frames := 1, cells := 0, slots := 0, locals := 12 } : Room).slots (Q_rmR1 Z a0 h0 n0) (s₁.setTop (entryFrame m #[(.ref a0)] 1))
  refine Gz.enter (ef_rmR1 m a0) ?_
  refine Gz.aloadN 1 X0 hx (dd d2_0) rfl rfl rfl ?_
  obtain ⟨cq1, kq1, q1a, q1b, q1c⟩ := isOf hZ e0 E_a0
  obtain ⟨_, _, ⟨T1, L1, k1, n1⟩, -, X1, ⟨Lc1, hQ1, l1, y1, z1⟩, st1⟩ := own_upBack X0 hx (y := ym0) (owner := "java/lang/Enum") hown (mvT hZ (ww hw 28 rfl)) (mvT hZ (ww hw 29 rfl)) (by decide) (mvT hZ (ww hw 30 rfl)) (mvT hZ (ww hw 32 rfl)) (mvT hZ (ww hw 31 rfl)) (backOf (W := 0) (rm3 l Z av0 hw [] a0 (1 : Int32) h0 n0 Z0 F_ordinal_a0) hZ (ww hw 34 rfl) (ww hw 33 rfl) (by decide) (by decide)) q1a q1c (g := (mkF m 1 #[.val (.ref a0)] [(.ref a0)])) rfl (by rw [hml]; rfl) (argsL := []) (rest := []) (lenOf pd_0 rfl) rfl (Nat.le_refl _) (dd d2_1) (fun _ _ => ⟨rfl, e0, (by decide : 0 + 0 ≤ _), (by decide : 0 + 0 ≤ _)⟩)
  dsimp only [Pt.U, Pt.locs, Pt.cells, Pt.slots, Q_rm3] at X1 l1 y1 z1 st1 hQ1
  subst l1 y1 z1
  rw [show (fOrd a0 (1 : Int32)) = (1 : Int32) from (by unfold fOrd; rfl)] at hQ1
  obtain ⟨rfl, N1q, e1⟩ := hQ1
  have N1 := Fr.app N0 N1q
  refine Gz.tr st1 ?_
  refine Gz.st (fun t k => XS.tswIn X1.here hx rfl (pc0 := 4) (pc' := 54) rfl (dd d2_4) rfl (by decide) (o := 50) rfl (by decide) (by decide) k) ?_
  refine Gz.aloadN 55 X1 hx (dd d2_54) rfl rfl rfl ?_
  refine Gz.goto 79 X1 hx (dd d2_55) (by decide) (by decide) ?_
  refine Gz.fin X1 (v := some (.ref a0)) (fun h => by rw [hret] at h; cases h) hlk (by decide) (by decide) (fun fs hr => retA X1 hx hret (dd d2_79) hr rfl rfl) ?_
  rw [e1]
  exact ⟨rfl, N1, rfl⟩
theorem d2_58 : decode prog_22_method_7_code 58 = .ok (.getstatic 16, 3) := by decide +kernel
theorem d2_61 : decode prog_22_method_7_code 61 = .ok (.goto 18, 3) := by decide +kernel
theorem ef_rmR2 (m : MethodId) (a0 : Addr) : entryFrame m #[(.ref a0)] 1 = mkF m 0 #[.val (.ref a0)] [] := by first | (simp [entryFrame, mkF, argsToLocals, Value.category]; done) | rfl
def fR2 (a0 : Addr) (s_GREATER : Addr) : Addr := s_GREATER
def Q_rmR2 (Z : State) (a0 : Addr) (s_GREATER : Addr) (h0 : Heap) (n0 : Nat) (v : Option Value) (h : Heap) (L : List Loc) : Prop := v = some (.ref (fR2 a0 s_GREATER)) ∧ Fr n0 L ∧ h = h0
set_option maxRecDepth 65536 in
set_option maxHeartbeats 40000000 in
theorem rmR2 (l : Launch) (Z : State) (av0 : Array Value) (hw : ∀ d ∈ tables_1, d.before av0 Z = true) (ws : List Jvm.Cond) (a0 : Addr) (s_GREATER : Addr) (h0 : Heap) (n0 : Nat) (Z0 : n0 ≤ h0.size) (E_a0 : Exa Z h0 a0 "com/example/pathbinder/pathbinder/core/Comparison$Operator") (F_ordinal_a0 : Fld Z h0 a0 "java/lang/Enum" "ordinal" "I" (.int (2 : Int32))) (S_s_GREATER : Sta Z h0 "com/example/pathbinder/pathbinder/core/Comparison$Operator" "GREATER" "Lcom/example/pathbinder/pathbinder/core/Comparison$Operator;" (.ref s_GREATER)) :
    MetFree l (⟨"com/example/pathbinder/pathbinder/core/Comparison$Operator", "reversed", "()Lcom/example/pathbinder/pathbinder/core/Comparison$Operator;"⟩ : MethodName) (head1 (Jvm.Cond.code (⟨"com/example/pathbinder/pathbinder/core/Comparison$Operator", "reversed", "()Lcom/example/pathbinder/pathbinder/core/Comparison$Operator;"⟩ : MethodName) prog_22_method_7_code 1 (some (.object "com/example/pathbinder/pathbinder/core/Comparison$Operator")) :: ws) ({ frames := 1, cells := 0, slots := 0, locals := 12 } : Room)) (fun a U => a = #[(.ref a0)] ∧ Z.Warmed39 U.vm ∧ U.heap = h0) (fun _ _ _ _ _ => True) (fun _ U o U' => ∃ v L, o = .returned v ∧ Q_rmR2 Z a0 s_GREATER h0 n0 v U'.heap L ∧ FrameEnd U o U' L ({ frames := 1, cells := 0, slots := 0, locals := 12 } : Room).cells ({ frames := 1, cells := 0, slots := 0, locals := 12 } : Room).slots) := by
  refine MetFree.of_bodySF (plainFor_of_name pn_0) hisR ?_
  intro p e s m args below meth c s₁ Bd hml0 hP hK
  obtain ⟨rfl, hZ, hh⟩ := hP
  have hx := Bd.exec
  have hby := Bd.bytes
  have hml : c.maxLocals = 1 := hml0
  have dd : ∀ {pc : Nat} {r : Except DecodeError (Instr × Nat)}, decode prog_22_method_7_code pc = r → decode c.code pc = r := fun q => hb hby q
  have hown : s.vm.findClass "com/example/pathbinder/pathbinder/core/Comparison$Operator" = some m.cls := findClass_of_methodNamed Bd.named
  have hnm := (name_of_methodNamed Bd.named Bd.method).1
  have X0 : Stand p l e ({ frames := 1, cells := 0, slots := 0, locals := 12 } : Room) s m #[(.ref a0)] below meth c s₁ [] 0 0 := Stand.of_body Bd
  have e0 : s₁.heap = h0 := by rw [← hh, Bd.state]; rfl
  have N0 := Fr.nil n0
  have hret := Bd.returns
  have hlk := Bd.notSynchronized
  show Gz p e below s ({ frames := 1, cells := 0, slots := 0, locals := 12 } : Room).cells ({ frames := 1, cells := 0, slots := 0, locals := 12 } : Room).slots (Q_rmR2 Z a0 s_GREATER h0 n0) (s₁.setTop (entryFrame m #[(.ref a0)] 1))
  refine Gz.enter (ef_rmR2 m a0) ?_
  refine Gz.aloadN 1 X0 hx (dd d2_0) rfl rfl rfl ?_
  obtain ⟨cq1, kq1, q1a, q1b, q1c⟩ := isOf hZ e0 E_a0
  obtain ⟨_, _, ⟨T1, L1, k1, n1⟩, -, X1, ⟨Lc1, hQ1, l1, y1, z1⟩, st1⟩ := own_upBack X0 hx (y := ym0) (owner := "java/lang/Enum") hown (mvT hZ (ww hw 28 rfl)) (mvT hZ (ww hw 29 rfl)) (by decide) (mvT hZ (ww hw 30 rfl)) (mvT hZ (ww hw 32 rfl)) (mvT hZ (ww hw 31 rfl)) (backOf (W := 0) (rm3 l Z av0 hw [] a0 (2 : Int32) h0 n0 Z0 F_ordinal_a0) hZ (ww hw 34 rfl) (ww hw 33 rfl) (by decide) (by decide)) q1a q1c (g := (mkF m 1 #[.val (.ref a0)] [(.ref a0)])) rfl (by rw [hml]; rfl) (argsL := []) (rest := []) (lenOf pd_0 rfl) rfl (Nat.le_refl _) (dd d2_1) (fun _ _ => ⟨rfl, e0, (by decide : 0 + 0 ≤ _), (by decide : 0 + 0 ≤ _)⟩)
  dsimp only [Pt.U, Pt.locs, Pt.cells, Pt.slots, Q_rm3] at X1 l1 y1 z1 st1 hQ1
  subst l1 y1 z1
  rw [show (fOrd a0 (2 : Int32)) = (2 : Int32) from (by unfold fOrd; rfl)] at hQ1
  obtain ⟨rfl, N1q, e1⟩ := hQ1
  have N1 := Fr.app N0 N1q
  refine Gz.tr st1 ?_
  refine Gz.st (fun t k => XS.tswIn X1.here hx rfl (pc0 := 4) (pc' := 58) rfl (dd d2_4) rfl (by decide) (o := 54) rfl (by decide) (by decide) k) ?_
  refine Gz.getS 61 X1 hx hZ hown (dd d2_58) (host := "") (Or.inl (ww hw 43 rfl)) Via.refl e1 S_s_GREATER rfl fun T2 X2 e2 => ?_
  refine Gz.goto 79 X2 hx (dd d2_61) (by decide) (by decide) ?_
  refine Gz.fin X2 (v := some (.ref s_GREATER)) (fun h => by rw [hret] at h; cases h) hlk (by decide) (by decide) (fun fs hr => retA X2 hx hret (dd d2_79) hr rfl rfl) ?_
  rw [e2]
  exact ⟨rfl, N1, rfl⟩
theorem d2_64 : decode prog_22_method_7_code 64 = .ok (.getstatic 19, 3) := by decide +kernel
theorem d2_67 : decode prog_22_method_7_code 67 = .ok (.goto 12, 3) := by decide +kernel
theorem ef_rmR3 (m : MethodId) (a0 : Addr) : entryFrame m #[(.ref a0)] 1 = mkF m 0 #[.val (.ref a0)] [] := by first | (simp [entryFrame, mkF, argsToLocals, Value.category]; done) | rfl
def fR3 (a0 : Addr) (s_GREATER_OR_EQUAL : Addr) : Addr := s_GREATER_OR_EQUAL
def Q_rmR3 (Z : State) (a0 : Addr) (s_GREATER_OR_EQUAL : Addr) (h0 : Heap) (n0 : Nat) (v : Option Value) (h : Heap) (L : List Loc) : Prop := v = some (.ref (fR3 a0 s_GREATER_OR_EQUAL)) ∧ Fr n0 L ∧ h = h0
set_option maxRecDepth 65536 in
set_option maxHeartbeats 40000000 in
theorem rmR3 (l : Launch) (Z : State) (av0 : Array Value) (hw : ∀ d ∈ tables_1, d.before av0 Z = true) (ws : List Jvm.Cond) (a0 : Addr) (s_GREATER_OR_EQUAL : Addr) (h0 : Heap) (n0 : Nat) (Z0 : n0 ≤ h0.size) (E_a0 : Exa Z h0 a0 "com/example/pathbinder/pathbinder/core/Comparison$Operator") (F_ordinal_a0 : Fld Z h0 a0 "java/lang/Enum" "ordinal" "I" (.int (3 : Int32))) (S_s_GREATER_OR_EQUAL : Sta Z h0 "com/example/pathbinder/pathbinder/core/Comparison$Operator" "GREATER_OR_EQUAL" "Lcom/example/pathbinder/pathbinder/core/Comparison$Operator;" (.ref s_GREATER_OR_EQUAL)) :
    MetFree l (⟨"com/example/pathbinder/pathbinder/core/Comparison$Operator", "reversed", "()Lcom/example/pathbinder/pathbinder/core/Comparison$Operator;"⟩ : MethodName) (head1 (Jvm.Cond.code (⟨"com/example/pathbinder/pathbinder/core/Comparison$Operator", "reversed", "()Lcom/example/pathbinder/pathbinder/core/Comparison$Operator;"⟩ : MethodName) prog_22_method_7_code 1 (some (.object "com/example/pathbinder/pathbinder/core/Comparison$Operator")) :: ws) ({ frames := 1, cells := 0, slots := 0, locals := 12 } : Room)) (fun a U => a = #[(.ref a0)] ∧ Z.Warmed39 U.vm ∧ U.heap = h0) (fun _ _ _ _ _ => True) (fun _ U o U' => ∃ v L, o = .returned v ∧ Q_rmR3 Z a0 s_GREATER_OR_EQUAL h0 n0 v U'.heap L ∧ FrameEnd U o U' L ({ frames := 1, cells := 0, slots := 0, locals := 12 } : Room).cells ({ frames := 1, cells := 0, slots := 0, locals := 12 } : Room).slots) := by
  refine MetFree.of_bodySF (plainFor_of_name pn_0) hisR ?_
  intro p e s m args below meth c s₁ Bd hml0 hP hK
  obtain ⟨rfl, hZ, hh⟩ := hP
  have hx := Bd.exec
  have hby := Bd.bytes
  have hml : c.maxLocals = 1 := hml0
  have dd : ∀ {pc : Nat} {r : Except DecodeError (Instr × Nat)}, decode prog_22_method_7_code pc = r → decode c.code pc = r := fun q => hb hby q
  have hown : s.vm.findClass "com/example/pathbinder/pathbinder/core/Comparison$Operator" = some m.cls := findClass_of_methodNamed Bd.named
  have hnm := (name_of_methodNamed Bd.named Bd.method).1
  have X0 : Stand p l e ({ frames := 1, cells := 0, slots := 0, locals := 12 } : Room) s m #[(.ref a0)] below meth c s₁ [] 0 0 := Stand.of_body Bd
  have e0 : s₁.heap = h0 := by rw [← hh, Bd.state]; rfl
  have N0 := Fr.nil n0
  have hret := Bd.returns
  have hlk := Bd.notSynchronized
  show Gz p e below s ({ frames := 1, cells := 0, slots := 0, locals := 12 } : Room).cells ({ frames := 1, cells := 0, slots := 0, locals := 12 } : Room).slots (Q_rmR3 Z a0 s_GREATER_OR_EQUAL h0 n0) (s₁.setTop (entryFrame m #[(.ref a0)] 1))
  refine Gz.enter (ef_rmR3 m a0) ?_
  refine Gz.aloadN 1 X0 hx (dd d2_0) rfl rfl rfl ?_
  obtain ⟨cq1, kq1, q1a, q1b, q1c⟩ := isOf hZ e0 E_a0
  obtain ⟨_, _, ⟨T1, L1, k1, n1⟩, -, X1, ⟨Lc1, hQ1, l1, y1, z1⟩, st1⟩ := own_upBack X0 hx (y := ym0) (owner := "java/lang/Enum") hown (mvT hZ (ww hw 28 rfl)) (mvT hZ (ww hw 29 rfl)) (by decide) (mvT hZ (ww hw 30 rfl)) (mvT hZ (ww hw 32 rfl)) (mvT hZ (ww hw 31 rfl)) (backOf (W := 0) (rm3 l Z av0 hw [] a0 (3 : Int32) h0 n0 Z0 F_ordinal_a0) hZ (ww hw 34 rfl) (ww hw 33 rfl) (by decide) (by decide)) q1a q1c (g := (mkF m 1 #[.val (.ref a0)] [(.ref a0)])) rfl (by rw [hml]; rfl) (argsL := []) (rest := []) (lenOf pd_0 rfl) rfl (Nat.le_refl _) (dd d2_1) (fun _ _ => ⟨rfl, e0, (by decide : 0 + 0 ≤ _), (by decide : 0 + 0 ≤ _)⟩)
  dsimp only [Pt.U, Pt.locs, Pt.cells, Pt.slots, Q_rm3] at X1 l1 y1 z1 st1 hQ1
  subst l1 y1 z1
  rw [show (fOrd a0 (3 : Int32)) = (3 : Int32) from (by unfold fOrd; rfl)] at hQ1
  obtain ⟨rfl, N1q, e1⟩ := hQ1
  have N1 := Fr.app N0 N1q
  refine Gz.tr st1 ?_
  refine Gz.st (fun t k => XS.tswIn X1.here hx rfl (pc0 := 4) (pc' := 64) rfl (dd d2_4) rfl (by decide) (o := 60) rfl (by decide) (by decide) k) ?_
  refine Gz.getS 67 X1 hx hZ hown (dd d2_64) (host := "") (Or.inl (ww hw 45 rfl)) Via.refl e1 S_s_GREATER_OR_EQUAL rfl fun T2 X2 e2 => ?_
  refine Gz.goto 79 X2 hx (dd d2_67) (by decide) (by decide) ?_
  refine Gz.fin X2 (v := some (.ref s_GREATER_OR_EQUAL)) (fun h => by rw [hret] at h; cases h) hlk (by decide) (by decide) (fun fs hr => retA X2 hx hret (dd d2_79) hr rfl rfl) ?_
  rw [e2]
  exact ⟨rfl, N1, rfl⟩
theorem d2_70 : decode prog_22_method_7_code 70 = .ok (.getstatic 10, 3) := by decide +kernel
theorem d2_73 : decode prog_22_method_7_code 73 = .ok (.goto 6, 3) := by decide +kernel
theorem ef_rmR4 (m : MethodId) (a0 : Addr) : entryFrame m #[(.ref a0)] 1 = mkF m 0 #[.val (.ref a0)] [] := by first | (simp [entryFrame, mkF, argsToLocals, Value.category]; done) | rfl
def fR4 (a0 : Addr) (s_LESS : Addr) : Addr := s_LESS
def Q_rmR4 (Z : State) (a0 : Addr) (s_LESS : Addr) (h0 : Heap) (n0 : Nat) (v : Option Value) (h : Heap) (L : List Loc) : Prop := v = some (.ref (fR4 a0 s_LESS)) ∧ Fr n0 L ∧ h = h0
set_option maxRecDepth 65536 in
set_option maxHeartbeats 40000000 in
theorem rmR4 (l : Launch) (Z : State) (av0 : Array Value) (hw : ∀ d ∈ tables_1, d.before av0 Z = true) (ws : List Jvm.Cond) (a0 : Addr) (s_LESS : Addr) (h0 : Heap) (n0 : Nat) (Z0 : n0 ≤ h0.size) (E_a0 : Exa Z h0 a0 "com/example/pathbinder/pathbinder/core/Comparison$Operator") (F_ordinal_a0 : Fld Z h0 a0 "java/lang/Enum" "ordinal" "I" (.int (4 : Int32))) (S_s_LESS : Sta Z h0 "com/example/pathbinder/pathbinder/core/Comparison$Operator" "LESS" "Lcom/example/pathbinder/pathbinder/core/Comparison$Operator;" (.ref s_LESS)) :
    MetFree l (⟨"com/example/pathbinder/pathbinder/core/Comparison$Operator", "reversed", "()Lcom/example/pathbinder/pathbinder/core/Comparison$Operator;"⟩ : MethodName) (head1 (Jvm.Cond.code (⟨"com/example/pathbinder/pathbinder/core/Comparison$Operator", "reversed", "()Lcom/example/pathbinder/pathbinder/core/Comparison$Operator;"⟩ : MethodName) prog_22_method_7_code 1 (some (.object "com/example/pathbinder/pathbinder/core/Comparison$Operator")) :: ws) ({ frames := 1, cells := 0, slots := 0, locals := 12 } : Room)) (fun a U => a = #[(.ref a0)] ∧ Z.Warmed39 U.vm ∧ U.heap = h0) (fun _ _ _ _ _ => True) (fun _ U o U' => ∃ v L, o = .returned v ∧ Q_rmR4 Z a0 s_LESS h0 n0 v U'.heap L ∧ FrameEnd U o U' L ({ frames := 1, cells := 0, slots := 0, locals := 12 } : Room).cells ({ frames := 1, cells := 0, slots := 0, locals := 12 } : Room).slots) := by
  refine MetFree.of_bodySF (plainFor_of_name pn_0) hisR ?_
  intro p e s m args below meth c s₁ Bd hml0 hP hK
  obtain ⟨rfl, hZ, hh⟩ := hP
  have hx := Bd.exec
  have hby := Bd.bytes
  have hml : c.maxLocals = 1 := hml0
  have dd : ∀ {pc : Nat} {r : Except DecodeError (Instr × Nat)}, decode prog_22_method_7_code pc = r → decode c.code pc = r := fun q => hb hby q
  have hown : s.vm.findClass "com/example/pathbinder/pathbinder/core/Comparison$Operator" = some m.cls := findClass_of_methodNamed Bd.named
  have hnm := (name_of_methodNamed Bd.named Bd.method).1
  have X0 : Stand p l e ({ frames := 1, cells := 0, slots := 0, locals := 12 } : Room) s m #[(.ref a0)] below meth c s₁ [] 0 0 := Stand.of_body Bd
  have e0 : s₁.heap = h0 := by rw [← hh, Bd.state]; rfl
  have N0 := Fr.nil n0
  have hret := Bd.returns
  have hlk := Bd.notSynchronized
  show Gz p e below s ({ frames := 1, cells := 0, slots := 0, locals := 12 } : Room).cells ({ frames := 1, cells := 0, slots := 0, locals := 12 } : Room).slots (Q_rmR4 Z a0 s_LESS h0 n0) (s₁.setTop (entryFrame m #[(.ref a0)] 1))
  refine Gz.enter (ef_rmR4 m a0) ?_
  refine Gz.aloadN 1 X0 hx (dd d2_0) rfl rfl rfl ?_
  obtain ⟨cq1, kq1, q1a, q1b, q1c⟩ := isOf hZ e0 E_a0
  obtain ⟨_, _, ⟨T1, L1, k1, n1⟩, -, X1, ⟨Lc1, hQ1, l1, y1, z1⟩, st1⟩ := own_upBack X0 hx (y := ym0) (owner := "java/lang/Enum") hown (mvT hZ (ww hw 28 rfl)) (mvT hZ (ww hw 29 rfl)) (by decide) (mvT hZ (ww hw 30 rfl)) (mvT hZ (ww hw 32 rfl)) (mvT hZ (ww hw 31 rfl)) (backOf (W := 0) (rm3 l Z av0 hw [] a0 (4 : Int32) h0 n0 Z0 F_ordinal_a0) hZ (ww hw 34 rfl) (ww hw 33 rfl) (by decide) (by decide)) q1a q1c (g := (mkF m 1 #[.val (.ref a0)] [(.ref a0)])) rfl (by rw [hml]; rfl) (argsL := []) (rest := []) (lenOf pd_0 rfl) rfl (Nat.le_refl _) (dd d2_1) (fun _ _ => ⟨rfl, e0, (by decide : 0 + 0 ≤ _), (by decide : 0 + 0 ≤ _)⟩)
  dsimp only [Pt.U, Pt.locs, Pt.cells, Pt.slots, Q_rm3] at X1 l1 y1 z1 st1 hQ1
  subst l1 y1 z1
  rw [show (fOrd a0 (4 : Int32)) = (4 : Int32) from (by unfold fOrd; rfl)] at hQ1
  obtain ⟨rfl, N1q, e1⟩ := hQ1
  have N1 := Fr.app N0 N1q
  refine Gz.tr st1 ?_
  refine Gz.st (fun t k => XS.tswIn X1.here hx rfl (pc0 := 4) (pc' := 70) rfl (dd d2_4) rfl (by decide) (o := 66) rfl (by decide) (by decide) k) ?_
  refine Gz.getS 73 X1 hx hZ hown (dd d2_70) (host := "") (Or.inl (ww hw 46 rfl)) Via.refl e1 S_s_LESS rfl fun T2 X2 e2 => ?_
  refine Gz.goto 79 X2 hx (dd d2_73) (by decide) (by decide) ?_
  refine Gz.fin X2 (v := some (.ref s_LESS)) (fun h => by rw [hret] at h; cases h) hlk (by decide) (by decide) (fun fs hr => retA X2 hx hret (dd d2_79) hr rfl rfl) ?_
  rw [e2]
  exact ⟨rfl, N1, rfl⟩
theorem d2_76 : decode prog_22_method_7_code 76 = .ok (.getstatic 13, 3) := by decide +kernel
theorem ef_rmR5 (m : MethodId) (a0 : Addr) : entryFrame m #[(.ref a0)] 1 = mkF m 0 #[.val (.ref a0)] [] := by first | (simp [entryFrame, mkF, argsToLocals, Value.category]; done) | rfl
def fR5 (a0 : Addr) (s_LESS_OR_EQUAL : Addr) : Addr := s_LESS_OR_EQUAL
def Q_rmR5 (Z : State) (a0 : Addr) (s_LESS_OR_EQUAL : Addr) (h0 : Heap) (n0 : Nat) (v : Option Value) (h : Heap) (L : List Loc) : Prop := v = some (.ref (fR5 a0 s_LESS_OR_EQUAL)) ∧ Fr n0 L ∧ h = h0
set_option maxRecDepth 65536 in
set_option maxHeartbeats 40000000 in
theorem rmR5 (l : Launch) (Z : State) (av0 : Array Value) (hw : ∀ d ∈ tables_1, d.before av0 Z = true) (ws : List Jvm.Cond) (a0 : Addr) (s_LESS_OR_EQUAL : Addr) (h0 : Heap) (n0 : Nat) (Z0 : n0 ≤ h0.size) (E_a0 : Exa Z h0 a0 "com/example/pathbinder/pathbinder/core/Comparison$Operator") (F_ordinal_a0 : Fld Z h0 a0 "java/lang/Enum" "ordinal" "I" (.int (5 : Int32))) (S_s_LESS_OR_EQUAL : Sta Z h0 "com/example/pathbinder/pathbinder/core/Comparison$Operator" "LESS_OR_EQUAL" "Lcom/example/pathbinder/pathbinder/core/Comparison$Operator;" (.ref s_LESS_OR_EQUAL)) :
    MetFree l (⟨"com/example/pathbinder/pathbinder/core/Comparison$Operator", "reversed", "()Lcom/example/pathbinder/pathbinder/core/Comparison$Operator;"⟩ : MethodName) (head1 (Jvm.Cond.code (⟨"com/example/pathbinder/pathbinder/core/Comparison$Operator", "reversed", "()Lcom/example/pathbinder/pathbinder/core/Comparison$Operator;"⟩ : MethodName) prog_22_method_7_code 1 (some (.object "com/example/pathbinder/pathbinder/core/Comparison$Operator")) :: ws) ({ frames := 1, cells := 0, slots := 0, locals := 12 } : Room)) (fun a U => a = #[(.ref a0)] ∧ Z.Warmed39 U.vm ∧ U.heap = h0) (fun _ _ _ _ _ => True) (fun _ U o U' => ∃ v L, o = .returned v ∧ Q_rmR5 Z a0 s_LESS_OR_EQUAL h0 n0 v U'.heap L ∧ FrameEnd U o U' L ({ frames := 1, cells := 0, slots := 0, locals := 12 } : Room).cells ({ frames := 1, cells := 0, slots := 0, locals := 12 } : Room).slots) := by
  refine MetFree.of_bodySF (plainFor_of_name pn_0) hisR ?_
  intro p e s m args below meth c s₁ Bd hml0 hP hK
  obtain ⟨rfl, hZ, hh⟩ := hP
  have hx := Bd.exec
  have hby := Bd.bytes
  have hml : c.maxLocals = 1 := hml0
  have dd : ∀ {pc : Nat} {r : Except DecodeError (Instr × Nat)}, decode prog_22_method_7_code pc = r → decode c.code pc = r := fun q => hb hby q
  have hown : s.vm.findClass "com/example/pathbinder/pathbinder/core/Comparison$Operator" = some m.cls := findClass_of_methodNamed Bd.named
  have hnm := (name_of_methodNamed Bd.named Bd.method).1
  have X0 : Stand p l e ({ frames := 1, cells := 0, slots := 0, locals := 12 } : Room) s m #[(.ref a0)] below meth c s₁ [] 0 0 := Stand.of_body Bd
  have e0 : s₁.heap = h0 := by rw [← hh, Bd.state]; rfl
  have N0 := Fr.nil n0
  have hret := Bd.returns
  have hlk := Bd.notSynchronized
  show Gz p e below s ({ frames := 1, cells := 0, slots := 0, locals := 12 } : Room).cells ({ frames := 1, cells := 0, slots := 0, locals := 12 } : Room).slots (Q_rmR5 Z a0 s_LESS_OR_EQUAL h0 n0) (s₁.setTop (entryFrame m #[(.ref a0)] 1))
  refine Gz.enter (ef_rmR5 m a0) ?_
  refine Gz.aloadN 1 X0 hx (dd d2_0) rfl rfl rfl ?_
  obtain ⟨cq1, kq1, q1a, q1b, q1c⟩ := isOf hZ e0 E_a0
  obtain ⟨_, _, ⟨T1, L1, k1, n1⟩, -, X1, ⟨Lc1, hQ1, l1, y1, z1⟩, st1⟩ := own_upBack X0 hx (y := ym0) (owner := "java/lang/Enum") hown (mvT hZ (ww hw 28 rfl)) (mvT hZ (ww hw 29 rfl)) (by decide) (mvT hZ (ww hw 30 rfl)) (mvT hZ (ww hw 32 rfl)) (mvT hZ (ww hw 31 rfl)) (backOf (W := 0) (rm3 l Z av0 hw [] a0 (5 : Int32) h0 n0 Z0 F_ordinal_a0) hZ (ww hw 34 rfl) (ww hw 33 rfl) (by decide) (by decide)) q1a q1c (g := (mkF m 1 #[.val (.ref a0)] [(.ref a0)])) rfl (by rw [hml]; rfl) (argsL := []) (rest := []) (lenOf pd_0 rfl) rfl (Nat.le_refl _) (dd d2_1) (fun _ _ => ⟨rfl, e0, (by decide : 0 + 0 ≤ _), (by decide : 0 + 0 ≤ _)⟩)
  dsimp only [Pt.U, Pt.locs, Pt.cells, Pt.slots, Q_rm3] at X1 l1 y1 z1 st1 hQ1
  subst l1 y1 z1
  rw [show (fOrd a0 (5 : Int32)) = (5 : Int32) from (by unfold fOrd; rfl)] at hQ1
  obtain ⟨rfl, N1q, e1⟩ := hQ1
  have N1 := Fr.app N0 N1q
  refine Gz.tr st1 ?_
  refine Gz.st (fun t k => XS.tswIn X1.here hx rfl (pc0 := 4) (pc' := 76) rfl (dd d2_4) rfl (by decide) (o := 72) rfl (by decide) (by decide) k) ?_
  refine Gz.getS 79 X1 hx hZ hown (dd d2_76) (host := "") (Or.inl (ww hw 44 rfl)) Via.refl e1 S_s_LESS_OR_EQUAL rfl fun T2 X2 e2 => ?_
  refine Gz.fin X2 (v := some (.ref s_LESS_OR_EQUAL)) (fun h => by rw [hret] at h; cases h) hlk (by decide) (by decide) (fun fs hr => retA X2 hx hret (dd d2_79) hr rfl rfl) ?_
  rw [e2]
  exact ⟨rfl, N1, rfl⟩
theorem d4_0 : decode prog_22_method_6_code 0 = .ok (.aload_n 0, 1) := by decide +kernel
theorem d4_1 : decode prog_22_method_6_code 1 = .ok (.invokevirtual 41, 3) := by decide +kernel
theorem d4_4 : decode prog_22_method_6_code 4 = .ok (.tableswitch 40 0 5 #[50, 64, 78, 92, 106, 120], 40) := by decide +kernel
theorem d4_54 : decode prog_22_method_6_code 54 = .ok (.dload_n 1, 1) := by decide +kernel
theorem d4_55 : decode prog_22_method_6_code 55 = .ok (.dload_n 3, 1) := by decide +kernel
theorem d4_56 : decode prog_22_method_6_code 56 = .ok (.dcmp .l, 1) := by decide +kernel
theorem d4_57 : decode prog_22_method_6_code 57 = .ok (.ifCond .ne 7, 3) := by decide +kernel
theorem d4_60 : decode prog_22_method_6_code 60 = .ok (.iconst 1, 1) := by decide +kernel
theorem d4_61 : decode prog_22_method_6_code 61 = .ok (.goto 74, 3) := by decide +kernel
theorem d4_64 : decode prog_22_method_6_code 64 = .ok (.iconst 0, 1) := by decide +kernel
theorem d4_65 : decode prog_22_method_6_code 65 = .ok (.goto 70, 3) := by decide +kernel
theorem d4_135 : decode prog_22_method_6_code 135 = .ok (.ireturn, 1) := by decide +kernel
theorem ef_rmH0 (m : MethodId) (a0 : Addr) (d1 : UInt64) (d2 : UInt64) : entryFrame m #[(.ref a0), (.double d1), (.double d2)] 5 = mkF m 0 #[.val (.ref a0), .val (.double d1), .second, .val (.double d2), .second] [] := by first | (simp [entryFrame, mkF, argsToLocals, Value.category]; done) | rfl
def fH0 (a0 : Addr) (d1 : UInt64) (d2 : UInt64) : Int32 := (if (cmpValue (FP.dcmp d1 d2) .l) = (0 : Int32) then (1 : Int32) else (0 : Int32))
def Q_rmH0 (Z : State) (a0 : Addr) (d1 : UInt64) (d2 : UInt64) (h0 : Heap) (n0 : Nat) (v : Option Value) (h : Heap) (L : List Loc) : Prop := v = some (.int (fH0 a0 d1 d2)) ∧ Fr n0 L ∧ h = h0
set_option maxRecDepth 65536 in
set_option maxHeartbeats 40000000 in
theorem rmH0 (l : Launch) (Z : State) (av0 : Array Value) (hw : ∀ d ∈ tables_1, d.before av0 Z = true) (ws : List Jvm.Cond) (a0 : Addr) (d1 : UInt64) (d2 : UInt64) (h0 : Heap) (n0 : Nat) (Z0 : n0 ≤ h0.size) (E_a0 : Exa Z h0 a0 "com/example/pathbinder/pathbinder/core/Comparison$Operator") (F_ordinal_a0 : Fld Z h0 a0 "java/lang/Enum" "ordinal" "I" (.int (0 : Int32))) :
    MetFree l (⟨"com/example/pathbinder/pathbinder/core/Comparison$Operator", "holds", "(DD)Z"⟩ : MethodName) (head1 (Jvm.Cond.code (⟨"com/example/pathbinder/pathbinder/core/Comparison$Operator", "holds", "(DD)Z"⟩ : MethodName) prog_22_method_6_code 5 (some .boolean) :: ws) ({ frames := 1, cells := 0, slots := 0, locals := 12 } : Room)) (fun a U => a = #[(.ref a0), (.double d1), (.double d2)] ∧ Z.Warmed39 U.vm ∧ U.heap = h0) (fun _ _ _ _ _ => True) (fun _ U o U' => ∃ v L, o = .returned v ∧ Q_rmH0 Z a0 d1 d2 h0 n0 v U'.heap L ∧ FrameEnd U o U' L ({ frames := 1, cells := 0, slots := 0, locals := 12 } : Room).cells ({ frames := 1, cells := 0, slots := 0, locals := 12 } : Room).slots) := by
  refine MetFree.of_bodySF (plainFor_of_name pn_0) hisR ?_
  intro p e s m args below meth c s₁ Bd hml0 hP hK
  obtain ⟨rfl, hZ, hh⟩ := hP
  have hx := Bd.exec
  have hby := Bd.bytes
  have hml : c.maxLocals = 5 := hml0
  have dd : ∀ {pc : Nat} {r : Except DecodeError (Instr × Nat)}, decode prog_22_method_6_code pc = r → decode c.code pc = r := fun q => hb hby q
  have hown : s.vm.findClass "com/example/pathbinder/pathbinder/core/Comparison$Operator" = some m.cls := findClass_of_methodNamed Bd.named
  have hnm := (name_of_methodNamed Bd.named Bd.method).1
  have X0 : Stand p l e ({ frames := 1, cells := 0, slots := 0, locals := 12 } : Room) s m #[(.ref a0), (.double d1), (.double d2)] below meth c s₁ [] 0 0 := Stand.of_body Bd
  have e0 : s₁.heap = h0 := by rw [← hh, Bd.state]; rfl
  have N0 := Fr.nil n0
  have hret := Bd.returns
  have hlk := Bd.notSynchronized
  show Gz p e below s ({ frames := 1, cells := 0, slots := 0, locals := 12 } : Room).cells ({ frames := 1, cells := 0, slots := 0, locals := 12 } : Room).slots (Q_rmH0 Z a0 d1 d2 h0 n0) (s₁.setTop (entryFrame m #[(.ref a0), (.double d1), (.double d2)] 5))
  refine Gz.enter (ef_rmH0 m a0 d1 d2) ?_
  refine Gz.aloadN 1 X0 hx (dd d4_0) rfl rfl rfl ?_
  obtain ⟨cq1, kq1, q1a, q1b, q1c⟩ := isOf hZ e0 E_a0
  obtain ⟨_, _, ⟨T1, L1, k1, n1⟩, -, X1, ⟨Lc1, hQ1, l1, y1, z1⟩, st1⟩ := own_upBack X0 hx (y := ym0) (owner := "java/lang/Enum") hown (mvT hZ (ww hw 28 rfl)) (mvT hZ (ww hw 29 rfl)) (by decide) (mvT hZ (ww hw 30 rfl)) (mvT hZ (ww hw 32 rfl)) (mvT hZ (ww hw 31 rfl)) (backOf (W := 0) (rm3 l Z av0 hw [] a0 (0 : Int32) h0 n0 Z0 F_ordinal_a0) hZ (ww hw 34 rfl) (ww hw 33 rfl) (by decide) (by decide)) q1a q1c (g := (mkF m 1 #[.val (.ref a0), .val (.double d1), .second, .val (.double d2), .second] [(.ref a0)])) rfl (by rw [hml]; rfl) (argsL := []) (rest := []) (lenOf pd_0 rfl) rfl (Nat.le_refl _) (dd d4_1) (fun _ _ => ⟨rfl, e0, (by decide : 0 + 0 ≤ _), (by decide : 0 + 0 ≤ _)⟩)
  dsimp only [Pt.U, Pt.locs, Pt.cells, Pt.slots, Q_rm3] at X1 l1 y1 z1 st1 hQ1
  subst l1 y1 z1
  rw [show (fOrd a0 (0 : Int32)) = (0 : Int32) from (by unfold fOrd; rfl)] at hQ1
  obtain ⟨rfl, N1q, e1⟩ := hQ1
  have N1 := Fr.app N0 N1q
  refine Gz.tr st1 ?_
  refine Gz.st (fun t k => XS.tswIn X1.here hx rfl (pc0 := 4) (pc' := 54) rfl (dd d4_4) rfl (by decide) (o := 50) rfl (by decide) (by decide) k) ?_
  refine Gz.dloadN 55 X1 hx (dd d4_54) rfl rfl ?_
  refine Gz.dloadN 56 X1 hx (dd d4_55) rfl rfl ?_
  refine Gz.dcmp 57 X1 hx (dd d4_56) rfl ?_
  by_cases hc2 : (cmpValue (FP.dcmp d1 d2) .l) = (0 : Int32)
  · refine Gz.ifNo 60 X1 hx (dd d4_57) ((if0 _ _).trans (teq hc2).2) rfl ?_
    refine Gz.iconst 61 (1 : Int32) X1 hx (dd d4_60) rfl rfl ?_
    refine Gz.goto 135 X1 hx (dd d4_61) (by decide) (by decide) ?_
    refine Gz.fin X1 (v := some (.int (1 : Int32))) (fun h => by rw [hret] at h; cases h) hlk (by decide) (by decide) (fun fs hr => retN X1 hx (t := .boolean) hret (by simp) (dd d4_135) hr) ?_
    rw [e1]
    exact ⟨(by unfold fH0; rw [if_pos hc2]), N1, rfl⟩
  · refine Gz.ifYes 64 X1 hx (dd d4_57) ((if0 _ _).trans (feq hc2).2) (by decide) (by decide) ?_
    refine Gz.iconst 65 (0 : Int32) X1 hx (dd d4_64) rfl rfl ?_
    refine Gz.goto 135 X1 hx (dd d4_65) (by decide) (by decide) ?_
    refine Gz.fin X1 (v := some (.int (0 : Int32))) (fun h => by rw [hret] at h; cases h) hlk (by decide) (by decide) (fun fs hr => retN X1 hx (t := .boolean) hret (by simp) (dd d4_135) hr) ?_
    rw [e1]
    exact ⟨(by unfold fH0; rw [if_neg hc2]), N1, rfl⟩
theorem d4_68 : decode prog_22_method_6_code 68 = .ok (.dload_n 1, 1) := by decide +kernel
theorem d4_69 : decode prog_22_method_6_code 69 = .ok (.dload_n 3, 1) := by decide +kernel
theorem d4_70 : decode prog_22_method_6_code 70 = .ok (.dcmp .l, 1) := by decide +kernel
theorem d4_71 : decode prog_22_method_6_code 71 = .ok (.ifCond .eq 7, 3) := by decide +kernel
theorem d4_74 : decode prog_22_method_6_code 74 = .ok (.iconst 1, 1) := by decide +kernel
theorem d4_75 : decode prog_22_method_6_code 75 = .ok (.goto 60, 3) := by decide +kernel
theorem d4_78 : decode prog_22_method_6_code 78 = .ok (.iconst 0, 1) := by decide +kernel
theorem d4_79 : decode prog_22_method_6_code 79 = .ok (.goto 56, 3) := by decide +kernel
theorem ef_rmH1 (m : MethodId) (a0 : Addr) (d1 : UInt64) (d2 : UInt64) : entryFrame m #[(.ref a0), (.double d1), (.double d2)] 5 = mkF m 0 #[.val (.ref a0), .val (.double d1), .second, .val (.double d2), .second] [] := by first | (simp [entryFrame, mkF, argsToLocals, Value.category]; done) | rfl
def fH1 (a0 : Addr) (d1 : UInt64) (d2 : UInt64) : Int32 := (if (cmpValue (FP.dcmp d1 d2) .l) = (0 : Int32) then (0 : Int32) else (1 : Int32))
def Q_rmH1 (Z : State) (a0 : Addr) (d1 : UInt64) (d2 : UInt64) (h0 : Heap) (n0 : Nat) (v : Option Value) (h : Heap) (L : List Loc) : Prop := v = some (.int (fH1 a0 d1 d2)) ∧ Fr n0 L ∧ h = h0
set_option maxRecDepth 65536 in
set_option maxHeartbeats 40000000 in
theorem rmH1 (l : Launch) (Z : State) (av0 : Array Value) (hw : ∀ d ∈ tables_1, d.before av0 Z = true) (ws : List Jvm.Cond) (a0 : Addr) (d1 : UInt64) (d2 : UInt64) (h0 : Heap) (n0 : Nat) (Z0 : n0 ≤ h0.size) (E_a0 : Exa Z h0 a0 "com/example/pathbinder/pathbinder/core/Comparison$Operator") (F_ordinal_a0 : Fld Z h0 a0 "java/lang/Enum" "ordinal" "I" (.int (1 : Int32))) :
    MetFree l (⟨"com/example/pathbinder/pathbinder/core/Comparison$Operator", "holds", "(DD)Z"⟩ : MethodName) (head1 (Jvm.Cond.code (⟨"com/example/pathbinder/pathbinder/core/Comparison$Operator", "holds", "(DD)Z"⟩ : MethodName) prog_22_method_6_code 5 (some .boolean) :: ws) ({ frames := 1, cells := 0, slots := 0, locals := 12 } : Room)) (fun a U => a = #[(.ref a0), (.double d1), (.double d2)] ∧ Z.Warmed39 U.vm ∧ U.heap = h0) (fun _ _ _ _ _ => True) (fun _ U o U' => ∃ v L, o = .returned v ∧ Q_rmH1 Z a0 d1 d2 h0 n0 v U'.heap L ∧ FrameEnd U o U' L ({ frames := 1, cells := 0, slots := 0, locals := 12 } : Room).cells ({ frames := 1, cells := 0, slots := 0, locals := 12 } : Room).slots) := by
  refine MetFree.of_bodySF (plainFor_of_name pn_0) hisR ?_
  intro p e s m args below meth c s₁ Bd hml0 hP hK
  obtain ⟨rfl, hZ, hh⟩ := hP
  have hx := Bd.exec
  have hby := Bd.bytes
  have hml : c.maxLocals = 5 := hml0
  have dd : ∀ {pc : Nat} {r : Except DecodeError (Instr × Nat)}, decode prog_22_method_6_code pc = r → decode c.code pc = r := fun q => hb hby q
  have hown : s.vm.findClass "com/example/pathbinder/pathbinder/core/Comparison$Operator" = some m.cls := findClass_of_methodNamed Bd.named
  have hnm := (name_of_methodNamed Bd.named Bd.method).1
  have X0 : Stand p l e ({ frames := 1, cells := 0, slots := 0, locals := 12 } : Room) s m #[(.ref a0), (.double d1), (.double d2)] below meth c s₁ [] 0 0 := Stand.of_body Bd
  have e0 : s₁.heap = h0 := by rw [← hh, Bd.state]; rfl
  have N0 := Fr.nil n0
  have hret := Bd.returns
  have hlk := Bd.notSynchronized
  show Gz p e below s ({ frames := 1, cells := 0, slots := 0, locals := 12 } : Room).cells ({ frames := 1, cells := 0, slots := 0, locals := 12 } : Room).slots (Q_rmH1 Z a0 d1 d2 h0 n0) (s₁.setTop (entryFrame m #[(.ref a0), (.double d1), (.double d2)] 5))
  refine Gz.enter (ef_rmH1 m a0 d1 d2) ?_
  refine Gz.aloadN 1 X0 hx (dd d4_0) rfl rfl rfl ?_
  obtain ⟨cq1, kq1, q1a, q1b, q1c⟩ := isOf hZ e0 E_a0
  obtain ⟨_, _, ⟨T1, L1, k1, n1⟩, -, X1, ⟨Lc1, hQ1, l1, y1, z1⟩, st1⟩ := own_upBack X0 hx (y := ym0) (owner := "java/lang/Enum") hown (mvT hZ (ww hw 28 rfl)) (mvT hZ (ww hw 29 rfl)) (by decide) (mvT hZ (ww hw 30 rfl)) (mvT hZ (ww hw 32 rfl)) (mvT hZ (ww hw 31 rfl)) (backOf (W := 0) (rm3 l Z av0 hw [] a0 (1 : Int32) h0 n0 Z0 F_ordinal_a0) hZ (ww hw 34 rfl) (ww hw 33 rfl) (by decide) (by decide)) q1a q1c (g := (mkF m 1 #[.val (.ref a0), .val (.double d1), .second, .val (.double d2), .second] [(.ref a0)])) rfl (by rw [hml]; rfl) (argsL := []) (rest := []) (lenOf pd_0 rfl) rfl (Nat.le_refl _) (dd d4_1) (fun _ _ => ⟨rfl, e0, (by decide : 0 + 0 ≤ _), (by decide : 0 + 0 ≤ _)⟩)
  dsimp only [Pt.U, Pt.locs, Pt.cells, Pt.slots, Q_rm3] at X1 l1 y1 z1 st1 hQ1
  subst l1 y1 z1
  rw [show (fOrd a0 (1 : Int32)) = (1 : Int32) from (by unfold fOrd; rfl)] at hQ1
  obtain ⟨rfl, N1q, e1⟩ := hQ1
  have N1 := Fr.app N0 N1q
  refine Gz.tr st1 ?_
  refine Gz.st (fun t k => XS.tswIn X1.here hx rfl (pc0 := 4) (pc' := 68) rfl (dd d4_4) rfl (by decide) (o := 64) rfl (by decide) (by decide) k) ?_
  refine Gz.dloadN 69 X1 hx (dd d4_68) rfl rfl ?_
  refine Gz.dloadN 70 X1 hx (dd d4_69) rfl rfl ?_
  refine Gz.dcmp 71 X1 hx (dd d4_70) rfl ?_
  by_cases hc2 : (cmpValue (FP.dcmp d1 d2) .l) = (0 : Int32)
  · refine Gz.ifYes 78 X1 hx (dd d4_71) ((if0 _ _).trans (teq hc2).1) (by decide) (by decide) ?_
    refine Gz.iconst 79 (0 : Int32) X1 hx (dd d4_78) rfl rfl ?_
    refine Gz.goto 135 X1 hx (dd d4_79) (by decide) (by decide) ?_
    refine Gz.fin X1 (v := some (.int (0 : Int32))) (fun h => by rw [hret] at h; cases h) hlk (by decide) (by decide) (fun fs hr => retN X1 hx (t := .boolean) hret (by simp) (dd d4_135) hr) ?_
    rw [e1]
    exact ⟨(by unfold fH1; rw [if_pos hc2]), N1, rfl⟩
  · refine Gz.ifNo 74 X1 hx (dd d4_71) ((if0 _ _).trans (feq hc2).1) rfl ?_
    refine Gz.iconst 75 (1 : Int32) X1 hx (dd d4_74) rfl rfl ?_
    refine Gz.goto 135 X1 hx (dd d4_75) (by decide) (by decide) ?_
    refine Gz.fin X1 (v := some (.int (1 : Int32))) (fun h => by rw [hret] at h; cases h) hlk (by decide) (by decide) (fun fs hr => retN X1 hx (t := .boolean) hret (by simp) (dd d4_135) hr) ?_
    rw [e1]
    exact ⟨(by unfold fH1; rw [if_neg hc2]), N1, rfl⟩
theorem own_six (x : Int32) : ((x &&& (2147483647 : Int32)) % (6 : Int32)) = (0 : Int32) ∨ ((x &&& (2147483647 : Int32)) % (6 : Int32)) = (1 : Int32) ∨ ((x &&& (2147483647 : Int32)) % (6 : Int32)) = (2 : Int32) ∨ ((x &&& (2147483647 : Int32)) % (6 : Int32)) = (3 : Int32) ∨ ((x &&& (2147483647 : Int32)) % (6 : Int32)) = (4 : Int32) ∨ ((x &&& (2147483647 : Int32)) % (6 : Int32)) = (5 : Int32) := by
  have hm := c_mask x 2147483647 31 (by decide) (by decide)
  obtain ⟨k, hk, e⟩ := own_rem (x &&& (2147483647 : Int32)) 6 (by decide) (by rw [hm]; omega) 6 (by decide) (by decide)
  rw [e]
  have : k = 0 ∨ k = 1 ∨ k = 2 ∨ k = 3 ∨ k = 4 ∨ k = 5 := by omega
  rcases this with rfl | rfl | rfl | rfl | rfl | rfl <;> decide
theorem own_53 (a : Int32) : B53 a.toInt64 := by
  have h := rng32 a
  have e := c_i2l a
  exact ⟨by omega, by omega⟩
theorem own_cmp (a b : Int32) (o : CmpOp) : (cmpValue (FP.dcmp (FP.i2d a) (FP.i2d b)) o = 0) ↔ a.toInt64 = b.toInt64 := by
  rw [i2d_w, i2d_w, dcmpV_w (own_53 a) (own_53 b)]
  exact lw_eq _ _
theorem own_sym (a b : Int32) (o : CmpOp) : (cmpValue (FP.dcmp (FP.i2d a) (FP.i2d b)) o = 0) ↔ (cmpValue (FP.dcmp (FP.i2d b) (FP.i2d a)) o = 0) := by
  rw [own_cmp, own_cmp]
  exact ⟨Eq.symm, Eq.symm⟩
theorem own_h0 (s : Addr) (a b : Int32) : fH0 s (FP.i2d a) (FP.i2d b) = fH0 s (FP.i2d b) (FP.i2d a) := by
  unfold fH0
  by_cases h : cmpValue (FP.dcmp (FP.i2d a) (FP.i2d b)) .l = 0
  · rw [if_pos h, if_pos ((own_sym a b _).mp h)]
  · rw [if_neg h, if_neg (fun q => h ((own_sym a b _).mpr q))]
theorem own_h1 (s : Addr) (a b : Int32) : fH1 s (FP.i2d a) (FP.i2d b) = fH1 s (FP.i2d b) (FP.i2d a) := by
  unfold fH1
  by_cases h : cmpValue (FP.dcmp (FP.i2d a) (FP.i2d b)) .l = 0
  · rw [if_pos h, if_pos ((own_sym a b _).mp h)]
  · rw [if_neg h, if_neg (fun q => h ((own_sym a b _).mpr q))]
theorem pd_1 : parseMethodDescriptor "()Z" = some ⟨[], some .boolean⟩ := by decide +kernel
abbrev ym1 : MethodName := ⟨"com/example/pathbinder/pathbinder/core/Comparison$Operator", "isEquality", "()Z"⟩
theorem pd_2 : parseMethodDescriptor "()Lcom/example/pathbinder/pathbinder/core/Comparison$Operator;" = some ⟨[], some (.object "com/example/pathbinder/pathbinder/core/Comparison$Operator")⟩ := by decide +kernel
abbrev ym2 : MethodName := ⟨"com/example/pathbinder/pathbinder/core/Comparison$Operator", "reversed", "()Lcom/example/pathbinder/pathbinder/core/Comparison$Operator;"⟩
theorem pd_3 : parseMethodDescriptor "(DD)Z" = some ⟨[.double, .double], some .boolean⟩ := by decide +kernel
abbrev ym3 : MethodName := ⟨"com/example/pathbinder/pathbinder/core/Comparison$Operator", "holds", "(DD)Z"⟩
theorem pn_2 : plainName "com/example/pathbinder/pathbinder/core/OperatorIsEqualityPinLaw" = true := by first | (simp [plainName, overriddenIn]; done) | decide +kernel
theorem ef_rm0 (m : MethodId) (p0 : Int32) (p1 : Int32) (p2 : Int32) : entryFrame m #[(.int p0), (.int p1), (.int p2)] maxLocals = mkF m 0 #[.val (.int p0), .val (.int p1), .val (.int p2), .unset, .unset, .unset, .unset, .unset, .unset, .unset, .unset, .unset] [] := by first | (simp [entryFrame, mkF, argsToLocals, Value.category, maxLocals]; done) | rfl
def Q_law (n0 : Nat) (v : Option Value) (h : Heap) (L : List Loc) : Prop := v = some (.int 1) ∧ Fr n0 L
set_option maxRecDepth 65536 in
set_option maxHeartbeats 40000000 in
theorem rm0 (l : Launch) (Z : State) (av0 : Array Value) (hw : ∀ d ∈ tables_1, d.before av0 Z = true) (ws : List Jvm.Cond) (p0 : Int32) (p1 : Int32) (p2 : Int32) (st_EQUAL : Addr) (st_NOT_EQUAL : Addr) (st_LESS : Addr) (st_LESS_OR_EQUAL : Addr) (st_GREATER : Addr) (st_GREATER_OR_EQUAL : Addr) (h0 : Heap) (n0 : Nat) (Z0 : n0 ≤ h0.size) (S_st_EQUAL : Sta Z h0 "com/example/pathbinder/pathbinder/core/Comparison$Operator" "EQUAL" "Lcom/example/pathbinder/pathbinder/core/Comparison$Operator;" (.ref st_EQUAL)) (S_st_NOT_EQUAL : Sta Z h0 "com/example/pathbinder/pathbinder/core/Comparison$Operator" "NOT_EQUAL" "Lcom/example/pathbinder/pathbinder/core/Comparison$Operator;" (.ref st_NOT_EQUAL)) (S_st_LESS : Sta Z h0 "com/example/pathbinder/pathbinder/core/Comparison$Operator" "LESS" "Lcom/example/pathbinder/pathbinder/core/Comparison$Operator;" (.ref st_LESS)) (S_st_LESS_OR_EQUAL : Sta Z h0 "com/example/pathbinder/pathbinder/core/Comparison$Operator" "LESS_OR_EQUAL" "Lcom/example/pathbinder/pathbinder/core/Comparison$Operator;" (.ref st_LESS_OR_EQUAL)) (S_st_GREATER : Sta Z h0 "com/example/pathbinder/pathbinder/core/Comparison$Operator" "GREATER" "Lcom/example/pathbinder/pathbinder/core/Comparison$Operator;" (.ref st_GREATER)) (S_st_GREATER_OR_EQUAL : Sta Z h0 "com/example/pathbinder/pathbinder/core/Comparison$Operator" "GREATER_OR_EQUAL" "Lcom/example/pathbinder/pathbinder/core/Comparison$Operator;" (.ref st_GREATER_OR_EQUAL)) (E_st_EQUAL : Exa Z h0 st_EQUAL "com/example/pathbinder/pathbinder/core/Comparison$Operator") (E_st_NOT_EQUAL : Exa Z h0 st_NOT_EQUAL "com/example/pathbinder/pathbinder/core/Comparison$Operator") (E_st_LESS : Exa Z h0 st_LESS "com/example/pathbinder/pathbinder/core/Comparison$Operator") (E_st_LESS_OR_EQUAL : Exa Z h0 st_LESS_OR_EQUAL "com/example/pathbinder/pathbinder/core/Comparison$Operator") (E_st_GREATER : Exa Z h0 st_GREATER "com/example/pathbinder/pathbinder/core/Comparison$Operator") (E_st_GREATER_OR_EQUAL : Exa Z h0 st_GREATER_OR_EQUAL "com/example/pathbinder/pathbinder/core/Comparison$Operator") (F_ordinal_st_EQUAL : Fld Z h0 st_EQUAL "java/lang/Enum" "ordinal" "I" (.int (0 : Int32))) (F_ordinal_st_NOT_EQUAL : Fld Z h0 st_NOT_EQUAL "java/lang/Enum" "ordinal" "I" (.int (1 : Int32))) (F_ordinal_st_LESS : Fld Z h0 st_LESS "java/lang/Enum" "ordinal" "I" (.int (2 : Int32))) (F_ordinal_st_LESS_OR_EQUAL : Fld Z h0 st_LESS_OR_EQUAL "java/lang/Enum" "ordinal" "I" (.int (3 : Int32))) (F_ordinal_st_GREATER : Fld Z h0 st_GREATER "java/lang/Enum" "ordinal" "I" (.int (4 : Int32))) (F_ordinal_st_GREATER_OR_EQUAL : Fld Z h0 st_GREATER_OR_EQUAL "java/lang/Enum" "ordinal" "I" (.int (5 : Int32))) (ne_st_EQUAL_st_NOT_EQUAL : st_EQUAL ≠ st_NOT_EQUAL) (ne_st_EQUAL_st_LESS : st_EQUAL ≠ st_LESS) (ne_st_EQUAL_st_LESS_OR_EQUAL : st_EQUAL ≠ st_LESS_OR_EQUAL) (ne_st_EQUAL_st_GREATER : st_EQUAL ≠ st_GREATER) (ne_st_EQUAL_st_GREATER_OR_EQUAL : st_EQUAL ≠ st_GREATER_OR_EQUAL) (ne_st_NOT_EQUAL_st_LESS : st_NOT_EQUAL ≠ st_LESS) (ne_st_NOT_EQUAL_st_LESS_OR_EQUAL : st_NOT_EQUAL ≠ st_LESS_OR_EQUAL) (ne_st_NOT_EQUAL_st_GREATER : st_NOT_EQUAL ≠ st_GREATER) (ne_st_NOT_EQUAL_st_GREATER_OR_EQUAL : st_NOT_EQUAL ≠ st_GREATER_OR_EQUAL) (ne_st_LESS_st_LESS_OR_EQUAL : st_LESS ≠ st_LESS_OR_EQUAL) (ne_st_LESS_st_GREATER : st_LESS ≠ st_GREATER) (ne_st_LESS_st_GREATER_OR_EQUAL : st_LESS ≠ st_GREATER_OR_EQUAL) (ne_st_LESS_OR_EQUAL_st_GREATER : st_LESS_OR_EQUAL ≠ st_GREATER) (ne_st_LESS_OR_EQUAL_st_GREATER_OR_EQUAL : st_LESS_OR_EQUAL ≠ st_GREATER_OR_EQUAL) (ne_st_GREATER_st_GREATER_OR_EQUAL : st_GREATER ≠ st_GREATER_OR_EQUAL) :
    MetFree l x (head1 (Jvm.Cond.code x code maxLocals ret :: ws) room_1) (fun a U => a = #[(.int p0), (.int p1), (.int p2)] ∧ Z.Warmed39 U.vm ∧ U.heap = h0) (fun _ _ _ _ _ => True) (fun _ U o U' => ∃ v L, o = .returned v ∧ Q_law n0 v U'.heap L ∧ FrameEnd U o U' L 16 128) := by
  refine MetFree.of_bodySF (plainFor_of_name pn_2) hisR ?_
  intro p e s m args below meth c s₁ Bd hml0 hP hK
  obtain ⟨rfl, hZ, hh⟩ := hP
  have hx := Bd.exec
  have hby := Bd.bytes
  have hml : c.maxLocals = 12 := hml0
  have dd : ∀ {pc : Nat} {r : Except DecodeError (Instr × Nat)}, decode code pc = r → decode c.code pc = r := fun q => hb hby q
  have hown : s.vm.findClass "com/example/pathbinder/pathbinder/core/OperatorIsEqualityPinLaw" = some m.cls := findClass_of_methodNamed Bd.named
  have hnm := (name_of_methodNamed Bd.named Bd.method).1
  have X0 : Stand p l e room_1 s m #[(.int p0), (.int p1), (.int p2)] below meth c s₁ [] 0 0 := Stand.of_body Bd
  have e0 : s₁.heap = h0 := by rw [← hh, Bd.state]; rfl
  have N0 := Fr.nil n0
  have hret := Bd.returns
  have hlk := Bd.notSynchronized
  show Gz p e below s 16 128 (Q_law n0) (s₁.setTop (entryFrame m #[(.int p0), (.int p1), (.int p2)] maxLocals))
  refine Gz.enter (ef_rm0 m p0 p1 p2) ?_
  refine Gz.bipush 2 (6 : Int32) X0 hx (dd at_0) rfl rfl ?_
  obtain ⟨T1, h1, k1, X1, e1, E1, A1, O1, st1⟩ := newR X0 hx hZ hown (ww hw 0 rfl) (ww hw 1 rfl) e0 (g := (mkF m 2 #[.val (.int p0), .val (.int p1), .val (.int p2), .unset, .unset, .unset, .unset, .unset, .unset, .unset, .unset, .unset] [(.int (6 : Int32))])) rfl (dd at_2) rfl (by decide) (cap := 6) (by decide) (by decide) (by decide) (by decide)
  obtain ⟨b1, g1⟩ : ∃ z, z = h0.size := ⟨_, rfl⟩
  rw [← g1] at A1 st1
  have ne_st_EQUAL_b1 : st_EQUAL ≠ b1 := Nat.ne_of_lt (Nat.lt_of_lt_of_le (E_st_EQUAL).lt (Nat.le_of_eq g1.symm))
  have ne_st_NOT_EQUAL_b1 : st_NOT_EQUAL ≠ b1 := Nat.ne_of_lt (Nat.lt_of_lt_of_le (E_st_NOT_EQUAL).lt (Nat.le_of_eq g1.symm))
  have ne_st_LESS_b1 : st_LESS ≠ b1 := Nat.ne_of_lt (Nat.lt_of_lt_of_le (E_st_LESS).lt (Nat.le_of_eq g1.symm))
  have ne_st_LESS_OR_EQUAL_b1 : st_LESS_OR_EQUAL ≠ b1 := Nat.ne_of_lt (Nat.lt_of_lt_of_le (E_st_LESS_OR_EQUAL).lt (Nat.le_of_eq g1.symm))
  have ne_st_GREATER_b1 : st_GREATER ≠ b1 := Nat.ne_of_lt (Nat.lt_of_lt_of_le (E_st_GREATER).lt (Nat.le_of_eq g1.symm))
  have ne_st_GREATER_OR_EQUAL_b1 : st_GREATER_OR_EQUAL ≠ b1 := Nat.ne_of_lt (Nat.lt_of_lt_of_le (E_st_GREATER_OR_EQUAL).lt (Nat.le_of_eq g1.symm))
  have g_b1 : n0 ≤ b1 := Nat.le_trans Z0 (Nat.le_of_eq g1.symm)
  have SZ1 : n0 ≤ h1.size := Nat.le_trans Z0 E1.1
  have f1_S_st_EQUAL := Sta.ext E1 S_st_EQUAL
  have f1_S_st_NOT_EQUAL := Sta.ext E1 S_st_NOT_EQUAL
  have f1_S_st_LESS := Sta.ext E1 S_st_LESS
  have f1_S_st_LESS_OR_EQUAL := Sta.ext E1 S_st_LESS_OR_EQUAL
  have f1_S_st_GREATER := Sta.ext E1 S_st_GREATER
  have f1_S_st_GREATER_OR_EQUAL := Sta.ext E1 S_st_GREATER_OR_EQUAL
  have f1_E_st_EQUAL := Exa.ext E1 E_st_EQUAL
  have f1_E_st_NOT_EQUAL := Exa.ext E1 E_st_NOT_EQUAL
  have f1_E_st_LESS := Exa.ext E1 E_st_LESS
  have f1_E_st_LESS_OR_EQUAL := Exa.ext E1 E_st_LESS_OR_EQUAL
  have f1_E_st_GREATER := Exa.ext E1 E_st_GREATER
  have f1_E_st_GREATER_OR_EQUAL := Exa.ext E1 E_st_GREATER_OR_EQUAL
  have f1_F_ordinal_st_EQUAL := Fld.ext E1 F_ordinal_st_EQUAL
  have f1_F_ordinal_st_NOT_EQUAL := Fld.ext E1 F_ordinal_st_NOT_EQUAL
  have f1_F_ordinal_st_LESS := Fld.ext E1 F_ordinal_st_LESS
  have f1_F_ordinal_st_LESS_OR_EQUAL := Fld.ext E1 F_ordinal_st_LESS_OR_EQUAL
  have f1_F_ordinal_st_GREATER := Fld.ext E1 F_ordinal_st_GREATER
  have f1_F_ordinal_st_GREATER_OR_EQUAL := Fld.ext E1 F_ordinal_st_GREATER_OR_EQUAL
  have V1 : Arv Z h1 b1 k1 (.object "com/example/pathbinder/pathbinder/core/Comparison$Operator") (6 : Int32) [.null, .null, .null, .null, .null, .null] .null := (Arv.new A1 (by decide)).pad (pad_rep [] .null 6)
  refine Gz.st st1 ?_
  refine Gz.dup 6 X1 hx (dd at_5) rfl rfl ?_
  refine Gz.iconst 7 (0 : Int32) X1 hx (dd at_6) rfl rfl ?_
  refine Gz.getS 10 X1 hx hZ hown (dd at_7) (host := "") (Or.inl (ww hw 2 rfl)) Via.refl e1 f1_S_st_EQUAL rfl fun T2 X2 e2 => ?_
  obtain ⟨c3, A3, q3, S3, N3, H3, G3⟩ := id V1
  have hin3 : ¬ ((0 : Int32) < 0 ∨ c3.slots.size ≤ ((0 : Int32)).toNatClampNeg) := inb_of S3 ⟨by decide, by decide⟩
  refine Gz.stR 11 X2 hx hZ (dd at_10) e2 A3 hin3 rfl (Sto.ofV A3 q3 O1 (Ins.self f1_E_st_EQUAL)) rfl fun T4 h4 X4 e4 W4 => ?_
  have V4 := Arv.set A3 q3 S3 N3 H3 G3 rfl W4 0 rfl (Nat.le_of_ble_eq_true rfl)
  replace V4 : Arv Z h4 b1 k1 (.object "com/example/pathbinder/pathbinder/core/Comparison$Operator") (6 : Int32) [(.ref st_EQUAL), .null, .null, .null, .null, .null] .null := V4
  have f4_S_st_EQUAL := Sta.wr W4 f1_S_st_EQUAL
  have f4_S_st_NOT_EQUAL := Sta.wr W4 f1_S_st_NOT_EQUAL
  have f4_S_st_LESS := Sta.wr W4 f1_S_st_LESS
  have f4_S_st_LESS_OR_EQUAL := Sta.wr W4 f1_S_st_LESS_OR_EQUAL
  have f4_S_st_GREATER := Sta.wr W4 f1_S_st_GREATER
  have f4_S_st_GREATER_OR_EQUAL := Sta.wr W4 f1_S_st_GREATER_OR_EQUAL
  have f4_E_st_EQUAL := Exa.wr W4 f1_E_st_EQUAL
  have f4_E_st_NOT_EQUAL := Exa.wr W4 f1_E_st_NOT_EQUAL
  have f4_E_st_LESS := Exa.wr W4 f1_E_st_LESS
  have f4_E_st_LESS_OR_EQUAL := Exa.wr W4 f1_E_st_LESS_OR_EQUAL
  have f4_E_st_GREATER := Exa.wr W4 f1_E_st_GREATER
  have f4_E_st_GREATER_OR_EQUAL := Exa.wr W4 f1_E_st_GREATER_OR_EQUAL
  have f4_F_ordinal_st_EQUAL := Fld.other W4 f1_F_ordinal_st_EQUAL (Or.inl ne_st_EQUAL_b1)
  have f4_F_ordinal_st_NOT_EQUAL := Fld.other W4 f1_F_ordinal_st_NOT_EQUAL (Or.inl ne_st_NOT_EQUAL_b1)
  have f4_F_ordinal_st_LESS := Fld.other W4 f1_F_ordinal_st_LESS (Or.inl ne_st_LESS_b1)
  have f4_F_ordinal_st_LESS_OR_EQUAL := Fld.other W4 f1_F_ordinal_st_LESS_OR_EQUAL (Or.inl ne_st_LESS_OR_EQUAL_b1)
  have f4_F_ordinal_st_GREATER := Fld.other W4 f1_F_ordinal_st_GREATER (Or.inl ne_st_GREATER_b1)
  have f4_F_ordinal_st_GREATER_OR_EQUAL := Fld.other W4 f1_F_ordinal_st_GREATER_OR_EQUAL (Or.inl ne_st_GREATER_OR_EQUAL_b1)
  have N4 := Fr.snoc X4 N0 g_b1
  have SZ4 : n0 ≤ h4.size := Nat.le_trans SZ1 (Keep.of_wr W4).1
  refine Gz.dup 12 X4 hx (dd at_11) rfl rfl ?_
  refine Gz.iconst 13 (1 : Int32) X4 hx (dd at_12) rfl rfl ?_
  refine Gz.getS 16 X4 hx hZ hown (dd at_13) (host := "") (Or.inl (ww hw 6 rfl)) Via.refl e4 f4_S_st_NOT_EQUAL rfl fun T5 X5 e5 => ?_
  obtain ⟨c6, A6, q6, S6, N6, H6, G6⟩ := id V4
  have hin6 : ¬ ((1 : Int32) < 0 ∨ c6.slots.size ≤ ((1 : Int32)).toNatClampNeg) := inb_of S6 ⟨by decide, by decide⟩
  refine Gz.stR 17 X5 hx hZ (dd at_16) e5 A6 hin6 rfl (Sto.ofV A6 q6 O1 (Ins.self f4_E_st_NOT_EQUAL)) rfl fun T7 h7 X7 e7 W7 => ?_
  have V7 := Arv.set A6 q6 S6 N6 H6 G6 rfl W7 1 rfl (Nat.le_of_ble_eq_true rfl)
  replace V7 : Arv Z h7 b1 k1 (.object "com/example/pathbinder/pathbinder/core/Comparison$Operator") (6 : Int32) [(.ref st_EQUAL), (.ref st_NOT_EQUAL), .null, .null, .null, .null] .null := V7
  have f7_S_st_EQUAL := Sta.wr W7 f4_S_st_EQUAL
  have f7_S_st_NOT_EQUAL := Sta.wr W7 f4_S_st_NOT_EQUAL
  have f7_S_st_LESS := Sta.wr W7 f4_S_st_LESS
  have f7_S_st_LESS_OR_EQUAL := Sta.wr W7 f4_S_st_LESS_OR_EQUAL
  have f7_S_st_GREATER := Sta.wr W7 f4_S_st_GREATER
  have f7_S_st_GREATER_OR_EQUAL := Sta.wr W7 f4_S_st_GREATER_OR_EQUAL
  have f7_E_st_EQUAL := Exa.wr W7 f4_E_st_EQUAL
  have f7_E_st_NOT_EQUAL := Exa.wr W7 f4_E_st_NOT_EQUAL
  have f7_E_st_LESS := Exa.wr W7 f4_E_st_LESS
  have f7_E_st_LESS_OR_EQUAL := Exa.wr W7 f4_E_st_LESS_OR_EQUAL
  have f7_E_st_GREATER := Exa.wr W7 f4_E_st_GREATER
  have f7_E_st_GREATER_OR_EQUAL := Exa.wr W7 f4_E_st_GREATER_OR_EQUAL
  have f7_F_ordinal_st_EQUAL := Fld.other W7 f4_F_ordinal_st_EQUAL (Or.inl ne_st_EQUAL_b1)
  have f7_F_ordinal_st_NOT_EQUAL := Fld.other W7 f4_F_ordinal_st_NOT_EQUAL (Or.inl ne_st_NOT_EQUAL_b1)
  have f7_F_ordinal_st_LESS := Fld.other W7 f4_F_ordinal_st_LESS (Or.inl ne_st_LESS_b1)
  have f7_F_ordinal_st_LESS_OR_EQUAL := Fld.other W7 f4_F_ordinal_st_LESS_OR_EQUAL (Or.inl ne_st_LESS_OR_EQUAL_b1)
  have f7_F_ordinal_st_GREATER := Fld.other W7 f4_F_ordinal_st_GREATER (Or.inl ne_st_GREATER_b1)
  have f7_F_ordinal_st_GREATER_OR_EQUAL := Fld.other W7 f4_F_ordinal_st_GREATER_OR_EQUAL (Or.inl ne_st_GREATER_OR_EQUAL_b1)
  have N7 := Fr.snoc X7 N4 g_b1
  have SZ7 : n0 ≤ h7.size := Nat.le_trans SZ4 (Keep.of_wr W7).1
  refine Gz.dup 18 X7 hx (dd at_17) rfl rfl ?_
  refine Gz.iconst 19 (2 : Int32) X7 hx (dd at_18) rfl rfl ?_
  refine Gz.getS 22 X7 hx hZ hown (dd at_19) (host := "") (Or.inl (ww hw 8 rfl)) Via.refl e7 f7_S_st_LESS rfl fun T8 X8 e8 => ?_
  obtain ⟨c9, A9, q9, S9, N9, H9, G9⟩ := id V7
  have hin9 : ¬ ((2 : Int32) < 0 ∨ c9.slots.size ≤ ((2 : Int32)).toNatClampNeg) := inb_of S9 ⟨by decide, by decide⟩
  refine Gz.stR 23 X8 hx hZ (dd at_22) e8 A9 hin9 rfl (Sto.ofV A9 q9 O1 (Ins.self f7_E_st_LESS)) rfl fun T10 h10 X10 e10 W10 => ?_
  have V10 := Arv.set A9 q9 S9 N9 H9 G9 rfl W10 2 rfl (Nat.le_of_ble_eq_true rfl)
  replace V10 : Arv Z h10 b1 k1 (.object "com/example/pathbinder/pathbinder/core/Comparison$Operator") (6 : Int32) [(.ref st_EQUAL), (.ref st_NOT_EQUAL), (.ref st_LESS), .null, .null, .null] .null := V10
  have f10_S_st_EQUAL := Sta.wr W10 f7_S_st_EQUAL
  have f10_S_st_NOT_EQUAL := Sta.wr W10 f7_S_st_NOT_EQUAL
  have f10_S_st_LESS := Sta.wr W10 f7_S_st_LESS
  have f10_S_st_LESS_OR_EQUAL := Sta.wr W10 f7_S_st_LESS_OR_EQUAL
  have f10_S_st_GREATER := Sta.wr W10 f7_S_st_GREATER
  have f10_S_st_GREATER_OR_EQUAL := Sta.wr W10 f7_S_st_GREATER_OR_EQUAL
  have f10_E_st_EQUAL := Exa.wr W10 f7_E_st_EQUAL
  have f10_E_st_NOT_EQUAL := Exa.wr W10 f7_E_st_NOT_EQUAL
  have f10_E_st_LESS := Exa.wr W10 f7_E_st_LESS
  have f10_E_st_LESS_OR_EQUAL := Exa.wr W10 f7_E_st_LESS_OR_EQUAL
  have f10_E_st_GREATER := Exa.wr W10 f7_E_st_GREATER
  have f10_E_st_GREATER_OR_EQUAL := Exa.wr W10 f7_E_st_GREATER_OR_EQUAL
  have f10_F_ordinal_st_EQUAL := Fld.other W10 f7_F_ordinal_st_EQUAL (Or.inl ne_st_EQUAL_b1)
  have f10_F_ordinal_st_NOT_EQUAL := Fld.other W10 f7_F_ordinal_st_NOT_EQUAL (Or.inl ne_st_NOT_EQUAL_b1)
  have f10_F_ordinal_st_LESS := Fld.other W10 f7_F_ordinal_st_LESS (Or.inl ne_st_LESS_b1)
  have f10_F_ordinal_st_LESS_OR_EQUAL := Fld.other W10 f7_F_ordinal_st_LESS_OR_EQUAL (Or.inl ne_st_LESS_OR_EQUAL_b1)
  have f10_F_ordinal_st_GREATER := Fld.other W10 f7_F_ordinal_st_GREATER (Or.inl ne_st_GREATER_b1)
  have f10_F_ordinal_st_GREATER_OR_EQUAL := Fld.other W10 f7_F_ordinal_st_GREATER_OR_EQUAL (Or.inl ne_st_GREATER_OR_EQUAL_b1)
  have N10 := Fr.snoc X10 N7 g_b1
  have SZ10 : n0 ≤ h10.size := Nat.le_trans SZ7 (Keep.of_wr W10).1
  refine Gz.dup 24 X10 hx (dd at_23) rfl rfl ?_
  refine Gz.iconst 25 (3 : Int32) X10 hx (dd at_24) rfl rfl ?_
  refine Gz.getS 28 X10 hx hZ hown (dd at_25) (host := "") (Or.inl (ww hw 10 rfl)) Via.refl e10 f10_S_st_LESS_OR_EQUAL rfl fun T11 X11 e11 => ?_
  obtain ⟨c12, A12, q12, S12, N12, H12, G12⟩ := id V10
  have hin12 : ¬ ((3 : Int32) < 0 ∨ c12.slots.size ≤ ((3 : Int32)).toNatClampNeg) := inb_of S12 ⟨by decide, by decide⟩
  refine Gz.stR 29 X11 hx hZ (dd at_28) e11 A12 hin12 rfl (Sto.ofV A12 q12 O1 (Ins.self f10_E_st_LESS_OR_EQUAL)) rfl fun T13 h13 X13 e13 W13 => ?_
  have V13 := Arv.set A12 q12 S12 N12 H12 G12 rfl W13 3 rfl (Nat.le_of_ble_eq_true rfl)
  replace V13 : Arv Z h13 b1 k1 (.object "com/example/pathbinder/pathbinder/core/Comparison$Operator") (6 : Int32) [(.ref st_EQUAL), (.ref st_NOT_EQUAL), (.ref st_LESS), (.ref st_LESS_OR_EQUAL), .null, .null] .null := V13
  have f13_S_st_EQUAL := Sta.wr W13 f10_S_st_EQUAL
  have f13_S_st_NOT_EQUAL := Sta.wr W13 f10_S_st_NOT_EQUAL
  have f13_S_st_LESS := Sta.wr W13 f10_S_st_LESS
  have f13_S_st_LESS_OR_EQUAL := Sta.wr W13 f10_S_st_LESS_OR_EQUAL
  have f13_S_st_GREATER := Sta.wr W13 f10_S_st_GREATER
  have f13_S_st_GREATER_OR_EQUAL := Sta.wr W13 f10_S_st_GREATER_OR_EQUAL
  have f13_E_st_EQUAL := Exa.wr W13 f10_E_st_EQUAL
  have f13_E_st_NOT_EQUAL := Exa.wr W13 f10_E_st_NOT_EQUAL
  have f13_E_st_LESS := Exa.wr W13 f10_E_st_LESS
  have f13_E_st_LESS_OR_EQUAL := Exa.wr W13 f10_E_st_LESS_OR_EQUAL
  have f13_E_st_GREATER := Exa.wr W13 f10_E_st_GREATER
  have f13_E_st_GREATER_OR_EQUAL := Exa.wr W13 f10_E_st_GREATER_OR_EQUAL
  have f13_F_ordinal_st_EQUAL := Fld.other W13 f10_F_ordinal_st_EQUAL (Or.inl ne_st_EQUAL_b1)
  have f13_F_ordinal_st_NOT_EQUAL := Fld.other W13 f10_F_ordinal_st_NOT_EQUAL (Or.inl ne_st_NOT_EQUAL_b1)
  have f13_F_ordinal_st_LESS := Fld.other W13 f10_F_ordinal_st_LESS (Or.inl ne_st_LESS_b1)
  have f13_F_ordinal_st_LESS_OR_EQUAL := Fld.other W13 f10_F_ordinal_st_LESS_OR_EQUAL (Or.inl ne_st_LESS_OR_EQUAL_b1)
  have f13_F_ordinal_st_GREATER := Fld.other W13 f10_F_ordinal_st_GREATER (Or.inl ne_st_GREATER_b1)
  have f13_F_ordinal_st_GREATER_OR_EQUAL := Fld.other W13 f10_F_ordinal_st_GREATER_OR_EQUAL (Or.inl ne_st_GREATER_OR_EQUAL_b1)
  have N13 := Fr.snoc X13 N10 g_b1
  have SZ13 : n0 ≤ h13.size := Nat.le_trans SZ10 (Keep.of_wr W13).1
  refine Gz.dup 30 X13 hx (dd at_29) rfl rfl ?_
  refine Gz.iconst 31 (4 : Int32) X13 hx (dd at_30) rfl rfl ?_
  refine Gz.getS 34 X13 hx hZ hown (dd at_31) (host := "") (Or.inl (ww hw 12 rfl)) Via.refl e13 f13_S_st_GREATER rfl fun T14 X14 e14 => ?_
  obtain ⟨c15, A15, q15, S15, N15, H15, G15⟩ := id V13
  have hin15 : ¬ ((4 : Int32) < 0 ∨ c15.slots.size ≤ ((4 : Int32)).toNatClampNeg) := inb_of S15 ⟨by decide, by decide⟩
  refine Gz.stR 35 X14 hx hZ (dd at_34) e14 A15 hin15 rfl (Sto.ofV A15 q15 O1 (Ins.self f13_E_st_GREATER)) rfl fun T16 h16 X16 e16 W16 => ?_
  have V16 := Arv.set A15 q15 S15 N15 H15 G15 rfl W16 4 rfl (Nat.le_of_ble_eq_true rfl)
  replace V16 : Arv Z h16 b1 k1 (.object "com/example/pathbinder/pathbinder/core/Comparison$Operator") (6 : Int32) [(.ref st_EQUAL), (.ref st_NOT_EQUAL), (.ref st_LESS), (.ref st_LESS_OR_EQUAL), (.ref st_GREATER), .null] .null := V16
  have f16_S_st_EQUAL := Sta.wr W16 f13_S_st_EQUAL
  have f16_S_st_NOT_EQUAL := Sta.wr W16 f13_S_st_NOT_EQUAL
  have f16_S_st_LESS := Sta.wr W16 f13_S_st_LESS
  have f16_S_st_LESS_OR_EQUAL := Sta.wr W16 f13_S_st_LESS_OR_EQUAL
  have f16_S_st_GREATER := Sta.wr W16 f13_S_st_GREATER
  have f16_S_st_GREATER_OR_EQUAL := Sta.wr W16 f13_S_st_GREATER_OR_EQUAL
  have f16_E_st_EQUAL := Exa.wr W16 f13_E_st_EQUAL
  have f16_E_st_NOT_EQUAL := Exa.wr W16 f13_E_st_NOT_EQUAL
  have f16_E_st_LESS := Exa.wr W16 f13_E_st_LESS
  have f16_E_st_LESS_OR_EQUAL := Exa.wr W16 f13_E_st_LESS_OR_EQUAL
  have f16_E_st_GREATER := Exa.wr W16 f13_E_st_GREATER
  have f16_E_st_GREATER_OR_EQUAL := Exa.wr W16 f13_E_st_GREATER_OR_EQUAL
  have f16_F_ordinal_st_EQUAL := Fld.other W16 f13_F_ordinal_st_EQUAL (Or.inl ne_st_EQUAL_b1)
  have f16_F_ordinal_st_NOT_EQUAL := Fld.other W16 f13_F_ordinal_st_NOT_EQUAL (Or.inl ne_st_NOT_EQUAL_b1)
  have f16_F_ordinal_st_LESS := Fld.other W16 f13_F_ordinal_st_LESS (Or.inl ne_st_LESS_b1)
  have f16_F_ordinal_st_LESS_OR_EQUAL := Fld.other W16 f13_F_ordinal_st_LESS_OR_EQUAL (Or.inl ne_st_LESS_OR_EQUAL_b1)
  have f16_F_ordinal_st_GREATER := Fld.other W16 f13_F_ordinal_st_GREATER (Or.inl ne_st_GREATER_b1)
  have f16_F_ordinal_st_GREATER_OR_EQUAL := Fld.other W16 f13_F_ordinal_st_GREATER_OR_EQUAL (Or.inl ne_st_GREATER_OR_EQUAL_b1)
  have N16 := Fr.snoc X16 N13 g_b1
  have SZ16 : n0 ≤ h16.size := Nat.le_trans SZ13 (Keep.of_wr W16).1
  refine Gz.dup 36 X16 hx (dd at_35) rfl rfl ?_
  refine Gz.iconst 37 (5 : Int32) X16 hx (dd at_36) rfl rfl ?_
  refine Gz.getS 40 X16 hx hZ hown (dd at_37) (host := "") (Or.inl (ww hw 14 rfl)) Via.refl e16 f16_S_st_GREATER_OR_EQUAL rfl fun T17 X17 e17 => ?_
  obtain ⟨c18, A18, q18, S18, N18, H18, G18⟩ := id V16
  have hin18 : ¬ ((5 : Int32) < 0 ∨ c18.slots.size ≤ ((5 : Int32)).toNatClampNeg) := inb_of S18 ⟨by decide, by decide⟩
  refine Gz.stR 41 X17 hx hZ (dd at_40) e17 A18 hin18 rfl (Sto.ofV A18 q18 O1 (Ins.self f16_E_st_GREATER_OR_EQUAL)) rfl fun T19 h19 X19 e19 W19 => ?_
  have V19 := Arv.set A18 q18 S18 N18 H18 G18 rfl W19 5 rfl (Nat.le_of_ble_eq_true rfl)
  replace V19 : Arv Z h19 b1 k1 (.object "com/example/pathbinder/pathbinder/core/Comparison$Operator") (6 : Int32) [(.ref st_EQUAL), (.ref st_NOT_EQUAL), (.ref st_LESS), (.ref st_LESS_OR_EQUAL), (.ref st_GREATER), (.ref st_GREATER_OR_EQUAL)] .null := V19
  have f19_S_st_EQUAL := Sta.wr W19 f16_S_st_EQUAL
  have f19_S_st_NOT_EQUAL := Sta.wr W19 f16_S_st_NOT_EQUAL
  have f19_S_st_LESS := Sta.wr W19 f16_S_st_LESS
  have f19_S_st_LESS_OR_EQUAL := Sta.wr W19 f16_S_st_LESS_OR_EQUAL
  have f19_S_st_GREATER := Sta.wr W19 f16_S_st_GREATER
  have f19_S_st_GREATER_OR_EQUAL := Sta.wr W19 f16_S_st_GREATER_OR_EQUAL
  have f19_E_st_EQUAL := Exa.wr W19 f16_E_st_EQUAL
  have f19_E_st_NOT_EQUAL := Exa.wr W19 f16_E_st_NOT_EQUAL
  have f19_E_st_LESS := Exa.wr W19 f16_E_st_LESS
  have f19_E_st_LESS_OR_EQUAL := Exa.wr W19 f16_E_st_LESS_OR_EQUAL
  have f19_E_st_GREATER := Exa.wr W19 f16_E_st_GREATER
  have f19_E_st_GREATER_OR_EQUAL := Exa.wr W19 f16_E_st_GREATER_OR_EQUAL
  have f19_F_ordinal_st_EQUAL := Fld.other W19 f16_F_ordinal_st_EQUAL (Or.inl ne_st_EQUAL_b1)
  have f19_F_ordinal_st_NOT_EQUAL := Fld.other W19 f16_F_ordinal_st_NOT_EQUAL (Or.inl ne_st_NOT_EQUAL_b1)
  have f19_F_ordinal_st_LESS := Fld.other W19 f16_F_ordinal_st_LESS (Or.inl ne_st_LESS_b1)
  have f19_F_ordinal_st_LESS_OR_EQUAL := Fld.other W19 f16_F_ordinal_st_LESS_OR_EQUAL (Or.inl ne_st_LESS_OR_EQUAL_b1)
  have f19_F_ordinal_st_GREATER := Fld.other W19 f16_F_ordinal_st_GREATER (Or.inl ne_st_GREATER_b1)
  have f19_F_ordinal_st_GREATER_OR_EQUAL := Fld.other W19 f16_F_ordinal_st_GREATER_OR_EQUAL (Or.inl ne_st_GREATER_OR_EQUAL_b1)
  have N19 := Fr.snoc X19 N16 g_b1
  have SZ19 : n0 ≤ h19.size := Nat.le_trans SZ16 (Keep.of_wr W19).1
  refine Gz.astoreN 42 #[.val (.int p0), .val (.int p1), .val (.int p2), .val (.ref b1), .unset, .unset, .unset, .unset, .unset, .unset, .unset, .unset] X19 hx (dd at_41) rfl rfl rfl ?_
  refine Gz.iloadN 43 X19 hx (dd at_42) rfl rfl ?_
  refine Gz.ldcI 45 X19 hx (dd at_43) hown (mvT hZ (ww hw 16 rfl)) rfl ?_
  refine Gz.iand 46 X19 hx (dd at_45) rfl ?_
  refine Gz.bipush 48 (6 : Int32) X19 hx (dd at_46) rfl rfl ?_
  refine Gz.irem 49 X19 hx (dd at_48) (by decide) rfl ?_
  show Gz p e below s _ _ _ (T19.setTop (mkF m 49 #[.val (.int p0), .val (.int p1), .val (.int p2), .val (.ref b1), .unset, .unset, .unset, .unset, .unset, .unset, .unset, .unset] [(.int ((p0 &&& (2147483647 : Int32)) % (6 : Int32)))]))
  rcases own_six p0 with hs20 | hs20 | hs20 | hs20 | hs20 | hs20
  · rw [hs20]
    refine Gz.istore 51 #[.val (.int p0), .val (.int p1), .val (.int p2), .val (.ref b1), .val (.int (0 : Int32)), .unset, .unset, .unset, .unset, .unset, .unset, .unset] X19 hx (dd at_49) rfl rfl ?_
    refine Gz.aloadN 52 X19 hx (dd at_51) rfl rfl rfl ?_
    refine Gz.iload 54 X19 hx (dd at_52) rfl rfl ?_
    obtain ⟨c21, A21, q21, S21, N21, H21, G21⟩ := id V19
    have hin21 : ¬ ((0 : Int32) < 0 ∨ c21.slots.size ≤ ((0 : Int32)).toNatClampNeg) := inb_of S21 ⟨by decide, by decide⟩
    refine Gz.ldA 55 X19 hx hZ rfl (dd at_54) e19 A21 hin21 (Has.at H21 hin21 (rfl : _ = ((.ref st_EQUAL) : Value))) rfl ?_
    refine Gz.astore 57 #[.val (.int p0), .val (.int p1), .val (.int p2), .val (.ref b1), .val (.int (0 : Int32)), .val (.ref st_EQUAL), .unset, .unset, .unset, .unset, .unset, .unset] X19 hx (dd at_55) rfl rfl rfl ?_
    refine Gz.aload 59 X19 hx (dd at_57) rfl rfl rfl ?_
    obtain ⟨cq22, kq22, q22a, q22b, q22c⟩ := isOf hZ e19 f19_E_st_EQUAL
    obtain ⟨_, _, ⟨T22, L22, k22, n22⟩, -, X22, ⟨Lc22, hQ22, l22, y22, z22⟩, st22⟩ := X19.virtualBack hx (y := ym1) (z := ym1) hown (mvT hZ (ww hw 17 rfl)) (mvT hZ (ww hw 18 rfl)) (notFace_of_selects (args := #[]) (mvT hZ (ww hw 20 rfl))) (mvT hZ (ww hw 20 rfl)) (mvT hZ (ww hw 19 rfl)) (by decide) (backOf (W := 0) (rm1 l Z av0 hw [] st_EQUAL st_EQUAL st_NOT_EQUAL h19 n0 SZ19 f19_S_st_EQUAL f19_S_st_NOT_EQUAL) hZ (ww hw 21 rfl) (ww hw 3 rfl) (by decide) (by decide)) q22a q22c (g := (mkF m 59 #[.val (.int p0), .val (.int p1), .val (.int p2), .val (.ref b1), .val (.int (0 : Int32)), .val (.ref st_EQUAL), .unset, .unset, .unset, .unset, .unset, .unset] [(.ref st_EQUAL)])) rfl (by rw [hml]; rfl) (Steps.refl _) (argsL := []) (rest := []) (lenOf pd_1 rfl) rfl (Nat.le_refl _) (dd at_59) (fun _ _ => ⟨rfl, e19, (by decide : 1 + 0 ≤ _), (by decide : 6 + 0 ≤ _)⟩)
    dsimp only [Pt.U, Pt.locs, Pt.cells, Pt.slots, Q_rm1] at X22 l22 y22 z22 st22 hQ22
    subst l22 y22 z22
    rw [show (fEq st_EQUAL st_EQUAL st_NOT_EQUAL) = (1 : Int32) from (by unfold fEq; rw [if_pos (rfl : st_EQUAL = st_EQUAL)]; try decide)] at hQ22
    obtain ⟨rfl, N22q, e22⟩ := hQ22
    have N22 := Fr.app N19 N22q
    refine Gz.tr st22 ?_
    refine Gz.istore 64 #[.val (.int p0), .val (.int p1), .val (.int p2), .val (.ref b1), .val (.int (0 : Int32)), .val (.ref st_EQUAL), .val (.int (1 : Int32)), .unset, .unset, .unset, .unset, .unset] X22 hx (dd at_62) rfl rfl ?_
    refine Gz.iload 66 X22 hx (dd at_64) rfl rfl ?_
    refine Gz.ifYes 75 X22 hx (dd at_66) ((if0 _ _).trans (teq (by decide : (0 : Int32) = (0 : Int32))).1) (by decide) (by decide) ?_
    refine Gz.iconst 76 (1 : Int32) X22 hx (dd at_75) rfl rfl ?_
    refine Gz.goto 80 X22 hx (dd at_76) (by decide) (by decide) ?_
    refine Gz.istore 82 #[.val (.int p0), .val (.int p1), .val (.int p2), .val (.ref b1), .val (.int (0 : Int32)), .val (.ref st_EQUAL), .val (.int (1 : Int32)), .val (.int (1 : Int32)), .unset, .unset, .unset, .unset] X22 hx (dd at_80) rfl rfl ?_
    refine Gz.iload 84 X22 hx (dd at_82) rfl rfl ?_
    refine Gz.iload 86 X22 hx (dd at_84) rfl rfl ?_
    refine Gz.icmpYes 91 X22 hx (dd at_86) (teq (by decide : (1 : Int32) = (1 : Int32))).1 (by decide) (by decide) ?_
    refine Gz.iload 93 X22 hx (dd at_91) rfl rfl ?_
    refine Gz.aload 95 X22 hx (dd at_93) rfl rfl rfl ?_
    obtain ⟨cq23, kq23, q23a, q23b, q23c⟩ := isOf hZ e22 f19_E_st_EQUAL
    obtain ⟨_, _, ⟨T23, L23, k23, n23⟩, -, X23, ⟨Lc23, hQ23, l23, y23, z23⟩, st23⟩ := X22.virtualBack hx (y := ym2) (z := ym2) hown (mvT hZ (ww hw 23 rfl)) (mvT hZ (ww hw 24 rfl)) (notFace_of_selects (args := #[]) (mvT hZ (ww hw 26 rfl))) (mvT hZ (ww hw 26 rfl)) (mvT hZ (ww hw 25 rfl)) (by decide) (backOf (W := 1) (rmR0 l Z av0 hw [] st_EQUAL  h19 n0 SZ19 f19_E_st_EQUAL f19_F_ordinal_st_EQUAL) hZ (ww hw 27 rfl) (ww hw 3 rfl) (by decide) (by decide)) q23a q23c (g := (mkF m 95 #[.val (.int p0), .val (.int p1), .val (.int p2), .val (.ref b1), .val (.int (0 : Int32)), .val (.ref st_EQUAL), .val (.int (1 : Int32)), .val (.int (1 : Int32)), .unset, .unset, .unset, .unset] [(.ref st_EQUAL), (.int (1 : Int32))])) rfl (by rw [hml]; rfl) (Steps.refl _) (argsL := []) (rest := [(.int (1 : Int32))]) (lenOf pd_2 rfl) rfl (Nat.le_refl _) (dd at_95) (fun _ _ => ⟨rfl, e22, (by decide : 1 + 0 ≤ _), (by decide : 6 + 0 ≤ _)⟩)
    dsimp only [Pt.U, Pt.locs, Pt.cells, Pt.slots, Q_rmR0] at X23 l23 y23 z23 st23 hQ23
    subst l23 y23 z23
    rw [show (fR0 st_EQUAL) = st_EQUAL from (by unfold fR0; rfl)] at hQ23
    obtain ⟨rfl, N23q, e23⟩ := hQ23
    have N23 := Fr.app N22 N23q
    refine Gz.tr st23 ?_
    refine Gz.aload 100 X23 hx (dd at_98) rfl rfl rfl ?_
    refine Gz.acmp 103 true X23 hx (dd at_100) rfl rfl (decide_eq_true rfl) (by decide) (by decide) ?_
    refine Gz.iconst 104 (1 : Int32) X23 hx (dd at_103) rfl rfl ?_
    refine Gz.goto 108 X23 hx (dd at_104) (by decide) (by decide) ?_
    refine Gz.icmpYes 113 X23 hx (dd at_108) (teq (by decide : (1 : Int32) = (1 : Int32))).1 (by decide) (by decide) ?_
    refine Gz.iloadN 114 X23 hx (dd at_113) rfl rfl ?_
    refine Gz.i2d 115 X23 hx (dd at_114) rfl ?_
    refine Gz.dstore 117 #[.val (.int p0), .val (.int p1), .val (.int p2), .val (.ref b1), .val (.int (0 : Int32)), .val (.ref st_EQUAL), .val (.int (1 : Int32)), .val (.int (1 : Int32)), .val (.double (FP.i2d p1)), .second, .unset, .unset] X23 hx (dd at_115) rfl rfl ?_
    refine Gz.iloadN 118 X23 hx (dd at_117) rfl rfl ?_
    refine Gz.i2d 119 X23 hx (dd at_118) rfl ?_
    refine Gz.dstore 121 #[.val (.int p0), .val (.int p1), .val (.int p2), .val (.ref b1), .val (.int (0 : Int32)), .val (.ref st_EQUAL), .val (.int (1 : Int32)), .val (.int (1 : Int32)), .val (.double (FP.i2d p1)), .second, .val (.double (FP.i2d p2)), .second] X23 hx (dd at_119) rfl rfl ?_
    refine Gz.iload 123 X23 hx (dd at_121) rfl rfl ?_
    refine Gz.ifNo 126 X23 hx (dd at_123) ((if0 _ _).trans (feq (by decide : ¬ ((1 : Int32) = (0 : Int32)))).1) rfl ?_
    refine Gz.aload 128 X23 hx (dd at_126) rfl rfl rfl ?_
    refine Gz.dload 130 X23 hx (dd at_128) rfl rfl ?_
    refine Gz.dload 132 X23 hx (dd at_130) rfl rfl ?_
    obtain ⟨cq24, kq24, q24a, q24b, q24c⟩ := isOf hZ e23 f19_E_st_EQUAL
    obtain ⟨_, _, ⟨T24, L24, k24, n24⟩, -, X24, ⟨Lc24, hQ24, l24, y24, z24⟩, st24⟩ := X23.virtualBack hx (y := ym3) (z := ym3) hown (mvT hZ (ww hw 37 rfl)) (mvT hZ (ww hw 38 rfl)) (notFace_of_selects (args := #[]) (mvT hZ (ww hw 40 rfl))) (mvT hZ (ww hw 40 rfl)) (mvT hZ (ww hw 39 rfl)) (by decide) (backOf (W := 0) (rmH0 l Z av0 hw [] st_EQUAL (FP.i2d p1) (FP.i2d p2)  h19 n0 SZ19 f19_E_st_EQUAL f19_F_ordinal_st_EQUAL) hZ (ww hw 41 rfl) (ww hw 3 rfl) (by decide) (by decide)) q24a q24c (g := (mkF m 132 #[.val (.int p0), .val (.int p1), .val (.int p2), .val (.ref b1), .val (.int (0 : Int32)), .val (.ref st_EQUAL), .val (.int (1 : Int32)), .val (.int (1 : Int32)), .val (.double (FP.i2d p1)), .second, .val (.double (FP.i2d p2)), .second] [(.double (FP.i2d p2)), (.double (FP.i2d p1)), (.ref st_EQUAL)])) rfl (by rw [hml]; rfl) (Steps.refl _) (argsL := [(.double (FP.i2d p1)), (.double (FP.i2d p2))]) (rest := []) (lenOf pd_3 rfl) rfl (Nat.le_refl _) (dd at_132) (fun _ _ => ⟨rfl, e23, (by decide : 1 + 0 ≤ _), (by decide : 6 + 0 ≤ _)⟩)
    dsimp only [Pt.U, Pt.locs, Pt.cells, Pt.slots, Q_rmH0] at X24 l24 y24 z24 st24 hQ24
    subst l24 y24 z24
    obtain ⟨rfl, N24q, e24⟩ := hQ24
    have N24 := Fr.app N23 N24q
    refine Gz.tr st24 ?_
    refine Gz.aload 137 X24 hx (dd at_135) rfl rfl rfl ?_
    refine Gz.dload 139 X24 hx (dd at_137) rfl rfl ?_
    refine Gz.dload 141 X24 hx (dd at_139) rfl rfl ?_
    obtain ⟨cq25, kq25, q25a, q25b, q25c⟩ := isOf hZ e24 f19_E_st_EQUAL
    obtain ⟨_, _, ⟨T25, L25, k25, n25⟩, -, X25, ⟨Lc25, hQ25, l25, y25, z25⟩, st25⟩ := X24.virtualBack hx (y := ym3) (z := ym3) hown (mvT hZ (ww hw 37 rfl)) (mvT hZ (ww hw 38 rfl)) (notFace_of_selects (args := #[]) (mvT hZ (ww hw 40 rfl))) (mvT hZ (ww hw 40 rfl)) (mvT hZ (ww hw 39 rfl)) (by decide) (backOf (W := 1) (rmH0 l Z av0 hw [] st_EQUAL (FP.i2d p2) (FP.i2d p1)  h19 n0 SZ19 f19_E_st_EQUAL f19_F_ordinal_st_EQUAL) hZ (ww hw 41 rfl) (ww hw 3 rfl) (by decide) (by decide)) q25a q25c (g := (mkF m 141 #[.val (.int p0), .val (.int p1), .val (.int p2), .val (.ref b1), .val (.int (0 : Int32)), .val (.ref st_EQUAL), .val (.int (1 : Int32)), .val (.int (1 : Int32)), .val (.double (FP.i2d p1)), .second, .val (.double (FP.i2d p2)), .second] [(.double (FP.i2d p1)), (.double (FP.i2d p2)), (.ref st_EQUAL), (.int (fH0 st_EQUAL (FP.i2d p1) (FP.i2d p2)))])) rfl (by rw [hml]; rfl) (Steps.refl _) (argsL := [(.double (FP.i2d p2)), (.double (FP.i2d p1))]) (rest := [(.int (fH0 st_EQUAL (FP.i2d p1) (FP.i2d p2)))]) (lenOf pd_3 rfl) rfl (Nat.le_refl _) (dd at_141) (fun _ _ => ⟨rfl, e24, (by decide : 1 + 0 ≤ _), (by decide : 6 + 0 ≤ _)⟩)
    dsimp only [Pt.U, Pt.locs, Pt.cells, Pt.slots, Q_rmH0] at X25 l25 y25 z25 st25 hQ25
    subst l25 y25 z25
    obtain ⟨rfl, N25q, e25⟩ := hQ25
    have N25 := Fr.app N24 N25q
    refine Gz.tr st25 ?_
    refine Gz.icmpYes 149 X25 hx (dd at_144) (teq (own_h0 _ _ _ : (fH0 st_EQUAL (FP.i2d p1) (FP.i2d p2)) = (fH0 st_EQUAL (FP.i2d p2) (FP.i2d p1)))).1 (by decide) (by decide) ?_
    refine Gz.iconst 150 (1 : Int32) X25 hx (dd at_149) rfl rfl ?_
    refine Gz.fin X25 (v := some (.int (1 : Int32))) (fun h => by rw [hret] at h; cases h) hlk (by decide) (by decide) (fun fs hr => retN X25 hx (t := .boolean) hret (by simp) (dd at_150) hr) ?_
    exact ⟨rfl, N25⟩
  · rw [hs20]
    refine Gz.istore 51 #[.val (.int p0), .val (.int p1), .val (.int p2), .val (.ref b1), .val (.int (1 : Int32)), .unset, .unset, .unset, .unset, .unset, .unset, .unset] X19 hx (dd at_49) rfl rfl ?_
    refine Gz.aloadN 52 X19 hx (dd at_51) rfl rfl rfl ?_
    refine Gz.iload 54 X19 hx (dd at_52) rfl rfl ?_
    obtain ⟨c26, A26, q26, S26, N26, H26, G26⟩ := id V19
    have hin26 : ¬ ((1 : Int32) < 0 ∨ c26.slots.size ≤ ((1 : Int32)).toNatClampNeg) := inb_of S26 ⟨by decide, by decide⟩
    refine Gz.ldA 55 X19 hx hZ rfl (dd at_54) e19 A26 hin26 (Has.at H26 hin26 (rfl : _ = ((.ref st_NOT_EQUAL) : Value))) rfl ?_
    refine Gz.astore 57 #[.val (.int p0), .val (.int p1), .val (.int p2), .val (.ref b1), .val (.int (1 : Int32)), .val (.ref st_NOT_EQUAL), .unset, .unset, .unset, .unset, .unset, .unset] X19 hx (dd at_55) rfl rfl rfl ?_
    refine Gz.aload 59 X19 hx (dd at_57) rfl rfl rfl ?_
    obtain ⟨cq27, kq27, q27a, q27b, q27c⟩ := isOf hZ e19 f19_E_st_NOT_EQUAL
    obtain ⟨_, _, ⟨T27, L27, k27, n27⟩, -, X27, ⟨Lc27, hQ27, l27, y27, z27⟩, st27⟩ := X19.virtualBack hx (y := ym1) (z := ym1) hown (mvT hZ (ww hw 17 rfl)) (mvT hZ (ww hw 18 rfl)) (notFace_of_selects (args := #[]) (mvT hZ (ww hw 20 rfl))) (mvT hZ (ww hw 20 rfl)) (mvT hZ (ww hw 19 rfl)) (by decide) (backOf (W := 0) (rm1 l Z av0 hw [] st_NOT_EQUAL st_EQUAL st_NOT_EQUAL h19 n0 SZ19 f19_S_st_EQUAL f19_S_st_NOT_EQUAL) hZ (ww hw 21 rfl) (ww hw 3 rfl) (by decide) (by decide)) q27a q27c (g := (mkF m 59 #[.val (.int p0), .val (.int p1), .val (.int p2), .val (.ref b1), .val (.int (1 : Int32)), .val (.ref st_NOT_EQUAL), .unset, .unset, .unset, .unset, .unset, .unset] [(.ref st_NOT_EQUAL)])) rfl (by rw [hml]; rfl) (Steps.refl _) (argsL := []) (rest := []) (lenOf pd_1 rfl) rfl (Nat.le_refl _) (dd at_59) (fun _ _ => ⟨rfl, e19, (by decide : 1 + 0 ≤ _), (by decide : 6 + 0 ≤ _)⟩)
    dsimp only [Pt.U, Pt.locs, Pt.cells, Pt.slots, Q_rm1] at X27 l27 y27 z27 st27 hQ27
    subst l27 y27 z27
    rw [show (fEq st_NOT_EQUAL st_EQUAL st_NOT_EQUAL) = (1 : Int32) from (by unfold fEq; rw [if_neg (Ne.symm ne_st_EQUAL_st_NOT_EQUAL), if_pos (rfl : st_NOT_EQUAL = st_NOT_EQUAL)]; try decide)] at hQ27
    obtain ⟨rfl, N27q, e27⟩ := hQ27
    have N27 := Fr.app N19 N27q
    refine Gz.tr st27 ?_
    refine Gz.istore 64 #[.val (.int p0), .val (.int p1), .val (.int p2), .val (.ref b1), .val (.int (1 : Int32)), .val (.ref st_NOT_EQUAL), .val (.int (1 : Int32)), .unset, .unset, .unset, .unset, .unset] X27 hx (dd at_62) rfl rfl ?_
    refine Gz.iload 66 X27 hx (dd at_64) rfl rfl ?_
    refine Gz.ifNo 69 X27 hx (dd at_66) ((if0 _ _).trans (feq (by decide : ¬ ((1 : Int32) = (0 : Int32)))).1) rfl ?_
    refine Gz.iload 71 X27 hx (dd at_69) rfl rfl ?_
    refine Gz.iconst 72 (1 : Int32) X27 hx (dd at_71) rfl rfl ?_
    refine Gz.icmpNo 75 X27 hx (dd at_72) (teq (by decide : (1 : Int32) = (1 : Int32))).2 rfl ?_
    refine Gz.iconst 76 (1 : Int32) X27 hx (dd at_75) rfl rfl ?_
    refine Gz.goto 80 X27 hx (dd at_76) (by decide) (by decide) ?_
    refine Gz.istore 82 #[.val (.int p0), .val (.int p1), .val (.int p2), .val (.ref b1), .val (.int (1 : Int32)), .val (.ref st_NOT_EQUAL), .val (.int (1 : Int32)), .val (.int (1 : Int32)), .unset, .unset, .unset, .unset] X27 hx (dd at_80) rfl rfl ?_
    refine Gz.iload 84 X27 hx (dd at_82) rfl rfl ?_
    refine Gz.iload 86 X27 hx (dd at_84) rfl rfl ?_
    refine Gz.icmpYes 91 X27 hx (dd at_86) (teq (by decide : (1 : Int32) = (1 : Int32))).1 (by decide) (by decide) ?_
    refine Gz.iload 93 X27 hx (dd at_91) rfl rfl ?_
    refine Gz.aload 95 X27 hx (dd at_93) rfl rfl rfl ?_
    obtain ⟨cq28, kq28, q28a, q28b, q28c⟩ := isOf hZ e27 f19_E_st_NOT_EQUAL
    obtain ⟨_, _, ⟨T28, L28, k28, n28⟩, -, X28, ⟨Lc28, hQ28, l28, y28, z28⟩, st28⟩ := X27.virtualBack hx (y := ym2) (z := ym2) hown (mvT hZ (ww hw 23 rfl)) (mvT hZ (ww hw 24 rfl)) (notFace_of_selects (args := #[]) (mvT hZ (ww hw 26 rfl))) (mvT hZ (ww hw 26 rfl)) (mvT hZ (ww hw 25 rfl)) (by decide) (backOf (W := 1) (rmR1 l Z av0 hw [] st_NOT_EQUAL  h19 n0 SZ19 f19_E_st_NOT_EQUAL f19_F_ordinal_st_NOT_EQUAL) hZ (ww hw 27 rfl) (ww hw 3 rfl) (by decide) (by decide)) q28a q28c (g := (mkF m 95 #[.val (.int p0), .val (.int p1), .val (.int p2), .val (.ref b1), .val (.int (1 : Int32)), .val (.ref st_NOT_EQUAL), .val (.int (1 : Int32)), .val (.int (1 : Int32)), .unset, .unset, .unset, .unset] [(.ref st_NOT_EQUAL), (.int (1 : Int32))])) rfl (by rw [hml]; rfl) (Steps.refl _) (argsL := []) (rest := [(.int (1 : Int32))]) (lenOf pd_2 rfl) rfl (Nat.le_refl _) (dd at_95) (fun _ _ => ⟨rfl, e27, (by decide : 1 + 0 ≤ _), (by decide : 6 + 0 ≤ _)⟩)
    dsimp only [Pt.U, Pt.locs, Pt.cells, Pt.slots, Q_rmR1] at X28 l28 y28 z28 st28 hQ28
    subst l28 y28 z28
    rw [show (fR1 st_NOT_EQUAL) = st_NOT_EQUAL from (by unfold fR1; rfl)] at hQ28
    obtain ⟨rfl, N28q, e28⟩ := hQ28
    have N28 := Fr.app N27 N28q
    refine Gz.tr st28 ?_
    refine Gz.aload 100 X28 hx (dd at_98) rfl rfl rfl ?_
    refine Gz.acmp 103 true X28 hx (dd at_100) rfl rfl (decide_eq_true rfl) (by decide) (by decide) ?_
    refine Gz.iconst 104 (1 : Int32) X28 hx (dd at_103) rfl rfl ?_
    refine Gz.goto 108 X28 hx (dd at_104) (by decide) (by decide) ?_
    refine Gz.icmpYes 113 X28 hx (dd at_108) (teq (by decide : (1 : Int32) = (1 : Int32))).1 (by decide) (by decide) ?_
    refine Gz.iloadN 114 X28 hx (dd at_113) rfl rfl ?_
    refine Gz.i2d 115 X28 hx (dd at_114) rfl ?_
    refine Gz.dstore 117 #[.val (.int p0), .val (.int p1), .val (.int p2), .val (.ref b1), .val (.int (1 : Int32)), .val (.ref st_NOT_EQUAL), .val (.int (1 : Int32)), .val (.int (1 : Int32)), .val (.double (FP.i2d p1)), .second, .unset, .unset] X28 hx (dd at_115) rfl rfl ?_
    refine Gz.iloadN 118 X28 hx (dd at_117) rfl rfl ?_
    refine Gz.i2d 119 X28 hx (dd at_118) rfl ?_
    refine Gz.dstore 121 #[.val (.int p0), .val (.int p1), .val (.int p2), .val (.ref b1), .val (.int (1 : Int32)), .val (.ref st_NOT_EQUAL), .val (.int (1 : Int32)), .val (.int (1 : Int32)), .val (.double (FP.i2d p1)), .second, .val (.double (FP.i2d p2)), .second] X28 hx (dd at_119) rfl rfl ?_
    refine Gz.iload 123 X28 hx (dd at_121) rfl rfl ?_
    refine Gz.ifNo 126 X28 hx (dd at_123) ((if0 _ _).trans (feq (by decide : ¬ ((1 : Int32) = (0 : Int32)))).1) rfl ?_
    refine Gz.aload 128 X28 hx (dd at_126) rfl rfl rfl ?_
    refine Gz.dload 130 X28 hx (dd at_128) rfl rfl ?_
    refine Gz.dload 132 X28 hx (dd at_130) rfl rfl ?_
    obtain ⟨cq29, kq29, q29a, q29b, q29c⟩ := isOf hZ e28 f19_E_st_NOT_EQUAL
    obtain ⟨_, _, ⟨T29, L29, k29, n29⟩, -, X29, ⟨Lc29, hQ29, l29, y29, z29⟩, st29⟩ := X28.virtualBack hx (y := ym3) (z := ym3) hown (mvT hZ (ww hw 37 rfl)) (mvT hZ (ww hw 38 rfl)) (notFace_of_selects (args := #[]) (mvT hZ (ww hw 40 rfl))) (mvT hZ (ww hw 40 rfl)) (mvT hZ (ww hw 39 rfl)) (by decide) (backOf (W := 0) (rmH1 l Z av0 hw [] st_NOT_EQUAL (FP.i2d p1) (FP.i2d p2)  h19 n0 SZ19 f19_E_st_NOT_EQUAL f19_F_ordinal_st_NOT_EQUAL) hZ (ww hw 41 rfl) (ww hw 3 rfl) (by decide) (by decide)) q29a q29c (g := (mkF m 132 #[.val (.int p0), .val (.int p1), .val (.int p2), .val (.ref b1), .val (.int (1 : Int32)), .val (.ref st_NOT_EQUAL), .val (.int (1 : Int32)), .val (.int (1 : Int32)), .val (.double (FP.i2d p1)), .second, .val (.double (FP.i2d p2)), .second] [(.double (FP.i2d p2)), (.double (FP.i2d p1)), (.ref st_NOT_EQUAL)])) rfl (by rw [hml]; rfl) (Steps.refl _) (argsL := [(.double (FP.i2d p1)), (.double (FP.i2d p2))]) (rest := []) (lenOf pd_3 rfl) rfl (Nat.le_refl _) (dd at_132) (fun _ _ => ⟨rfl, e28, (by decide : 1 + 0 ≤ _), (by decide : 6 + 0 ≤ _)⟩)
    dsimp only [Pt.U, Pt.locs, Pt.cells, Pt.slots, Q_rmH1] at X29 l29 y29 z29 st29 hQ29
    subst l29 y29 z29
    obtain ⟨rfl, N29q, e29⟩ := hQ29
    have N29 := Fr.app N28 N29q
    refine Gz.tr st29 ?_
    refine Gz.aload 137 X29 hx (dd at_135) rfl rfl rfl ?_
    refine Gz.dload 139 X29 hx (dd at_137) rfl rfl ?_
    refine Gz.dload 141 X29 hx (dd at_139) rfl rfl ?_
    obtain ⟨cq30, kq30, q30a, q30b, q30c⟩ := isOf hZ e29 f19_E_st_NOT_EQUAL
    obtain ⟨_, _, ⟨T30, L30, k30, n30⟩, -, X30, ⟨Lc30, hQ30, l30, y30, z30⟩, st30⟩ := X29.virtualBack hx (y := ym3) (z := ym3) hown (mvT hZ (ww hw 37 rfl)) (mvT hZ (ww hw 38 rfl)) (notFace_of_selects (args := #[]) (mvT hZ (ww hw 40 rfl))) (mvT hZ (ww hw 40 rfl)) (mvT hZ (ww hw 39 rfl)) (by decide) (backOf (W := 1) (rmH1 l Z av0 hw [] st_NOT_EQUAL (FP.i2d p2) (FP.i2d p1)  h19 n0 SZ19 f19_E_st_NOT_EQUAL f19_F_ordinal_st_NOT_EQUAL) hZ (ww hw 41 rfl) (ww hw 3 rfl) (by decide) (by decide)) q30a q30c (g := (mkF m 141 #[.val (.int p0), .val (.int p1), .val (.int p2), .val (.ref b1), .val (.int (1 : Int32)), .val (.ref st_NOT_EQUAL), .val (.int (1 : Int32)), .val (.int (1 : Int32)), .val (.double (FP.i2d p1)), .second, .val (.double (FP.i2d p2)), .second] [(.double (FP.i2d p1)), (.double (FP.i2d p2)), (.ref st_NOT_EQUAL), (.int (fH1 st_NOT_EQUAL (FP.i2d p1) (FP.i2d p2)))])) rfl (by rw [hml]; rfl) (Steps.refl _) (argsL := [(.double (FP.i2d p2)), (.double (FP.i2d p1))]) (rest := [(.int (fH1 st_NOT_EQUAL (FP.i2d p1) (FP.i2d p2)))]) (lenOf pd_3 rfl) rfl (Nat.le_refl _) (dd at_141) (fun _ _ => ⟨rfl, e29, (by decide : 1 + 0 ≤ _), (by decide : 6 + 0 ≤ _)⟩)
    dsimp only [Pt.U, Pt.locs, Pt.cells, Pt.slots, Q_rmH1] at X30 l30 y30 z30 st30 hQ30
    subst l30 y30 z30
    obtain ⟨rfl, N30q, e30⟩ := hQ30
    have N30 := Fr.app N29 N30q
    refine Gz.tr st30 ?_
    refine Gz.icmpYes 149 X30 hx (dd at_144) (teq (own_h1 _ _ _ : (fH1 st_NOT_EQUAL (FP.i2d p1) (FP.i2d p2)) = (fH1 st_NOT_EQUAL (FP.i2d p2) (FP.i2d p1)))).1 (by decide) (by decide) ?_
    refine Gz.iconst 150 (1 : Int32) X30 hx (dd at_149) rfl rfl ?_
    refine Gz.fin X30 (v := some (.int (1 : Int32))) (fun h => by rw [hret] at h; cases h) hlk (by decide) (by decide) (fun fs hr => retN X30 hx (t := .boolean) hret (by simp) (dd at_150) hr) ?_
    exact ⟨rfl, N30⟩
  · rw [hs20]
    refine Gz.istore 51 #[.val (.int p0), .val (.int p1), .val (.int p2), .val (.ref b1), .val (.int (2 : Int32)), .unset, .unset, .unset, .unset, .unset, .unset, .unset] X19 hx (dd at_49) rfl rfl ?_
    refine Gz.aloadN 52 X19 hx (dd at_51) rfl rfl rfl ?_
    refine Gz.iload 54 X19 hx (dd at_52) rfl rfl ?_
    obtain ⟨c31, A31, q31, S31, N31, H31, G31⟩ := id V19
    have hin31 : ¬ ((2 : Int32) < 0 ∨ c31.slots.size ≤ ((2 : Int32)).toNatClampNeg) := inb_of S31 ⟨by decide, by decide⟩
    refine Gz.ldA 55 X19 hx hZ rfl (dd at_54) e19 A31 hin31 (Has.at H31 hin31 (rfl : _ = ((.ref st_LESS) : Value))) rfl ?_
    refine Gz.astore 57 #[.val (.int p0), .val (.int p1), .val (.int p2), .val (.ref b1), .val (.int (2 : Int32)), .val (.ref st_LESS), .unset, .unset, .unset, .unset, .unset, .unset] X19 hx (dd at_55) rfl rfl rfl ?_
    refine Gz.aload 59 X19 hx (dd at_57) rfl rfl rfl ?_
    obtain ⟨cq32, kq32, q32a, q32b, q32c⟩ := isOf hZ e19 f19_E_st_LESS
    obtain ⟨_, _, ⟨T32, L32, k32, n32⟩, -, X32, ⟨Lc32, hQ32, l32, y32, z32⟩, st32⟩ := X19.virtualBack hx (y := ym1) (z := ym1) hown (mvT hZ (ww hw 17 rfl)) (mvT hZ (ww hw 18 rfl)) (notFace_of_selects (args := #[]) (mvT hZ (ww hw 20 rfl))) (mvT hZ (ww hw 20 rfl)) (mvT hZ (ww hw 19 rfl)) (by decide) (backOf (W := 0) (rm1 l Z av0 hw [] st_LESS st_EQUAL st_NOT_EQUAL h19 n0 SZ19 f19_S_st_EQUAL f19_S_st_NOT_EQUAL) hZ (ww hw 21 rfl) (ww hw 3 rfl) (by decide) (by decide)) q32a q32c (g := (mkF m 59 #[.val (.int p0), .val (.int p1), .val (.int p2), .val (.ref b1), .val (.int (2 : Int32)), .val (.ref st_LESS), .unset, .unset, .unset, .unset, .unset, .unset] [(.ref st_LESS)])) rfl (by rw [hml]; rfl) (Steps.refl _) (argsL := []) (rest := []) (lenOf pd_1 rfl) rfl (Nat.le_refl _) (dd at_59) (fun _ _ => ⟨rfl, e19, (by decide : 1 + 0 ≤ _), (by decide : 6 + 0 ≤ _)⟩)
    dsimp only [Pt.U, Pt.locs, Pt.cells, Pt.slots, Q_rm1] at X32 l32 y32 z32 st32 hQ32
    subst l32 y32 z32
    rw [show (fEq st_LESS st_EQUAL st_NOT_EQUAL) = (0 : Int32) from (by unfold fEq; rw [if_neg (Ne.symm ne_st_EQUAL_st_LESS), if_neg (Ne.symm ne_st_NOT_EQUAL_st_LESS)]; try decide)] at hQ32
    obtain ⟨rfl, N32q, e32⟩ := hQ32
    have N32 := Fr.app N19 N32q
    refine Gz.tr st32 ?_
    refine Gz.istore 64 #[.val (.int p0), .val (.int p1), .val (.int p2), .val (.ref b1), .val (.int (2 : Int32)), .val (.ref st_LESS), .val (.int (0 : Int32)), .unset, .unset, .unset, .unset, .unset] X32 hx (dd at_62) rfl rfl ?_
    refine Gz.iload 66 X32 hx (dd at_64) rfl rfl ?_
    refine Gz.ifNo 69 X32 hx (dd at_66) ((if0 _ _).trans (feq (by decide : ¬ ((2 : Int32) = (0 : Int32)))).1) rfl ?_
    refine Gz.iload 71 X32 hx (dd at_69) rfl rfl ?_
    refine Gz.iconst 72 (1 : Int32) X32 hx (dd at_71) rfl rfl ?_
    refine Gz.icmpYes 79 X32 hx (dd at_72) (feq (by decide : ¬ ((2 : Int32) = (1 : Int32)))).2 (by decide) (by decide) ?_
    refine Gz.iconst 80 (0 : Int32) X32 hx (dd at_79) rfl rfl ?_
    refine Gz.istore 82 #[.val (.int p0), .val (.int p1), .val (.int p2), .val (.ref b1), .val (.int (2 : Int32)), .val (.ref st_LESS), .val (.int (0 : Int32)), .val (.int (0 : Int32)), .unset, .unset, .unset, .unset] X32 hx (dd at_80) rfl rfl ?_
    refine Gz.iload 84 X32 hx (dd at_82) rfl rfl ?_
    refine Gz.iload 86 X32 hx (dd at_84) rfl rfl ?_
    refine Gz.icmpYes 91 X32 hx (dd at_86) (teq (by decide : (0 : Int32) = (0 : Int32))).1 (by decide) (by decide) ?_
    refine Gz.iload 93 X32 hx (dd at_91) rfl rfl ?_
    refine Gz.aload 95 X32 hx (dd at_93) rfl rfl rfl ?_
    obtain ⟨cq33, kq33, q33a, q33b, q33c⟩ := isOf hZ e32 f19_E_st_LESS
    obtain ⟨_, _, ⟨T33, L33, k33, n33⟩, -, X33, ⟨Lc33, hQ33, l33, y33, z33⟩, st33⟩ := X32.virtualBack hx (y := ym2) (z := ym2) hown (mvT hZ (ww hw 23 rfl)) (mvT hZ (ww hw 24 rfl)) (notFace_of_selects (args := #[]) (mvT hZ (ww hw 26 rfl))) (mvT hZ (ww hw 26 rfl)) (mvT hZ (ww hw 25 rfl)) (by decide) (backOf (W := 1) (rmR2 l Z av0 hw [] st_LESS st_GREATER h19 n0 SZ19 f19_E_st_LESS f19_F_ordinal_st_LESS f19_S_st_GREATER) hZ (ww hw 27 rfl) (ww hw 3 rfl) (by decide) (by decide)) q33a q33c (g := (mkF m 95 #[.val (.int p0), .val (.int p1), .val (.int p2), .val (.ref b1), .val (.int (2 : Int32)), .val (.ref st_LESS), .val (.int (0 : Int32)), .val (.int (0 : Int32)), .unset, .unset, .unset, .unset] [(.ref st_LESS), (.int (0 : Int32))])) rfl (by rw [hml]; rfl) (Steps.refl _) (argsL := []) (rest := [(.int (0 : Int32))]) (lenOf pd_2 rfl) rfl (Nat.le_refl _) (dd at_95) (fun _ _ => ⟨rfl, e32, (by decide : 1 + 0 ≤ _), (by decide : 6 + 0 ≤ _)⟩)
    dsimp only [Pt.U, Pt.locs, Pt.cells, Pt.slots, Q_rmR2] at X33 l33 y33 z33 st33 hQ33
    subst l33 y33 z33
    rw [show (fR2 st_LESS st_GREATER) = st_GREATER from (by unfold fR2; rfl)] at hQ33
    obtain ⟨rfl, N33q, e33⟩ := hQ33
    have N33 := Fr.app N32 N33q
    refine Gz.tr st33 ?_
    refine Gz.aload 100 X33 hx (dd at_98) rfl rfl rfl ?_
    refine Gz.acmp 107 false X33 hx (dd at_100) rfl rfl (decide_eq_false fun q => (Ne.symm ne_st_LESS_st_GREATER) (Value.ref.inj q)) (by decide) (by decide) ?_
    refine Gz.iconst 108 (0 : Int32) X33 hx (dd at_107) rfl rfl ?_
    refine Gz.icmpYes 113 X33 hx (dd at_108) (teq (by decide : (0 : Int32) = (0 : Int32))).1 (by decide) (by decide) ?_
    refine Gz.iloadN 114 X33 hx (dd at_113) rfl rfl ?_
    refine Gz.i2d 115 X33 hx (dd at_114) rfl ?_
    refine Gz.dstore 117 #[.val (.int p0), .val (.int p1), .val (.int p2), .val (.ref b1), .val (.int (2 : Int32)), .val (.ref st_LESS), .val (.int (0 : Int32)), .val (.int (0 : Int32)), .val (.double (FP.i2d p1)), .second, .unset, .unset] X33 hx (dd at_115) rfl rfl ?_
    refine Gz.iloadN 118 X33 hx (dd at_117) rfl rfl ?_
    refine Gz.i2d 119 X33 hx (dd at_118) rfl ?_
    refine Gz.dstore 121 #[.val (.int p0), .val (.int p1), .val (.int p2), .val (.ref b1), .val (.int (2 : Int32)), .val (.ref st_LESS), .val (.int (0 : Int32)), .val (.int (0 : Int32)), .val (.double (FP.i2d p1)), .second, .val (.double (FP.i2d p2)), .second] X33 hx (dd at_119) rfl rfl ?_
    refine Gz.iload 123 X33 hx (dd at_121) rfl rfl ?_
    refine Gz.ifYes 149 X33 hx (dd at_123) ((if0 _ _).trans (teq (by decide : (0 : Int32) = (0 : Int32))).1) (by decide) (by decide) ?_
    refine Gz.iconst 150 (1 : Int32) X33 hx (dd at_149) rfl rfl ?_
    refine Gz.fin X33 (v := some (.int (1 : Int32))) (fun h => by rw [hret] at h; cases h) hlk (by decide) (by decide) (fun fs hr => retN X33 hx (t := .boolean) hret (by simp) (dd at_150) hr) ?_
    exact ⟨rfl, N33⟩
  · rw [hs20]
    refine Gz.istore 51 #[.val (.int p0), .val (.int p1), .val (.int p2), .val (.ref b1), .val (.int (3 : Int32)), .unset, .unset, .unset, .unset, .unset, .unset, .unset] X19 hx (dd at_49) rfl rfl ?_
    refine Gz.aloadN 52 X19 hx (dd at_51) rfl rfl rfl ?_
    refine Gz.iload 54 X19 hx (dd at_52) rfl rfl ?_
    obtain ⟨c34, A34, q34, S34, N34, H34, G34⟩ := id V19
    have hin34 : ¬ ((3 : Int32) < 0 ∨ c34.slots.size ≤ ((3 : Int32)).toNatClampNeg) := inb_of S34 ⟨by decide, by decide⟩
    refine Gz.ldA 55 X19 hx hZ rfl (dd at_54) e19 A34 hin34 (Has.at H34 hin34 (rfl : _ = ((.ref st_LESS_OR_EQUAL) : Value))) rfl ?_
    refine Gz.astore 57 #[.val (.int p0), .val (.int p1), .val (.int p2), .val (.ref b1), .val (.int (3 : Int32)), .val (.ref st_LESS_OR_EQUAL), .unset, .unset, .unset, .unset, .unset, .unset] X19 hx (dd at_55) rfl rfl rfl ?_
    refine Gz.aload 59 X19 hx (dd at_57) rfl rfl rfl ?_
    obtain ⟨cq35, kq35, q35a, q35b, q35c⟩ := isOf hZ e19 f19_E_st_LESS_OR_EQUAL
    obtain ⟨_, _, ⟨T35, L35, k35, n35⟩, -, X35, ⟨Lc35, hQ35, l35, y35, z35⟩, st35⟩ := X19.virtualBack hx (y := ym1) (z := ym1) hown (mvT hZ (ww hw 17 rfl)) (mvT hZ (ww hw 18 rfl)) (notFace_of_selects (args := #[]) (mvT hZ (ww hw 20 rfl))) (mvT hZ (ww hw 20 rfl)) (mvT hZ (ww hw 19 rfl)) (by decide) (backOf (W := 0) (rm1 l Z av0 hw [] st_LESS_OR_EQUAL st_EQUAL st_NOT_EQUAL h19 n0 SZ19 f19_S_st_EQUAL f19_S_st_NOT_EQUAL) hZ (ww hw 21 rfl) (ww hw 3 rfl) (by decide) (by decide)) q35a q35c (g := (mkF m 59 #[.val (.int p0), .val (.int p1), .val (.int p2), .val (.ref b1), .val (.int (3 : Int32)), .val (.ref st_LESS_OR_EQUAL), .unset, .unset, .unset, .unset, .unset, .unset] [(.ref st_LESS_OR_EQUAL)])) rfl (by rw [hml]; rfl) (Steps.refl _) (argsL := []) (rest := []) (lenOf pd_1 rfl) rfl (Nat.le_refl _) (dd at_59) (fun _ _ => ⟨rfl, e19, (by decide : 1 + 0 ≤ _), (by decide : 6 + 0 ≤ _)⟩)
    dsimp only [Pt.U, Pt.locs, Pt.cells, Pt.slots, Q_rm1] at X35 l35 y35 z35 st35 hQ35
    subst l35 y35 z35
    rw [show (fEq st_LESS_OR_EQUAL st_EQUAL st_NOT_EQUAL) = (0 : Int32) from (by unfold fEq; rw [if_neg (Ne.symm ne_st_EQUAL_st_LESS_OR_EQUAL), if_neg (Ne.symm ne_st_NOT_EQUAL_st_LESS_OR_EQUAL)]; try decide)] at hQ35
    obtain ⟨rfl, N35q, e35⟩ := hQ35
    have N35 := Fr.app N19 N35q
    refine Gz.tr st35 ?_
    refine Gz.istore 64 #[.val (.int p0), .val (.int p1), .val (.int p2), .val (.ref b1), .val (.int (3 : Int32)), .val (.ref st_LESS_OR_EQUAL), .val (.int (0 : Int32)), .unset, .unset, .unset, .unset, .unset] X35 hx (dd at_62) rfl rfl ?_
    refine Gz.iload 66 X35 hx (dd at_64) rfl rfl ?_
    refine Gz.ifNo 69 X35 hx (dd at_66) ((if0 _ _).trans (feq (by decide : ¬ ((3 : Int32) = (0 : Int32)))).1) rfl ?_
    refine Gz.iload 71 X35 hx (dd at_69) rfl rfl ?_
    refine Gz.iconst 72 (1 : Int32) X35 hx (dd at_71) rfl rfl ?_
    refine Gz.icmpYes 79 X35 hx (dd at_72) (feq (by decide : ¬ ((3 : Int32) = (1 : Int32)))).2 (by decide) (by decide) ?_
    refine Gz.iconst 80 (0 : Int32) X35 hx (dd at_79) rfl rfl ?_
    refine Gz.istore 82 #[.val (.int p0), .val (.int p1), .val (.int p2), .val (.ref b1), .val (.int (3 : Int32)), .val (.ref st_LESS_OR_EQUAL), .val (.int (0 : Int32)), .val (.int (0 : Int32)), .unset, .unset, .unset, .unset] X35 hx (dd at_80) rfl rfl ?_
    refine Gz.iload 84 X35 hx (dd at_82) rfl rfl ?_
    refine Gz.iload 86 X35 hx (dd at_84) rfl rfl ?_
    refine Gz.icmpYes 91 X35 hx (dd at_86) (teq (by decide : (0 : Int32) = (0 : Int32))).1 (by decide) (by decide) ?_
    refine Gz.iload 93 X35 hx (dd at_91) rfl rfl ?_
    refine Gz.aload 95 X35 hx (dd at_93) rfl rfl rfl ?_
    obtain ⟨cq36, kq36, q36a, q36b, q36c⟩ := isOf hZ e35 f19_E_st_LESS_OR_EQUAL
    obtain ⟨_, _, ⟨T36, L36, k36, n36⟩, -, X36, ⟨Lc36, hQ36, l36, y36, z36⟩, st36⟩ := X35.virtualBack hx (y := ym2) (z := ym2) hown (mvT hZ (ww hw 23 rfl)) (mvT hZ (ww hw 24 rfl)) (notFace_of_selects (args := #[]) (mvT hZ (ww hw 26 rfl))) (mvT hZ (ww hw 26 rfl)) (mvT hZ (ww hw 25 rfl)) (by decide) (backOf (W := 1) (rmR3 l Z av0 hw [] st_LESS_OR_EQUAL st_GREATER_OR_EQUAL h19 n0 SZ19 f19_E_st_LESS_OR_EQUAL f19_F_ordinal_st_LESS_OR_EQUAL f19_S_st_GREATER_OR_EQUAL) hZ (ww hw 27 rfl) (ww hw 3 rfl) (by decide) (by decide)) q36a q36c (g := (mkF m 95 #[.val (.int p0), .val (.int p1), .val (.int p2), .val (.ref b1), .val (.int (3 : Int32)), .val (.ref st_LESS_OR_EQUAL), .val (.int (0 : Int32)), .val (.int (0 : Int32)), .unset, .unset, .unset, .unset] [(.ref st_LESS_OR_EQUAL), (.int (0 : Int32))])) rfl (by rw [hml]; rfl) (Steps.refl _) (argsL := []) (rest := [(.int (0 : Int32))]) (lenOf pd_2 rfl) rfl (Nat.le_refl _) (dd at_95) (fun _ _ => ⟨rfl, e35, (by decide : 1 + 0 ≤ _), (by decide : 6 + 0 ≤ _)⟩)
    dsimp only [Pt.U, Pt.locs, Pt.cells, Pt.slots, Q_rmR3] at X36 l36 y36 z36 st36 hQ36
    subst l36 y36 z36
    rw [show (fR3 st_LESS_OR_EQUAL st_GREATER_OR_EQUAL) = st_GREATER_OR_EQUAL from (by unfold fR3; rfl)] at hQ36
    obtain ⟨rfl, N36q, e36⟩ := hQ36
    have N36 := Fr.app N35 N36q
    refine Gz.tr st36 ?_
    refine Gz.aload 100 X36 hx (dd at_98) rfl rfl rfl ?_
    refine Gz.acmp 107 false X36 hx (dd at_100) rfl rfl (decide_eq_false fun q => (Ne.symm ne_st_LESS_OR_EQUAL_st_GREATER_OR_EQUAL) (Value.ref.inj q)) (by decide) (by decide) ?_
    refine Gz.iconst 108 (0 : Int32) X36 hx (dd at_107) rfl rfl ?_
    refine Gz.icmpYes 113 X36 hx (dd at_108) (teq (by decide : (0 : Int32) = (0 : Int32))).1 (by decide) (by decide) ?_
    refine Gz.iloadN 114 X36 hx (dd at_113) rfl rfl ?_
    refine Gz.i2d 115 X36 hx (dd at_114) rfl ?_
    refine Gz.dstore 117 #[.val (.int p0), .val (.int p1), .val (.int p2), .val (.ref b1), .val (.int (3 : Int32)), .val (.ref st_LESS_OR_EQUAL), .val (.int (0 : Int32)), .val (.int (0 : Int32)), .val (.double (FP.i2d p1)), .second, .unset, .unset] X36 hx (dd at_115) rfl rfl ?_
    refine Gz.iloadN 118 X36 hx (dd at_117) rfl rfl ?_
    refine Gz.i2d 119 X36 hx (dd at_118) rfl ?_
    refine Gz.dstore 121 #[.val (.int p0), .val (.int p1), .val (.int p2), .val (.ref b1), .val (.int (3 : Int32)), .val (.ref st_LESS_OR_EQUAL), .val (.int (0 : Int32)), .val (.int (0 : Int32)), .val (.double (FP.i2d p1)), .second, .val (.double (FP.i2d p2)), .second] X36 hx (dd at_119) rfl rfl ?_
    refine Gz.iload 123 X36 hx (dd at_121) rfl rfl ?_
    refine Gz.ifYes 149 X36 hx (dd at_123) ((if0 _ _).trans (teq (by decide : (0 : Int32) = (0 : Int32))).1) (by decide) (by decide) ?_
    refine Gz.iconst 150 (1 : Int32) X36 hx (dd at_149) rfl rfl ?_
    refine Gz.fin X36 (v := some (.int (1 : Int32))) (fun h => by rw [hret] at h; cases h) hlk (by decide) (by decide) (fun fs hr => retN X36 hx (t := .boolean) hret (by simp) (dd at_150) hr) ?_
    exact ⟨rfl, N36⟩
  · rw [hs20]
    refine Gz.istore 51 #[.val (.int p0), .val (.int p1), .val (.int p2), .val (.ref b1), .val (.int (4 : Int32)), .unset, .unset, .unset, .unset, .unset, .unset, .unset] X19 hx (dd at_49) rfl rfl ?_
    refine Gz.aloadN 52 X19 hx (dd at_51) rfl rfl rfl ?_
    refine Gz.iload 54 X19 hx (dd at_52) rfl rfl ?_
    obtain ⟨c37, A37, q37, S37, N37, H37, G37⟩ := id V19
    have hin37 : ¬ ((4 : Int32) < 0 ∨ c37.slots.size ≤ ((4 : Int32)).toNatClampNeg) := inb_of S37 ⟨by decide, by decide⟩
    refine Gz.ldA 55 X19 hx hZ rfl (dd at_54) e19 A37 hin37 (Has.at H37 hin37 (rfl : _ = ((.ref st_GREATER) : Value))) rfl ?_
    refine Gz.astore 57 #[.val (.int p0), .val (.int p1), .val (.int p2), .val (.ref b1), .val (.int (4 : Int32)), .val (.ref st_GREATER), .unset, .unset, .unset, .unset, .unset, .unset] X19 hx (dd at_55) rfl rfl rfl ?_
    refine Gz.aload 59 X19 hx (dd at_57) rfl rfl rfl ?_
    obtain ⟨cq38, kq38, q38a, q38b, q38c⟩ := isOf hZ e19 f19_E_st_GREATER
    obtain ⟨_, _, ⟨T38, L38, k38, n38⟩, -, X38, ⟨Lc38, hQ38, l38, y38, z38⟩, st38⟩ := X19.virtualBack hx (y := ym1) (z := ym1) hown (mvT hZ (ww hw 17 rfl)) (mvT hZ (ww hw 18 rfl)) (notFace_of_selects (args := #[]) (mvT hZ (ww hw 20 rfl))) (mvT hZ (ww hw 20 rfl)) (mvT hZ (ww hw 19 rfl)) (by decide) (backOf (W := 0) (rm1 l Z av0 hw [] st_GREATER st_EQUAL st_NOT_EQUAL h19 n0 SZ19 f19_S_st_EQUAL f19_S_st_NOT_EQUAL) hZ (ww hw 21 rfl) (ww hw 3 rfl) (by decide) (by decide)) q38a q38c (g := (mkF m 59 #[.val (.int p0), .val (.int p1), .val (.int p2), .val (.ref b1), .val (.int (4 : Int32)), .val (.ref st_GREATER), .unset, .unset, .unset, .unset, .unset, .unset] [(.ref st_GREATER)])) rfl (by rw [hml]; rfl) (Steps.refl _) (argsL := []) (rest := []) (lenOf pd_1 rfl) rfl (Nat.le_refl _) (dd at_59) (fun _ _ => ⟨rfl, e19, (by decide : 1 + 0 ≤ _), (by decide : 6 + 0 ≤ _)⟩)
    dsimp only [Pt.U, Pt.locs, Pt.cells, Pt.slots, Q_rm1] at X38 l38 y38 z38 st38 hQ38
    subst l38 y38 z38
    rw [show (fEq st_GREATER st_EQUAL st_NOT_EQUAL) = (0 : Int32) from (by unfold fEq; rw [if_neg (Ne.symm ne_st_EQUAL_st_GREATER), if_neg (Ne.symm ne_st_NOT_EQUAL_st_GREATER)]; try decide)] at hQ38
    obtain ⟨rfl, N38q, e38⟩ := hQ38
    have N38 := Fr.app N19 N38q
    refine Gz.tr st38 ?_
    refine Gz.istore 64 #[.val (.int p0), .val (.int p1), .val (.int p2), .val (.ref b1), .val (.int (4 : Int32)), .val (.ref st_GREATER), .val (.int (0 : Int32)), .unset, .unset, .unset, .unset, .unset] X38 hx (dd at_62) rfl rfl ?_
    refine Gz.iload 66 X38 hx (dd at_64) rfl rfl ?_
    refine Gz.ifNo 69 X38 hx (dd at_66) ((if0 _ _).trans (feq (by decide : ¬ ((4 : Int32) = (0 : Int32)))).1) rfl ?_
    refine Gz.iload 71 X38 hx (dd at_69) rfl rfl ?_
    refine Gz.iconst 72 (1 : Int32) X38 hx (dd at_71) rfl rfl ?_
    refine Gz.icmpYes 79 X38 hx (dd at_72) (feq (by decide : ¬ ((4 : Int32) = (1 : Int32)))).2 (by decide) (by decide) ?_
    refine Gz.iconst 80 (0 : Int32) X38 hx (dd at_79) rfl rfl ?_
    refine Gz.istore 82 #[.val (.int p0), .val (.int p1), .val (.int p2), .val (.ref b1), .val (.int (4 : Int32)), .val (.ref st_GREATER), .val (.int (0 : Int32)), .val (.int (0 : Int32)), .unset, .unset, .unset, .unset] X38 hx (dd at_80) rfl rfl ?_
    refine Gz.iload 84 X38 hx (dd at_82) rfl rfl ?_
    refine Gz.iload 86 X38 hx (dd at_84) rfl rfl ?_
    refine Gz.icmpYes 91 X38 hx (dd at_86) (teq (by decide : (0 : Int32) = (0 : Int32))).1 (by decide) (by decide) ?_
    refine Gz.iload 93 X38 hx (dd at_91) rfl rfl ?_
    refine Gz.aload 95 X38 hx (dd at_93) rfl rfl rfl ?_
    obtain ⟨cq39, kq39, q39a, q39b, q39c⟩ := isOf hZ e38 f19_E_st_GREATER
    obtain ⟨_, _, ⟨T39, L39, k39, n39⟩, -, X39, ⟨Lc39, hQ39, l39, y39, z39⟩, st39⟩ := X38.virtualBack hx (y := ym2) (z := ym2) hown (mvT hZ (ww hw 23 rfl)) (mvT hZ (ww hw 24 rfl)) (notFace_of_selects (args := #[]) (mvT hZ (ww hw 26 rfl))) (mvT hZ (ww hw 26 rfl)) (mvT hZ (ww hw 25 rfl)) (by decide) (backOf (W := 1) (rmR4 l Z av0 hw [] st_GREATER st_LESS h19 n0 SZ19 f19_E_st_GREATER f19_F_ordinal_st_GREATER f19_S_st_LESS) hZ (ww hw 27 rfl) (ww hw 3 rfl) (by decide) (by decide)) q39a q39c (g := (mkF m 95 #[.val (.int p0), .val (.int p1), .val (.int p2), .val (.ref b1), .val (.int (4 : Int32)), .val (.ref st_GREATER), .val (.int (0 : Int32)), .val (.int (0 : Int32)), .unset, .unset, .unset, .unset] [(.ref st_GREATER), (.int (0 : Int32))])) rfl (by rw [hml]; rfl) (Steps.refl _) (argsL := []) (rest := [(.int (0 : Int32))]) (lenOf pd_2 rfl) rfl (Nat.le_refl _) (dd at_95) (fun _ _ => ⟨rfl, e38, (by decide : 1 + 0 ≤ _), (by decide : 6 + 0 ≤ _)⟩)
    dsimp only [Pt.U, Pt.locs, Pt.cells, Pt.slots, Q_rmR4] at X39 l39 y39 z39 st39 hQ39
    subst l39 y39 z39
    rw [show (fR4 st_GREATER st_LESS) = st_LESS from (by unfold fR4; rfl)] at hQ39
    obtain ⟨rfl, N39q, e39⟩ := hQ39
    have N39 := Fr.app N38 N39q
    refine Gz.tr st39 ?_
    refine Gz.aload 100 X39 hx (dd at_98) rfl rfl rfl ?_
    refine Gz.acmp 107 false X39 hx (dd at_100) rfl rfl (decide_eq_false fun q => ne_st_LESS_st_GREATER (Value.ref.inj q)) (by decide) (by decide) ?_
    refine Gz.iconst 108 (0 : Int32) X39 hx (dd at_107) rfl rfl ?_
    refine Gz.icmpYes 113 X39 hx (dd at_108) (teq (by decide : (0 : Int32) = (0 : Int32))).1 (by decide) (by decide) ?_
    refine Gz.iloadN 114 X39 hx (dd at_113) rfl rfl ?_
    refine Gz.i2d 115 X39 hx (dd at_114) rfl ?_
    refine Gz.dstore 117 #[.val (.int p0), .val (.int p1), .val (.int p2), .val (.ref b1), .val (.int (4 : Int32)), .val (.ref st_GREATER), .val (.int (0 : Int32)), .val (.int (0 : Int32)), .val (.double (FP.i2d p1)), .second, .unset, .unset] X39 hx (dd at_115) rfl rfl ?_
    refine Gz.iloadN 118 X39 hx (dd at_117) rfl rfl ?_
    refine Gz.i2d 119 X39 hx (dd at_118) rfl ?_
    refine Gz.dstore 121 #[.val (.int p0), .val (.int p1), .val (.int p2), .val (.ref b1), .val (.int (4 : Int32)), .val (.ref st_GREATER), .val (.int (0 : Int32)), .val (.int (0 : Int32)), .val (.double (FP.i2d p1)), .second, .val (.double (FP.i2d p2)), .second] X39 hx (dd at_119) rfl rfl ?_
    refine Gz.iload 123 X39 hx (dd at_121) rfl rfl ?_
    refine Gz.ifYes 149 X39 hx (dd at_123) ((if0 _ _).trans (teq (by decide : (0 : Int32) = (0 : Int32))).1) (by decide) (by decide) ?_
    refine Gz.iconst 150 (1 : Int32) X39 hx (dd at_149) rfl rfl ?_
    refine Gz.fin X39 (v := some (.int (1 : Int32))) (fun h => by rw [hret] at h; cases h) hlk (by decide) (by decide) (fun fs hr => retN X39 hx (t := .boolean) hret (by simp) (dd at_150) hr) ?_
    exact ⟨rfl, N39⟩
  · rw [hs20]
    refine Gz.istore 51 #[.val (.int p0), .val (.int p1), .val (.int p2), .val (.ref b1), .val (.int (5 : Int32)), .unset, .unset, .unset, .unset, .unset, .unset, .unset] X19 hx (dd at_49) rfl rfl ?_
    refine Gz.aloadN 52 X19 hx (dd at_51) rfl rfl rfl ?_
    refine Gz.iload 54 X19 hx (dd at_52) rfl rfl ?_
    obtain ⟨c40, A40, q40, S40, N40, H40, G40⟩ := id V19
    have hin40 : ¬ ((5 : Int32) < 0 ∨ c40.slots.size ≤ ((5 : Int32)).toNatClampNeg) := inb_of S40 ⟨by decide, by decide⟩
    refine Gz.ldA 55 X19 hx hZ rfl (dd at_54) e19 A40 hin40 (Has.at H40 hin40 (rfl : _ = ((.ref st_GREATER_OR_EQUAL) : Value))) rfl ?_
    refine Gz.astore 57 #[.val (.int p0), .val (.int p1), .val (.int p2), .val (.ref b1), .val (.int (5 : Int32)), .val (.ref st_GREATER_OR_EQUAL), .unset, .unset, .unset, .unset, .unset, .unset] X19 hx (dd at_55) rfl rfl rfl ?_
    refine Gz.aload 59 X19 hx (dd at_57) rfl rfl rfl ?_
    obtain ⟨cq41, kq41, q41a, q41b, q41c⟩ := isOf hZ e19 f19_E_st_GREATER_OR_EQUAL
    obtain ⟨_, _, ⟨T41, L41, k41, n41⟩, -, X41, ⟨Lc41, hQ41, l41, y41, z41⟩, st41⟩ := X19.virtualBack hx (y := ym1) (z := ym1) hown (mvT hZ (ww hw 17 rfl)) (mvT hZ (ww hw 18 rfl)) (notFace_of_selects (args := #[]) (mvT hZ (ww hw 20 rfl))) (mvT hZ (ww hw 20 rfl)) (mvT hZ (ww hw 19 rfl)) (by decide) (backOf (W := 0) (rm1 l Z av0 hw [] st_GREATER_OR_EQUAL st_EQUAL st_NOT_EQUAL h19 n0 SZ19 f19_S_st_EQUAL f19_S_st_NOT_EQUAL) hZ (ww hw 21 rfl) (ww hw 3 rfl) (by decide) (by decide)) q41a q41c (g := (mkF m 59 #[.val (.int p0), .val (.int p1), .val (.int p2), .val (.ref b1), .val (.int (5 : Int32)), .val (.ref st_GREATER_OR_EQUAL), .unset, .unset, .unset, .unset, .unset, .unset] [(.ref st_GREATER_OR_EQUAL)])) rfl (by rw [hml]; rfl) (Steps.refl _) (argsL := []) (rest := []) (lenOf pd_1 rfl) rfl (Nat.le_refl _) (dd at_59) (fun _ _ => ⟨rfl, e19, (by decide : 1 + 0 ≤ _), (by decide : 6 + 0 ≤ _)⟩)
    dsimp only [Pt.U, Pt.locs, Pt.cells, Pt.slots, Q_rm1] at X41 l41 y41 z41 st41 hQ41
    subst l41 y41 z41
    rw [show (fEq st_GREATER_OR_EQUAL st_EQUAL st_NOT_EQUAL) = (0 : Int32) from (by unfold fEq; rw [if_neg (Ne.symm ne_st_EQUAL_st_GREATER_OR_EQUAL), if_neg (Ne.symm ne_st_NOT_EQUAL_st_GREATER_OR_EQUAL)]; try decide)] at hQ41
    obtain ⟨rfl, N41q, e41⟩ := hQ41
    have N41 := Fr.app N19 N41q
    refine Gz.tr st41 ?_
    refine Gz.istore 64 #[.val (.int p0), .val (.int p1), .val (.int p2), .val (.ref b1), .val (.int (5 : Int32)), .val (.ref st_GREATER_OR_EQUAL), .val (.int (0 : Int32)), .unset, .unset, .unset, .unset, .unset] X41 hx (dd at_62) rfl rfl ?_
    refine Gz.iload 66 X41 hx (dd at_64) rfl rfl ?_
    refine Gz.ifNo 69 X41 hx (dd at_66) ((if0 _ _).trans (feq (by decide : ¬ ((5 : Int32) = (0 : Int32)))).1) rfl ?_
    refine Gz.iload 71 X41 hx (dd at_69) rfl rfl ?_
    refine Gz.iconst 72 (1 : Int32) X41 hx (dd at_71) rfl rfl ?_
    refine Gz.icmpYes 79 X41 hx (dd at_72) (feq (by decide : ¬ ((5 : Int32) = (1 : Int32)))).2 (by decide) (by decide) ?_
    refine Gz.iconst 80 (0 : Int32) X41 hx (dd at_79) rfl rfl ?_
    refine Gz.istore 82 #[.val (.int p0), .val (.int p1), .val (.int p2), .val (.ref b1), .val (.int (5 : Int32)), .val (.ref st_GREATER_OR_EQUAL), .val (.int (0 : Int32)), .val (.int (0 : Int32)), .unset, .unset, .unset, .unset] X41 hx (dd at_80) rfl rfl ?_
    refine Gz.iload 84 X41 hx (dd at_82) rfl rfl ?_
    refine Gz.iload 86 X41 hx (dd at_84) rfl rfl ?_
    refine Gz.icmpYes 91 X41 hx (dd at_86) (teq (by decide : (0 : Int32) = (0 : Int32))).1 (by decide) (by decide) ?_
    refine Gz.iload 93 X41 hx (dd at_91) rfl rfl ?_
    refine Gz.aload 95 X41 hx (dd at_93) rfl rfl rfl ?_
    obtain ⟨cq42, kq42, q42a, q42b, q42c⟩ := isOf hZ e41 f19_E_st_GREATER_OR_EQUAL
    obtain ⟨_, _, ⟨T42, L42, k42, n42⟩, -, X42, ⟨Lc42, hQ42, l42, y42, z42⟩, st42⟩ := X41.virtualBack hx (y := ym2) (z := ym2) hown (mvT hZ (ww hw 23 rfl)) (mvT hZ (ww hw 24 rfl)) (notFace_of_selects (args := #[]) (mvT hZ (ww hw 26 rfl))) (mvT hZ (ww hw 26 rfl)) (mvT hZ (ww hw 25 rfl)) (by decide) (backOf (W := 1) (rmR5 l Z av0 hw [] st_GREATER_OR_EQUAL st_LESS_OR_EQUAL h19 n0 SZ19 f19_E_st_GREATER_OR_EQUAL f19_F_ordinal_st_GREATER_OR_EQUAL f19_S_st_LESS_OR_EQUAL) hZ (ww hw 27 rfl) (ww hw 3 rfl) (by decide) (by decide)) q42a q42c (g := (mkF m 95 #[.val (.int p0), .val (.int p1), .val (.int p2), .val (.ref b1), .val (.int (5 : Int32)), .val (.ref st_GREATER_OR_EQUAL), .val (.int (0 : Int32)), .val (.int (0 : Int32)), .unset, .unset, .unset, .unset] [(.ref st_GREATER_OR_EQUAL), (.int (0 : Int32))])) rfl (by rw [hml]; rfl) (Steps.refl _) (argsL := []) (rest := [(.int (0 : Int32))]) (lenOf pd_2 rfl) rfl (Nat.le_refl _) (dd at_95) (fun _ _ => ⟨rfl, e41, (by decide : 1 + 0 ≤ _), (by decide : 6 + 0 ≤ _)⟩)
    dsimp only [Pt.U, Pt.locs, Pt.cells, Pt.slots, Q_rmR5] at X42 l42 y42 z42 st42 hQ42
    subst l42 y42 z42
    rw [show (fR5 st_GREATER_OR_EQUAL st_LESS_OR_EQUAL) = st_LESS_OR_EQUAL from (by unfold fR5; rfl)] at hQ42
    obtain ⟨rfl, N42q, e42⟩ := hQ42
    have N42 := Fr.app N41 N42q
    refine Gz.tr st42 ?_
    refine Gz.aload 100 X42 hx (dd at_98) rfl rfl rfl ?_
    refine Gz.acmp 107 false X42 hx (dd at_100) rfl rfl (decide_eq_false fun q => ne_st_LESS_OR_EQUAL_st_GREATER_OR_EQUAL (Value.ref.inj q)) (by decide) (by decide) ?_
    refine Gz.iconst 108 (0 : Int32) X42 hx (dd at_107) rfl rfl ?_
    refine Gz.icmpYes 113 X42 hx (dd at_108) (teq (by decide : (0 : Int32) = (0 : Int32))).1 (by decide) (by decide) ?_
    refine Gz.iloadN 114 X42 hx (dd at_113) rfl rfl ?_
    refine Gz.i2d 115 X42 hx (dd at_114) rfl ?_
    refine Gz.dstore 117 #[.val (.int p0), .val (.int p1), .val (.int p2), .val (.ref b1), .val (.int (5 : Int32)), .val (.ref st_GREATER_OR_EQUAL), .val (.int (0 : Int32)), .val (.int (0 : Int32)), .val (.double (FP.i2d p1)), .second, .unset, .unset] X42 hx (dd at_115) rfl rfl ?_
    refine Gz.iloadN 118 X42 hx (dd at_117) rfl rfl ?_
    refine Gz.i2d 119 X42 hx (dd at_118) rfl ?_
    refine Gz.dstore 121 #[.val (.int p0), .val (.int p1), .val (.int p2), .val (.ref b1), .val (.int (5 : Int32)), .val (.ref st_GREATER_OR_EQUAL), .val (.int (0 : Int32)), .val (.int (0 : Int32)), .val (.double (FP.i2d p1)), .second, .val (.double (FP.i2d p2)), .second] X42 hx (dd at_119) rfl rfl ?_
    refine Gz.iload 123 X42 hx (dd at_121) rfl rfl ?_
    refine Gz.ifYes 149 X42 hx (dd at_123) ((if0 _ _).trans (teq (by decide : (0 : Int32) = (0 : Int32))).1) (by decide) (by decide) ?_
    refine Gz.iconst 150 (1 : Int32) X42 hx (dd at_149) rfl rfl ?_
    refine Gz.fin X42 (v := some (.int (1 : Int32))) (fun h => by rw [hret] at h; cases h) hlk (by decide) (by decide) (fun fs hr => retN X42 hx (t := .boolean) hret (by simp) (dd at_150) hr) ?_
    exact ⟨rfl, N42⟩
set_option maxRecDepth 65536 in
set_option maxHeartbeats 40000000 in
theorem comes_1 {Post : Tables → Env → Array Value → State → Outcome → State → Prop} (hpost : ∀ tb e args s v u, (limb_1_1.after args s (.returned v) u = true ∧ limb_1_2.after args s (.returned v) u = true ∧ True) → FrameEnd s (.returned v) u (Jvm.fieldLocs frame_1_writes args s ++ Jvm.arrayLocs frame_1_arrays args s ++ Jvm.staticLocs frame_1_statics s) 16 128 → Post tb e args s (.returned v) u) :
    ArmFor flags0 classFile x code maxLocals ret World_1 tables_1 room_1 Calls_1 rest_1 Pre_1 Post := by
  intro l hfl _ _ p e ha hc hk s m args below hf hA hF happ hP
  obtain ⟨hcalls, hrest, hpre⟩ := hP
  obtain ⟨-, -, -, hnamed, -, -, -, hat⟩ := (Spec.applies_iff hf).mp happ
  obtain ⟨hg, hn⟩ := and_e (Cond.before_iff.mp (show (Jvm.Cond.and given_1 narrow_1).before args s = true from hpre))
  obtain ⟨hcnt, hg0⟩ := and_e hg
  obtain ⟨ha0, hg1⟩ := and_e hg0
  obtain ⟨ha1, hg2⟩ := and_e hg1
  have ha2 := hg2
  obtain ⟨w0, w1, w2, rfl⟩ : ∃ w0 w1 w2 : Value, args = #[w0, w1, w2] := by
    have hs : args.size = 3 := by simpa [Cond.value, given_1] using hcnt
    obtain ⟨L⟩ := args
    match L, hs with
    | [w0, w1, w2], _ => exact ⟨w0, w1, w2, rfl⟩
  have hw := fun d (hd : d ∈ tables_1) => atoms_spec (ws := Jvm.Cond.code x code maxLocals ret :: tables_1) hat d (List.mem_cons_of_mem _ hd)
  have hfit : Fit s := fun {y c} hc i hi => by
    obtain ⟨ha, rfl⟩ := Array.getElem?_eq_some_iff.mp hc
    have q := List.all_eq_true.mp ((Array.all_eq_true_iff_forall_mem.mp hF) _ (Array.getElem_mem ha)) i (List.mem_range.mpr hi)
    simpa [Array.getElem?_eq_getElem hi] using q
  obtain ⟨i0, ei0⟩ := is_v ha0
  obtain rfl : w0 = (.int i0) := Option.some.inj ei0
  obtain ⟨i1, ei1⟩ := is_v ha1
  obtain rfl : w1 = (.int i1) := Option.some.inj ei1
  obtain ⟨i2, ei2⟩ := is_v ha2
  obtain rfl : w2 = (.int i2) := Option.some.inj ei2
  obtain ⟨nn0, nr0⟩ := and_e hn
  obtain ⟨nn1, nr1⟩ := and_e nr0
  obtain ⟨nn2, nr2⟩ := and_e nr1
  obtain ⟨nn3, nr3⟩ := and_e nr2
  obtain ⟨nn4, nr4⟩ := and_e nr3
  obtain ⟨nn5, nr5⟩ := and_e nr4
  obtain ⟨nn6, nr6⟩ := and_e nr5
  obtain ⟨nn7, nr7⟩ := and_e nr6
  obtain ⟨nn8, nr8⟩ := and_e nr7
  obtain ⟨nn9, nr9⟩ := and_e nr8
  obtain ⟨nn10, nr10⟩ := and_e nr9
  have nn11 := nr10
  obtain ⟨st_EQUAL, ev_EQUAL⟩ := exa_v nn0
  have S_EQUAL : Sta s s.heap "com/example/pathbinder/pathbinder/core/Comparison$Operator" "EQUAL" "Lcom/example/pathbinder/pathbinder/core/Comparison$Operator;" (.ref st_EQUAL) := Sta.start ev_EQUAL (Or.inr ⟨(ww hw 3 rfl), (ww hw 4 rfl)⟩)
  have E_EQUAL : Exa s s.heap st_EQUAL "com/example/pathbinder/pathbinder/core/Comparison$Operator" := Exa.start ev_EQUAL nn0
  obtain ⟨st_NOT_EQUAL, ev_NOT_EQUAL⟩ := exa_v nn1
  have S_NOT_EQUAL : Sta s s.heap "com/example/pathbinder/pathbinder/core/Comparison$Operator" "NOT_EQUAL" "Lcom/example/pathbinder/pathbinder/core/Comparison$Operator;" (.ref st_NOT_EQUAL) := Sta.start ev_NOT_EQUAL (Or.inr ⟨(ww hw 3 rfl), (ww hw 7 rfl)⟩)
  have E_NOT_EQUAL : Exa s s.heap st_NOT_EQUAL "com/example/pathbinder/pathbinder/core/Comparison$Operator" := Exa.start ev_NOT_EQUAL nn1
  obtain ⟨st_LESS, ev_LESS⟩ := exa_v nn2
  have S_LESS : Sta s s.heap "com/example/pathbinder/pathbinder/core/Comparison$Operator" "LESS" "Lcom/example/pathbinder/pathbinder/core/Comparison$Operator;" (.ref st_LESS) := Sta.start ev_LESS (Or.inr ⟨(ww hw 3 rfl), (ww hw 9 rfl)⟩)
  have E_LESS : Exa s s.heap st_LESS "com/example/pathbinder/pathbinder/core/Comparison$Operator" := Exa.start ev_LESS nn2
  obtain ⟨st_LESS_OR_EQUAL, ev_LESS_OR_EQUAL⟩ := exa_v nn3
  have S_LESS_OR_EQUAL : Sta s s.heap "com/example/pathbinder/pathbinder/core/Comparison$Operator" "LESS_OR_EQUAL" "Lcom/example/pathbinder/pathbinder/core/Comparison$Operator;" (.ref st_LESS_OR_EQUAL) := Sta.start ev_LESS_OR_EQUAL (Or.inr ⟨(ww hw 3 rfl), (ww hw 11 rfl)⟩)
  have E_LESS_OR_EQUAL : Exa s s.heap st_LESS_OR_EQUAL "com/example/pathbinder/pathbinder/core/Comparison$Operator" := Exa.start ev_LESS_OR_EQUAL nn3
  obtain ⟨st_GREATER, ev_GREATER⟩ := exa_v nn4
  have S_GREATER : Sta s s.heap "com/example/pathbinder/pathbinder/core/Comparison$Operator" "GREATER" "Lcom/example/pathbinder/pathbinder/core/Comparison$Operator;" (.ref st_GREATER) := Sta.start ev_GREATER (Or.inr ⟨(ww hw 3 rfl), (ww hw 13 rfl)⟩)
  have E_GREATER : Exa s s.heap st_GREATER "com/example/pathbinder/pathbinder/core/Comparison$Operator" := Exa.start ev_GREATER nn4
  obtain ⟨st_GREATER_OR_EQUAL, ev_GREATER_OR_EQUAL⟩ := exa_v nn5
  have S_GREATER_OR_EQUAL : Sta s s.heap "com/example/pathbinder/pathbinder/core/Comparison$Operator" "GREATER_OR_EQUAL" "Lcom/example/pathbinder/pathbinder/core/Comparison$Operator;" (.ref st_GREATER_OR_EQUAL) := Sta.start ev_GREATER_OR_EQUAL (Or.inr ⟨(ww hw 3 rfl), (ww hw 15 rfl)⟩)
  have E_GREATER_OR_EQUAL : Exa s s.heap st_GREATER_OR_EQUAL "com/example/pathbinder/pathbinder/core/Comparison$Operator" := Exa.start ev_GREATER_OR_EQUAL nn5
  have F_ordinal_EQUAL := own_fldI ev_EQUAL nn6
  have F_ordinal_NOT_EQUAL := own_fldI ev_NOT_EQUAL nn7
  have F_ordinal_LESS := own_fldI ev_LESS nn8
  have F_ordinal_GREATER := own_fldI ev_GREATER nn9
  have F_ordinal_GREATER_OR_EQUAL := own_fldI ev_GREATER_OR_EQUAL nn10
  have F_ordinal_LESS_OR_EQUAL := own_fldI ev_LESS_OR_EQUAL nn11
  have ne_EQUAL_NOT_EQUAL : st_EQUAL ≠ st_NOT_EQUAL := Fld.ne F_ordinal_EQUAL F_ordinal_NOT_EQUAL (by decide)
  have ne_EQUAL_LESS : st_EQUAL ≠ st_LESS := Fld.ne F_ordinal_EQUAL F_ordinal_LESS (by decide)
  have ne_EQUAL_LESS_OR_EQUAL : st_EQUAL ≠ st_LESS_OR_EQUAL := Fld.ne F_ordinal_EQUAL F_ordinal_LESS_OR_EQUAL (by decide)
  have ne_EQUAL_GREATER : st_EQUAL ≠ st_GREATER := Fld.ne F_ordinal_EQUAL F_ordinal_GREATER (by decide)
  have ne_EQUAL_GREATER_OR_EQUAL : st_EQUAL ≠ st_GREATER_OR_EQUAL := Fld.ne F_ordinal_EQUAL F_ordinal_GREATER_OR_EQUAL (by decide)
  have ne_NOT_EQUAL_LESS : st_NOT_EQUAL ≠ st_LESS := Fld.ne F_ordinal_NOT_EQUAL F_ordinal_LESS (by decide)
  have ne_NOT_EQUAL_LESS_OR_EQUAL : st_NOT_EQUAL ≠ st_LESS_OR_EQUAL := Fld.ne F_ordinal_NOT_EQUAL F_ordinal_LESS_OR_EQUAL (by decide)
  have ne_NOT_EQUAL_GREATER : st_NOT_EQUAL ≠ st_GREATER := Fld.ne F_ordinal_NOT_EQUAL F_ordinal_GREATER (by decide)
  have ne_NOT_EQUAL_GREATER_OR_EQUAL : st_NOT_EQUAL ≠ st_GREATER_OR_EQUAL := Fld.ne F_ordinal_NOT_EQUAL F_ordinal_GREATER_OR_EQUAL (by decide)
  have ne_LESS_LESS_OR_EQUAL : st_LESS ≠ st_LESS_OR_EQUAL := Fld.ne F_ordinal_LESS F_ordinal_LESS_OR_EQUAL (by decide)
  have ne_LESS_GREATER : st_LESS ≠ st_GREATER := Fld.ne F_ordinal_LESS F_ordinal_GREATER (by decide)
  have ne_LESS_GREATER_OR_EQUAL : st_LESS ≠ st_GREATER_OR_EQUAL := Fld.ne F_ordinal_LESS F_ordinal_GREATER_OR_EQUAL (by decide)
  have ne_LESS_OR_EQUAL_GREATER : st_LESS_OR_EQUAL ≠ st_GREATER := Fld.ne F_ordinal_LESS_OR_EQUAL F_ordinal_GREATER (by decide)
  have ne_LESS_OR_EQUAL_GREATER_OR_EQUAL : st_LESS_OR_EQUAL ≠ st_GREATER_OR_EQUAL := Fld.ne F_ordinal_LESS_OR_EQUAL F_ordinal_GREATER_OR_EQUAL (by decide)
  have ne_GREATER_GREATER_OR_EQUAL : st_GREATER ≠ st_GREATER_OR_EQUAL := Fld.ne F_ordinal_GREATER F_ordinal_GREATER_OR_EQUAL (by decide)
  obtain ⟨n, o, h1, h2, h3, _, L, rfl, ⟨rfl, N⟩, hq⟩ := rm0 l s _ hw tables_1 i0 i1 i2 st_EQUAL st_NOT_EQUAL st_LESS st_LESS_OR_EQUAL st_GREATER st_GREATER_OR_EQUAL s.heap s.heap.size (Nat.le_refl _) S_EQUAL S_NOT_EQUAL S_LESS S_LESS_OR_EQUAL S_GREATER S_GREATER_OR_EQUAL E_EQUAL E_NOT_EQUAL E_LESS E_LESS_OR_EQUAL E_GREATER E_GREATER_OR_EQUAL F_ordinal_EQUAL F_ordinal_NOT_EQUAL F_ordinal_LESS F_ordinal_LESS_OR_EQUAL F_ordinal_GREATER F_ordinal_GREATER_OR_EQUAL ne_EQUAL_NOT_EQUAL ne_EQUAL_LESS ne_EQUAL_LESS_OR_EQUAL ne_EQUAL_GREATER ne_EQUAL_GREATER_OR_EQUAL ne_NOT_EQUAL_LESS ne_NOT_EQUAL_LESS_OR_EQUAL ne_NOT_EQUAL_GREATER ne_NOT_EQUAL_GREATER_OR_EQUAL ne_LESS_LESS_OR_EQUAL ne_LESS_GREATER ne_LESS_GREATER_OR_EQUAL ne_LESS_OR_EQUAL_GREATER ne_LESS_OR_EQUAL_GREATER_OR_EQUAL ne_GREATER_GREATER_OR_EQUAL p e ha hc hk s m _ below hf ((Spec.applies_iff_loose hf).mp happ).1 ⟨rfl, State.Warmed39.refl s, rfl⟩ trivial
  refine ⟨n, _, h1, h2, h3, hpost _ _ _ _ _ _ ⟨Cond.after_iff.mpr rfl, Cond.after_iff.mpr (eq_i res_at (Term.int_eval (1)) rfl), trivial⟩ ⟨hq.1, hq.2.1, (hq.2.2.sift fun y hy => Or.inr (N y hy)).mono (by decide) (by decide)⟩⟩
theorem main_1_1 : Claimed_1_1 := comes_1 fun _ _ _ _ _ _ h hF => ⟨h.1, hF⟩
theorem main_1_2 : Claimed_1_2 := comes_1 fun _ _ _ _ _ _ h hF => ⟨h.2.1, hF⟩
end Jvm.Pilot.@@N@@
namespace Jvm.Pilot.@@N@@
open Jvm Jvm.ClassFile Sem Op Lib Jvm.Free Jvm.Stand Jvm.Pilot.@@N@@.Jvm.D
/-! MADE BY PROGRAM (witnessworld.py) out of the Statement's table words and the real class files: 13 classes; the members and pool entries that the words name. The judged class is class 1, her method 1. -/
namespace start1
open Jvm.ClassFile
def u (s : String) : CpInfo := .utf8 (stringToUtf16 s)
/-- a pool by its gaps: so many unusable entries, then the entry; so many at the end -/
def gap : Nat → List CpInfo → List CpInfo
  | 0, r => r
  | n + 1, r => .unusable :: gap n r
def poolList (es : List (Nat × CpInfo)) (last : Nat) : List CpInfo := es.foldr (fun e r => gap e.1 (e.2 :: r)) (gap last [])
def pool (es : List (Nat × CpInfo)) (last : Nat) : Array CpInfo := ⟨poolList es last⟩
def fileOf (pool : Array CpInfo) (this : Nat) (attrs : Array Attribute := #[]) (ms : Array MethodInfo := #[]) (fl : Nat := 33) (sup : Nat := 0) (ifs : Array Nat := #[]) (fds : Array FieldInfo := #[]) : ClassFile where
  minorVersion := 0
  majorVersion := 65
  constantPool := pool
  accessFlags := fl
  thisClass := this
  superClass := sup
  interfaces := ifs
  fields := fds
  methods := ms
  attributes := attrs
def plain (name : String) (sup : Option ClassId) : Class where
  name := name
  kind := .ordinary
  loader := none
  accessFlags := 33
  super := sup
  interfaces := #[]
  cf := none
  fields := #[]
  methods := #[]
  instanceTypes := #[]
  staticTypes := #[]
  resolved := #[]
  callSites := []
  init := .initialized
  statics := none
  mirror := none

def pool0 : Array CpInfo := pool [(5, u "<init>"), (0, u "()V"), (1, .class_ 10), (1, u "java/lang/Object")] 113

def k0m0 : Method := { name := "<init>", desc := "()V", sig := { parameters := [], returnType := none }, accessFlags := 1, code := none }
/-- java/lang/Object -/
def k0 : Class := { plain "java/lang/Object" none with
  accessFlags := 33
  interfaces := #[]
  cf := some (fileOf pool0 8 #[] #[{ accessFlags := 1, nameIndex := 5, descriptorIndex := 6, attributes := #[] }] 33 0 #[] #[])
  fields := #[]
  methods := #[k0m0]
  instanceTypes := #[]
  staticTypes := #[]
  resolved := Array.replicate 124 none
  statics := none }

def pool1 : Array CpInfo := pool [(2, .class_ 4), (1, u "java/lang/Object"), (0, u "<init>"), (0, u "()V"), (0, .class_ 8), (0, u "com/example/pathbinder/pathbinder/core/Comparison$Operator"), (0, .fieldref 7 10), (0, .nameAndType 11 12), (0, u "EQUAL"), (0, u "Lcom/example/pathbinder/pathbinder/core/Comparison$Operator;"), (0, .fieldref 7 14), (0, .nameAndType 15 12), (0, u "NOT_EQUAL"), (0, .fieldref 7 17), (0, .nameAndType 18 12), (0, u "LESS"), (0, .fieldref 7 20), (0, .nameAndType 21 12), (0, u "LESS_OR_EQUAL"), (0, .fieldref 7 23), (0, .nameAndType 24 12), (0, u "GREATER"), (0, .fieldref 7 26), (0, .nameAndType 27 12), (0, u "GREATER_OR_EQUAL"), (0, .integer 2147483647), (0, .methodref 7 30), (0, .nameAndType 31 32), (0, u "isEquality"), (0, u "()Z"), (0, .methodref 7 34), (0, .nameAndType 35 36), (0, u "reversed"), (0, u "()Lcom/example/pathbinder/pathbinder/core/Comparison$Operator;"), (0, .methodref 7 38), (0, .nameAndType 39 40), (0, u "holds"), (0, u "(DD)Z"), (0, .class_ 42), (0, u "com/example/pathbinder/pathbinder/core/OperatorIsEqualityPinLaw"), (2, u "law"), (0, u "(III)Z")] 9

def k1m0 : Method := { name := "<init>", desc := "()V", sig := { parameters := [], returnType := none }, accessFlags := 1, code := none }
def k1c1 : Code := { maxStack := 6, maxLocals := 12, code := code, exceptionTable := #[], attributes := #[] }
def k1m1 : Method := { name := "law", desc := "(III)Z", sig := { parameters := [.int, .int, .int], returnType := some .boolean }, accessFlags := 9, code := some k1c1 }
/-- com/example/pathbinder/pathbinder/core/OperatorIsEqualityPinLaw -/
def k1 : Class := { plain "com/example/pathbinder/pathbinder/core/OperatorIsEqualityPinLaw" (some 0) with
  accessFlags := 49
  interfaces := #[]
  cf := some (fileOf pool1 41 #[] #[{ accessFlags := 1, nameIndex := 5, descriptorIndex := 6, attributes := #[] }, { accessFlags := 9, nameIndex := 45, descriptorIndex := 46, attributes := #[] }] 49 2 #[] #[])
  fields := #[]
  methods := #[k1m0, k1m1]
  instanceTypes := #[]
  staticTypes := #[]
  resolved := Array.replicate 56 none
  statics := none }

def pool2 : Array CpInfo := pool [(1, .class_ 2), (0, u "java/lang/constant/Constable"), (0, .class_ 4), (0, u "java/lang/Object")] 6

/-- java/lang/constant/Constable -/
def k2 : Class := { plain "java/lang/constant/Constable" (some 0) with
  accessFlags := 1537
  interfaces := #[]
  cf := some (fileOf pool2 1 #[] #[] 1537 3 #[] #[])
  fields := #[]
  methods := #[]
  instanceTypes := #[]
  staticTypes := #[]
  resolved := Array.replicate 11 none
  statics := none }

def pool3 : Array CpInfo := pool [(1, .class_ 2), (0, u "java/lang/Comparable"), (0, .class_ 4), (0, u "java/lang/Object")] 7

/-- java/lang/Comparable -/
def k3 : Class := { plain "java/lang/Comparable" (some 0) with
  accessFlags := 1537
  interfaces := #[]
  cf := some (fileOf pool3 1 #[] #[] 1537 3 #[] #[])
  fields := #[]
  methods := #[]
  instanceTypes := #[]
  staticTypes := #[]
  resolved := Array.replicate 12 none
  statics := none }

def pool4 : Array CpInfo := pool [(1, .class_ 2), (0, u "java/io/Serializable"), (0, .class_ 4), (0, u "java/lang/Object")] 2

/-- java/io/Serializable -/
def k4 : Class := { plain "java/io/Serializable" (some 0) with
  accessFlags := 1537
  interfaces := #[]
  cf := some (fileOf pool4 1 #[] #[] 1537 3 #[] #[])
  fields := #[]
  methods := #[]
  instanceTypes := #[]
  staticTypes := #[]
  resolved := Array.replicate 7 none
  statics := none }

def pool5 : Array CpInfo := pool [(2, .class_ 4), (1, u "java/lang/Enum"), (0, u "name"), (0, u "Ljava/lang/String;"), (0, .fieldref 2 8), (0, .nameAndType 9 10), (0, u "ordinal"), (0, u "I"), (1, .class_ 14), (1, u "java/lang/Object"), (4, u "hash"), (86, .class_ 108), (1, u "java/lang/Enum$EnumDesc"), (2, .class_ 112), (0, u "java/lang/constant/Constable"), (0, .class_ 114), (0, u "java/lang/Comparable"), (0, .class_ 116), (0, u "java/io/Serializable"), (9, u "()I")] 77

def k5c0 : Code := { maxStack := 1, maxLocals := 1, code := jdk_37_method_2_code, exceptionTable := #[], attributes := #[] }
def k5m0 : Method := { name := "ordinal", desc := "()I", sig := { parameters := [], returnType := some .int }, accessFlags := 17, code := some k5c0 }
/-- java/lang/Enum -/
def k5 : Class := { plain "java/lang/Enum" (some 0) with
  accessFlags := 1057
  interfaces := #[2, 3, 4]
  cf := some (fileOf pool5 2 #[.nestMembers #[106]] #[{ accessFlags := 17, nameIndex := 9, descriptorIndex := 126, attributes := #[] }] 1057 12 #[111, 113, 115] #[{ accessFlags := 18, nameIndex := 5, descriptorIndex := 6, attributes := #[] }, { accessFlags := 18, nameIndex := 9, descriptorIndex := 10, attributes := #[] }, { accessFlags := 2, nameIndex := 19, descriptorIndex := 10, attributes := #[] }])
  fields := #[{ name := "name", type := (.object "java/lang/String"), accessFlags := 18, slot := 0, constantValue := 0 }, { name := "ordinal", type := .int, accessFlags := 18, slot := 1, constantValue := 0 }, { name := "hash", type := .int, accessFlags := 2, slot := 2, constantValue := 0 }]
  methods := #[k5m0]
  instanceTypes := #[(.object "java/lang/String"), .int, .int]
  staticTypes := #[]
  resolved := Array.replicate 204 none
  statics := none }

def pool6 : Array CpInfo := pool [(1, .class_ 2), (0, u "com/example/pathbinder/pathbinder/core/Comparison$Operator"), (0, .fieldref 1 4), (0, .nameAndType 5 6), (0, u "EQUAL"), (0, u "Lcom/example/pathbinder/pathbinder/core/Comparison$Operator;"), (0, .fieldref 1 8), (0, .nameAndType 9 6), (0, u "NOT_EQUAL"), (0, .fieldref 1 11), (0, .nameAndType 12 6), (0, u "LESS"), (0, .fieldref 1 14), (0, .nameAndType 15 6), (0, u "LESS_OR_EQUAL"), (0, .fieldref 1 17), (0, .nameAndType 18 6), (0, u "GREATER"), (0, .fieldref 1 20), (0, .nameAndType 21 6), (0, u "GREATER_OR_EQUAL"), (2, u "$VALUES"), (0, u "[Lcom/example/pathbinder/pathbinder/core/Comparison$Operator;"), (6, .class_ 34), (1, u "java/lang/Enum"), (6, .methodref 1 42), (0, .nameAndType 43 44), (0, u "ordinal"), (0, u "()I"), (23, u "isEquality"), (0, u "()Z"), (1, u "holds"), (1, u "(DD)Z"), (0, u "reversed"), (0, u "()Lcom/example/pathbinder/pathbinder/core/Comparison$Operator;"), (5, .class_ 82), (0, u "com/example/pathbinder/pathbinder/core/Comparison")] 2

def k6c0 : Code := { maxStack := 2, maxLocals := 1, code := prog_22_method_4_code, exceptionTable := #[], attributes := #[] }
def k6m0 : Method := { name := "isEquality", desc := "()Z", sig := { parameters := [], returnType := some .boolean }, accessFlags := 0, code := some k6c0 }
def k6c1 : Code := { maxStack := 4, maxLocals := 5, code := prog_22_method_6_code, exceptionTable := #[], attributes := #[] }
def k6m1 : Method := { name := "holds", desc := "(DD)Z", sig := { parameters := [.double, .double], returnType := some .boolean }, accessFlags := 0, code := some k6c1 }
def k6c2 : Code := { maxStack := 4, maxLocals := 1, code := prog_22_method_7_code, exceptionTable := #[], attributes := #[] }
def k6m2 : Method := { name := "reversed", desc := "()Lcom/example/pathbinder/pathbinder/core/Comparison$Operator;", sig := { parameters := [], returnType := some (.object "com/example/pathbinder/pathbinder/core/Comparison$Operator") }, accessFlags := 0, code := some k6c2 }
/-- com/example/pathbinder/pathbinder/core/Comparison$Operator -/
def k6 : Class := { plain "com/example/pathbinder/pathbinder/core/Comparison$Operator" (some 5) with
  accessFlags := 16432
  interfaces := #[]
  cf := some (fileOf pool6 1 #[.nestHost 81] #[{ accessFlags := 0, nameIndex := 68, descriptorIndex := 69, attributes := #[] }, { accessFlags := 0, nameIndex := 71, descriptorIndex := 73, attributes := #[] }, { accessFlags := 0, nameIndex := 74, descriptorIndex := 75, attributes := #[] }] 16432 32 #[] #[{ accessFlags := 16409, nameIndex := 5, descriptorIndex := 6, attributes := #[] }, { accessFlags := 16409, nameIndex := 9, descriptorIndex := 6, attributes := #[] }, { accessFlags := 16409, nameIndex := 12, descriptorIndex := 6, attributes := #[] }, { accessFlags := 16409, nameIndex := 15, descriptorIndex := 6, attributes := #[] }, { accessFlags := 16409, nameIndex := 18, descriptorIndex := 6, attributes := #[] }, { accessFlags := 16409, nameIndex := 21, descriptorIndex := 6, attributes := #[] }, { accessFlags := 4122, nameIndex := 24, descriptorIndex := 25, attributes := #[] }])
  fields := #[{ name := "EQUAL", type := (.object "com/example/pathbinder/pathbinder/core/Comparison$Operator"), accessFlags := 16409, slot := 0, constantValue := 0 }, { name := "NOT_EQUAL", type := (.object "com/example/pathbinder/pathbinder/core/Comparison$Operator"), accessFlags := 16409, slot := 1, constantValue := 0 }, { name := "LESS", type := (.object "com/example/pathbinder/pathbinder/core/Comparison$Operator"), accessFlags := 16409, slot := 2, constantValue := 0 }, { name := "LESS_OR_EQUAL", type := (.object "com/example/pathbinder/pathbinder/core/Comparison$Operator"), accessFlags := 16409, slot := 3, constantValue := 0 }, { name := "GREATER", type := (.object "com/example/pathbinder/pathbinder/core/Comparison$Operator"), accessFlags := 16409, slot := 4, constantValue := 0 }, { name := "GREATER_OR_EQUAL", type := (.object "com/example/pathbinder/pathbinder/core/Comparison$Operator"), accessFlags := 16409, slot := 5, constantValue := 0 }, { name := "$VALUES", type := (.array (.object "com/example/pathbinder/pathbinder/core/Comparison$Operator")), accessFlags := 4122, slot := 6, constantValue := 0 }]
  methods := #[k6m0, k6m1, k6m2]
  instanceTypes := #[(.object "java/lang/String"), .int, .int]
  staticTypes := #[(.object "com/example/pathbinder/pathbinder/core/Comparison$Operator"), (.object "com/example/pathbinder/pathbinder/core/Comparison$Operator"), (.object "com/example/pathbinder/pathbinder/core/Comparison$Operator"), (.object "com/example/pathbinder/pathbinder/core/Comparison$Operator"), (.object "com/example/pathbinder/pathbinder/core/Comparison$Operator"), (.object "com/example/pathbinder/pathbinder/core/Comparison$Operator"), (.array (.object "com/example/pathbinder/pathbinder/core/Comparison$Operator"))]
  resolved := Array.replicate 85 none
  statics := some 0 }

def pool7 : Array CpInfo := pool [(1, u "java/lang/Cloneable"), (0, .class_ 1), (0, u "java/lang/Object"), (0, .class_ 3)] 3

/-- java/lang/Cloneable -/
def k7 : Class := { plain "java/lang/Cloneable" (some 0) with
  accessFlags := 1537
  interfaces := #[]
  cf := some (fileOf pool7 2 #[] #[] 1537 4 #[] #[])
  fields := #[]
  methods := #[]
  instanceTypes := #[]
  staticTypes := #[]
  resolved := Array.replicate 8 none
  statics := none }

/-- the primitive byte -/
def k8 : Class := { plain "byte" none with kind := .primitive 'B', accessFlags := 0x411 }
/-- [B -/
def k9 : Class := { plain "[B" (some 0) with kind := .array 8 .byte, interfaces := #[7, 4], accessFlags := 1041 }

/-- the primitive int -/
def k10 : Class := { plain "int" none with kind := .primitive 'I', accessFlags := 0x411 }
/-- [I -/
def k11 : Class := { plain "[I" (some 0) with kind := .array 10 .int, interfaces := #[7, 4], accessFlags := 1041 }

/-- [Lcom/example/pathbinder/pathbinder/core/Comparison$Operator; -/
def k12 : Class := { plain "[Lcom/example/pathbinder/pathbinder/core/Comparison$Operator;" (some 0) with kind := .array 6 (.object "com/example/pathbinder/pathbinder/core/Comparison$Operator"), interfaces := #[7, 4], accessFlags := 1041 }

def heap : Heap := #[{ cls := 6, slots := #[.ref 1, .ref 2, .ref 3, .ref 4, .ref 5, .ref 6, .null], vm := .statics 6 },
  { cls := 6, slots := #[.null, .int 0, .int 0], vm := .none },
  { cls := 6, slots := #[.null, .int 1, .int 0], vm := .none },
  { cls := 6, slots := #[.null, .int 2, .int 0], vm := .none },
  { cls := 6, slots := #[.null, .int 3, .int 0], vm := .none },
  { cls := 6, slots := #[.null, .int 4, .int 0], vm := .none },
  { cls := 6, slots := #[.null, .int 5, .int 0], vm := .none }]
def classes : Array Class := #[k0, k1, k2, k3, k4, k5, k6, k7, k8, k9, k10, k11, k12]
def interned : List (Array UInt16 × Addr) := []
def slotsUsed : Nat := 25
def theMethod : MethodId := ⟨1, 1⟩
def args0 : Array Value := #[.int 1, .int 2, .int 3]
def aboutOver (below : List Frame) : State where
  vm := { classes := classes, interned := interned.toArray }
  heap := heap
  slotsUsed := slotsUsed
  threads := #[{ frames := .invoking theMethod args0 :: below }]
def below0 : List Frame := [.native { method := ⟨0, 0⟩, args := #[] }]
def about1 : State := aboutOver below0
def p0 : Program := .bare "" "" ""
def e0 : Env := launch0.env 0 0 0
theorem w_frames : about1.frames = Frame.invoking theMethod args0 :: below0 := rfl
set_option maxRecDepth 65536 in
theorem w_args : argsFit about1.vm theMethod args0 = true := by decide +kernel
set_option maxRecDepth 65536 in
theorem w_heap : heapFits about1 = true := by decide +kernel
set_option maxRecDepth 65536 in
theorem w_runnable : about1.curStatus? = some .runnable := by decide +kernel
set_option maxRecDepth 65536 in
theorem w_alone : about1.alone = true := by decide +kernel
set_option maxRecDepth 65536 in
theorem w_named : about1.methodNamed? x = some theMethod := by decide +kernel
set_option maxRecDepth 65536 in
theorem w_hears : about1.hears theMethod below0 = true := by decide +kernel
set_option maxRecDepth 65536 in
theorem w_ripe : about1.ripe theMethod args0 below0 = true := by decide +kernel
theorem w_running : about1.status = .running := rfl
set_option maxRecDepth 65536 in
theorem w_room : about1.hasRoom e0.platform room_1 = true :=
  launch0.hasRoom_least _ room_1 (by decide +kernel) (by decide +kernel) (by decide +kernel) (by decide +kernel) (by decide +kernel) (by decide +kernel)
theorem allAtoms_all (ts : List Jvm.Cond) (a : Array Jvm.Value) (st : Jvm.State) : (allAtoms ts).before a st = ts.all (fun c => c.before a st) := by
  induction ts with
  | nil => rfl
  | cons c t ih =>
    show (Jvm.Cond.and c (allAtoms t)).before a st = _
    rw [Jvm.Cond.before_and, ih, List.all_cons]
def words1 : List Jvm.Cond := Jvm.Cond.code x code maxLocals ret :: tables_1
/-- a 'code' word, met by the world's own term for the bytes: nothing is compared byte by byte -/
theorem code_word {y : MethodName} {bytes : ByteArray} {mx : Nat} {rt : Option FieldType} {a : Array Value} {s : State} {m : MethodId} {meth : Method} {c : Code} (h1 : s.methodNamed? y = some m) (h2 : s.vm.method? m = some meth) (h3 : meth.code = some c) (h4 : c.code = bytes)
    (h5 : (c.maxLocals == mx && c.exceptionTable.isEmpty && decide (c.maxStack ≤ mostOperands) && decide (meth.sig.returnType = rt) && !meth.locks && decide (parseMethodDescriptor y.desc = some meth.sig)) = true) : (Jvm.Cond.code y bytes mx rt).before a s = true := by
  simp only [Bool.and_eq_true, beq_iff_eq, Bool.not_eq_true', decide_eq_true_eq] at h5
  obtain ⟨⟨⟨⟨⟨g1, g2⟩, g3⟩, g4⟩, g5⟩, g6⟩ := h5
  simp [Cond.before, Cond.holds, Cond.value, h1, h2, h3, h4, g1, g2, g3, g4, g5, g6]
def isCode : Jvm.Cond → Bool
  | .code _ _ _ _ => true
  | _ => false
theorem all_split {L : List Jvm.Cond} {P : Jvm.Cond → Bool} (h1 : L.all (fun c => isCode c || P c) = true) (h2 : ∀ c ∈ L.filter isCode, P c = true) : L.all P = true := by
  refine List.all_eq_true.mpr fun c hc => ?_
  have h := List.all_eq_true.mp h1 c hc
  rcases Bool.eq_false_or_eq_true (isCode c) with hi | hi
  · exact h2 c (List.mem_filter.mpr ⟨hc, hi⟩)
  · simpa [hi] using h
set_option maxRecDepth 65536 in
theorem w_c0 : (Jvm.Cond.code x code maxLocals ret).before args0 about1 = true := code_word (m := ⟨1, 1⟩) (meth := k1m1) (c := k1c1) (by decide +kernel) rfl rfl rfl (by decide +kernel)
set_option maxRecDepth 65536 in
theorem w_c1 : (Jvm.Cond.code ({ cls := "com/example/pathbinder/pathbinder/core/Comparison$Operator", name := "isEquality", desc := "()Z" } : Jvm.MethodName) prog_22_method_4_code (1 : Nat) (Option.some Jvm.ClassFile.FieldType.boolean)).before args0 about1 = true := code_word (m := ⟨6, 0⟩) (meth := k6m0) (c := k6c0) (by decide +kernel) rfl rfl rfl (by decide +kernel)
set_option maxRecDepth 65536 in
theorem w_c2 : (Jvm.Cond.code ({ cls := "com/example/pathbinder/pathbinder/core/Comparison$Operator", name := "reversed", desc := "()Lcom/example/pathbinder/pathbinder/core/Comparison$Operator;" } : Jvm.MethodName) prog_22_method_7_code (1 : Nat) (Option.some (Jvm.ClassFile.FieldType.object "com/example/pathbinder/pathbinder/core/Comparison$Operator"))).before args0 about1 = true := code_word (m := ⟨6, 2⟩) (meth := k6m2) (c := k6c2) (by decide +kernel) rfl rfl rfl (by decide +kernel)
set_option maxRecDepth 65536 in
theorem w_c3 : (Jvm.Cond.code ({ cls := "java/lang/Enum", name := "ordinal", desc := "()I" } : Jvm.MethodName) jdk_37_method_2_code (1 : Nat) (Option.some Jvm.ClassFile.FieldType.int)).before args0 about1 = true := code_word (m := ⟨5, 0⟩) (meth := k5m0) (c := k5c0) (by decide +kernel) rfl rfl rfl (by decide +kernel)
set_option maxRecDepth 65536 in
theorem w_c4 : (Jvm.Cond.code ({ cls := "com/example/pathbinder/pathbinder/core/Comparison$Operator", name := "holds", desc := "(DD)Z" } : Jvm.MethodName) prog_22_method_6_code (5 : Nat) (Option.some Jvm.ClassFile.FieldType.boolean)).before args0 about1 = true := code_word (m := ⟨6, 1⟩) (meth := k6m1) (c := k6c1) (by decide +kernel) rfl rfl rfl (by decide +kernel)
def codes1 : List Jvm.Cond := [Jvm.Cond.code x code maxLocals ret, Jvm.Cond.code ({ cls := "com/example/pathbinder/pathbinder/core/Comparison$Operator", name := "isEquality", desc := "()Z" } : Jvm.MethodName) prog_22_method_4_code (1 : Nat) (Option.some Jvm.ClassFile.FieldType.boolean), Jvm.Cond.code ({ cls := "com/example/pathbinder/pathbinder/core/Comparison$Operator", name := "reversed", desc := "()Lcom/example/pathbinder/pathbinder/core/Comparison$Operator;" } : Jvm.MethodName) prog_22_method_7_code (1 : Nat) (Option.some (Jvm.ClassFile.FieldType.object "com/example/pathbinder/pathbinder/core/Comparison$Operator")), Jvm.Cond.code ({ cls := "java/lang/Enum", name := "ordinal", desc := "()I" } : Jvm.MethodName) jdk_37_method_2_code (1 : Nat) (Option.some Jvm.ClassFile.FieldType.int), Jvm.Cond.code ({ cls := "com/example/pathbinder/pathbinder/core/Comparison$Operator", name := "holds", desc := "(DD)Z" } : Jvm.MethodName) prog_22_method_6_code (5 : Nat) (Option.some Jvm.ClassFile.FieldType.boolean)]
set_option maxRecDepth 65536 in
theorem codes_eq : words1.filter isCode = codes1 := rfl
theorem w_codes : ∀ c ∈ words1.filter isCode, c.before args0 about1 = true := by
  rw [codes_eq]
  intro c hc
  simp only [codes1, List.mem_cons, List.not_mem_nil, or_false] at hc
  rcases hc with rfl | rfl | rfl | rfl | rfl
  · exact w_c0
  · exact w_c1
  · exact w_c2
  · exact w_c3
  · exact w_c4
set_option maxRecDepth 65536 in
theorem w_t1 : (words1.take 24).all (fun c => isCode c || c.before args0 about1) = true := by decide +kernel
set_option maxRecDepth 65536 in
theorem w_t2 : (words1.drop 24).all (fun c => isCode c || c.before args0 about1) = true := by decide +kernel
theorem w_tables : (allAtoms (Jvm.Cond.code x code maxLocals ret :: tables_1)).before args0 about1 = true := by
  rw [allAtoms_all]
  show words1.all (fun c => c.before args0 about1) = true
  refine all_split ?_ w_codes
  rw [← List.take_append_drop 24 words1, List.all_append, w_t1, w_t2]
  rfl
set_option maxRecDepth 65536 in
theorem w_case : (Jvm.Cond.and given_1 narrow_1).before args0 about1 = true := by decide +kernel
theorem w_applies : (headSpec (Jvm.Cond.code x code maxLocals ret :: tables_1) room_1).applies x e0.platform about1 = true :=
  (Spec.applies_iff w_frames).mpr ⟨w_running, w_runnable, w_alone, w_named, w_hears, w_ripe, w_room, w_tables⟩
theorem atStart : AtStart classFile x code maxLocals ret World_1 tables_1 room_1 Calls_1 rest_1 Pre_1 launch0 p0 e0 about1 theMethod args0 below0 :=
  ⟨lists_1, trivial, launch0.admits_env _ _ _, launch0.least_env, fairChoices_fair.cas, fairChoices_fair.clock, w_frames, w_args, w_heap, w_applies, trivial, trivial, w_case⟩
end start1
theorem witness_1 : WitnessClaimed_1 := ⟨start1.p0, start1.e0, start1.about1, start1.theMethod, start1.args0, start1.below0, start1.atStart⟩
end Jvm.Pilot.@@N@@
