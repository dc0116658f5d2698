import JvmDerived
import JvmDerived.Pilot.@@N@@Statement
import JvmDerived.Pilot.@@N@@Code
set_option linter.unusedVariables false
set_option linter.unusedSimpArgs false
namespace Jvm.RoadKit
open Sem ClassFile Op Lib Jvm.Stand Jvm.Free Jvm.LawKit
section New
variable {p : Program} {l : Launch} {e : Env} {R : Room} {s : State} {m : MethodId} {args : Array Value} {below : List Frame} {meth : Method} {c : Code} {T : State} {locs : List Loc} {cells slots : Nat}
theorem retI (X : Stand p l e R s m args below meth c T locs cells slots) (hx : p.tables.exec = Jvm.exec) {pc : Nat} {Ls : Array Slot} {z : Int32} {rest : List Value} (hret : meth.sig.returnType = some .int) (hd : decode c.code pc = .ok (.ireturn, 1)) {fs : List Frame}
    (hl : ∀ (f : JFrame) (acts : List Action), f.method = m → f.locked = none → f.entered = [] → (doReturn e (T.setTop f) acts (some (.int z))).1 = T.setFrames fs) : Steps p.tables e below (T.setTop (mkF m pc Ls (.int z :: rest))) (T.setFrames fs) :=
  retOut X hx hret rfl (Or.inl ⟨rfl, Or.inl rfl, z, rfl⟩) hd hl
theorem retJ (X : Stand p l e R s m args below meth c T locs cells slots) (hx : p.tables.exec = Jvm.exec) {pc : Nat} {Ls : Array Slot} {z : Int64} {rest : List Value} (hret : meth.sig.returnType = some .long) (hd : decode c.code pc = .ok (.lreturn, 1)) {fs : List Frame}
    (hl : ∀ (f : JFrame) (acts : List Action), f.method = m → f.locked = none → f.entered = [] → (doReturn e (T.setTop f) acts (some (.long z))).1 = T.setFrames fs) : Steps p.tables e below (T.setTop (mkF m pc Ls (.long z :: rest))) (T.setFrames fs) :=
  retOut X hx hret rfl (Or.inr (Or.inl ⟨rfl, rfl, z, rfl⟩)) hd hl
theorem retA (X : Stand p l e R s m args below meth c T locs cells slots) (hx : p.tables.exec = Jvm.exec) {pc : Nat} {Ls : Array Slot} {w : Value} {t : FieldType} {rest : List Value} (hret : meth.sig.returnType = some t) (hd : decode c.code pc = .ok (.areturn, 1)) {fs : List Frame}
    (hl : ∀ (f : JFrame) (acts : List Action), f.method = m → f.locked = none → f.entered = [] → (doReturn e (T.setTop f) acts (some w)).1 = T.setFrames fs) (ht : t.isReference = true) (hw : w.isRef = true) : Steps p.tables e below (T.setTop (mkF m pc Ls (w :: rest))) (T.setFrames fs) :=
  retOut X hx hret (by cases t <;> first | rfl | (cases ht; done)) (Or.inr (Or.inr (Or.inr (Or.inr ⟨rfl, ht, hw⟩)))) hd hl
/-- from the state S on, the body runs to its end and leaves what Q says -/
def Gz (p : Program) (e : Env) (below : List Frame) (s : State) (C N : Nat) (Q : Option Value → Heap → List Loc → Prop) (S : State) : Prop :=
  ∃ s₂ o, Steps p.tables e below S s₂ ∧ s₂.status = .running ∧ Ended s₂ below o ∧ ∃ v L, o = .returned v ∧ Q v s₂.heap L ∧ FrameEnd s o s₂ L C N
variable {C N : Nat} {Q : Option Value → Heap → List Loc → Prop} {S S' : State}
theorem Gz.st (k : ∀ t, Steps p.tables e below S' t → Steps p.tables e below S t) (h : Gz p e below s C N Q S') : Gz p e below s C N Q S := by
  obtain ⟨s₂, o, h1, h2⟩ := h
  exact ⟨s₂, o, k _ h1, h2⟩
theorem Gz.tr (k : Steps p.tables e below S S') (h : Gz p e below s C N Q S') : Gz p e below s C N Q S := by
  obtain ⟨s₂, o, h1, h2⟩ := h
  exact ⟨s₂, o, k.trans h1, h2⟩
variable {pc : Nat} {Ls : Array Slot} {st : List Value} {Z : State} {a0 : Array Value} {hh : Heap}
theorem Gz.iloadN (n : Nat) {k : Fin 4} {v : Int32} (X : Stand p l e R s m args below meth c T locs cells slots) (hx : p.tables.exec = Jvm.exec) (hd : decode c.code pc = .ok (.iload_n k, 1)) (hl : Ls[k.val]? = some (.val (.int v))) (q : pc + 1 = n) (h : Gz p e below s C N Q (T.setTop (mkF m n Ls (.int v :: st)))) : Gz p e below s C N Q (T.setTop (mkF m pc Ls st)) := by subst q; exact Gz.st (fun t k => XS.iloadN X.here hx rfl hd hl k) h
theorem Gz.iload (n : Nat) {k : Nat} {v : Int32} (X : Stand p l e R s m args below meth c T locs cells slots) (hx : p.tables.exec = Jvm.exec) (hd : decode c.code pc = .ok (.iload k, 2)) (hl : Ls[k]? = some (.val (.int v))) (q : pc + 2 = n) (h : Gz p e below s C N Q (T.setTop (mkF m n Ls (.int v :: st)))) : Gz p e below s C N Q (T.setTop (mkF m pc Ls st)) := by subst q; exact Gz.st (fun t k => XS.iload X.here hx rfl hd hl k) h
theorem Gz.istoreN (n : Nat) (l' : Array Slot) {k : Fin 4} {v : Int32} (X : Stand p l e R s m args below meth c T locs cells slots) (hx : p.tables.exec = Jvm.exec) (hd : decode c.code pc = .ok (.istore_n k, 1)) (hl : storeLocals Ls k.val (.int v) = some l') (q : pc + 1 = n) (h : Gz p e below s C N Q (T.setTop (mkF m n l' st))) : Gz p e below s C N Q (T.setTop (mkF m pc Ls (.int v :: st))) := by subst q; exact Gz.st (fun t k => XS.istoreN X.here hx rfl hd rfl hl k) h
theorem Gz.istore (n : Nat) (l' : Array Slot) {k : Nat} {v : Int32} (X : Stand p l e R s m args below meth c T locs cells slots) (hx : p.tables.exec = Jvm.exec) (hd : decode c.code pc = .ok (.istore k, 2)) (hl : storeLocals Ls k (.int v) = some l') (q : pc + 2 = n) (h : Gz p e below s C N Q (T.setTop (mkF m n l' st))) : Gz p e below s C N Q (T.setTop (mkF m pc Ls (.int v :: st))) := by subst q; exact Gz.st (fun t k => XS.istore X.here hx rfl hd rfl hl k) h
theorem Gz.dloadN (n : Nat) {k : Fin 4} {v : UInt64} (X : Stand p l e R s m args below meth c T locs cells slots) (hx : p.tables.exec = Jvm.exec) (hd : decode c.code pc = .ok (.dload_n k, 1)) (hl : Ls[k.val]? = some (.val (.double v))) (q : pc + 1 = n) (h : Gz p e below s C N Q (T.setTop (mkF m n Ls (.double v :: st)))) : Gz p e below s C N Q (T.setTop (mkF m pc Ls st)) := by subst q; exact Gz.st (fun t k => XS.dloadN X.here hx rfl hd hl k) h
theorem Gz.dload (n : Nat) {k : Nat} {v : UInt64} (X : Stand p l e R s m args below meth c T locs cells slots) (hx : p.tables.exec = Jvm.exec) (hd : decode c.code pc = .ok (.dload k, 2)) (hl : Ls[k]? = some (.val (.double v))) (q : pc + 2 = n) (h : Gz p e below s C N Q (T.setTop (mkF m n Ls (.double v :: st)))) : Gz p e below s C N Q (T.setTop (mkF m pc Ls st)) := by subst q; exact Gz.st (fun t k => XS.dload X.here hx rfl hd hl k) h
theorem Gz.dstore (n : Nat) (l' : Array Slot) {k : Nat} {v : UInt64} (X : Stand p l e R s m args below meth c T locs cells slots) (hx : p.tables.exec = Jvm.exec) (hd : decode c.code pc = .ok (.dstore k, 2)) (hl : storeLocals Ls k (.double v) = some l') (q : pc + 2 = n) (h : Gz p e below s C N Q (T.setTop (mkF m n l' st))) : Gz p e below s C N Q (T.setTop (mkF m pc Ls (.double v :: st))) := by subst q; exact Gz.st (fun t k => XS.dstore X.here hx rfl hd rfl hl k) h
theorem Gz.aloadN (n : Nat) {k : Fin 4} {v : Value} (X : Stand p l e R s m args below meth c T locs cells slots) (hx : p.tables.exec = Jvm.exec) (hd : decode c.code pc = .ok (.aload_n k, 1)) (hl : Ls[k.val]? = some (.val v)) (hv : v.isRef = true) (q : pc + 1 = n) (h : Gz p e below s C N Q (T.setTop (mkF m n Ls (v :: st)))) : Gz p e below s C N Q (T.setTop (mkF m pc Ls st)) := by subst q; exact Gz.st (fun t k => XS.aloadN X.here hx rfl hd hl hv k) h
theorem Gz.iconst (n : Nat) (v : Int32) (X : Stand p l e R s m args below meth c T locs cells slots) (hx : p.tables.exec = Jvm.exec) {i : Int} (hd : decode c.code pc = .ok (.iconst i, 1)) (hv : Int32.ofInt i = v) (q : pc + 1 = n) (h : Gz p e below s C N Q (T.setTop (mkF m n Ls (.int v :: st)))) : Gz p e below s C N Q (T.setTop (mkF m pc Ls st)) := by subst q hv; exact Gz.st (fun t k => XS.iconst X.here hx rfl hd k) h
theorem Gz.iand (n : Nat) {x y : Int32} (X : Stand p l e R s m args below meth c T locs cells slots) (hx : p.tables.exec = Jvm.exec) (hd : decode c.code pc = .ok (.iand, 1))  (q : pc + 1 = n) (h : Gz p e below s C N Q (T.setTop (mkF m n Ls (.int (x &&& y) :: st)))) : Gz p e below s C N Q (T.setTop (mkF m pc Ls (.int y :: .int x :: st))) := by subst q; exact Gz.st (fun t k => XS.iand X.here hx rfl hd rfl k) h
theorem Gz.ineg (n : Nat) {x : Int32} (X : Stand p l e R s m args below meth c T locs cells slots) (hx : p.tables.exec = Jvm.exec) (hd : decode c.code pc = .ok (.ineg, 1))  (q : pc + 1 = n) (h : Gz p e below s C N Q (T.setTop (mkF m n Ls (.int (-x) :: st)))) : Gz p e below s C N Q (T.setTop (mkF m pc Ls (.int x :: st))) := by subst q; exact Gz.st (fun t k => XS.ineg X.here hx rfl hd rfl k) h
theorem Gz.inegV (n : Nat) (z : Int32) (X : Stand p l e R s m args below meth c T locs cells slots) (hx : p.tables.exec = Jvm.exec) {x : Int32} (hd : decode c.code pc = .ok (.ineg, 1)) (hz : (-x) = z) (q : pc + 1 = n) (h : Gz p e below s C N Q (T.setTop (mkF m n Ls (.int z :: st)))) : Gz p e below s C N Q (T.setTop (mkF m pc Ls (.int x :: st))) := by subst hz; exact Gz.ineg n X hx hd q h
theorem Gz.dup (n : Nat) {x : Value} (X : Stand p l e R s m args below meth c T locs cells slots) (hx : p.tables.exec = Jvm.exec) (hd : decode c.code pc = .ok (.dup, 1)) (hc : x.category = 1) (q : pc + 1 = n) (h : Gz p e below s C N Q (T.setTop (mkF m n Ls (x :: x :: st)))) : Gz p e below s C N Q (T.setTop (mkF m pc Ls (x :: st))) := by subst q; exact Gz.st (fun t k => XS.dup X.here hx rfl hd rfl hc k) h
theorem Gz.goto (n : Nat) (X : Stand p l e R s m args below meth c T locs cells slots) (hx : p.tables.exec = Jvm.exec) {o : Int} (hd : decode c.code pc = .ok (.goto o, 3)) (ho : 0 ≤ (pc : Int) + o) (q : ((pc : Int) + o).toNat = n) (h : Gz p e below s C N Q (T.setTop (mkF m n Ls st))) : Gz p e below s C N Q (T.setTop (mkF m pc Ls st)) := Gz.st (fun t k => XS.goto X.here hx rfl (pc0 := pc) (pc' := n) rfl hd ho q k) h
theorem Gz.ifYes (n : Nat) (X : Stand p l e R s m args below meth c T locs cells slots) (hx : p.tables.exec = Jvm.exec) {cd : ClassFile.Cond} {x : Int32} {o : Int} (hd : decode c.code pc = .ok (.ifCond cd o, 3)) (hc : ifCond.holds cd x = true) (ho : 0 ≤ (pc : Int) + o) (q : ((pc : Int) + o).toNat = n) (h : Gz p e below s C N Q (T.setTop (mkF m n Ls st))) : Gz p e below s C N Q (T.setTop (mkF m pc Ls (.int x :: st))) := Gz.st (fun t k => XS.ifYes X.here hx rfl (pc0 := pc) (pc' := n) rfl hd rfl hc ho q k) h
theorem Gz.ifNo (n : Nat) (X : Stand p l e R s m args below meth c T locs cells slots) (hx : p.tables.exec = Jvm.exec) {cd : ClassFile.Cond} {x : Int32} {o : Int} (hd : decode c.code pc = .ok (.ifCond cd o, 3)) (hc : ifCond.holds cd x = false) (q : pc + 3 = n) (h : Gz p e below s C N Q (T.setTop (mkF m n Ls st))) : Gz p e below s C N Q (T.setTop (mkF m pc Ls (.int x :: st))) := by subst q; exact Gz.st (fun t k => XS.ifNo X.here hx rfl hd rfl hc k) h
theorem Gz.icmpYes (n : Nat) (X : Stand p l e R s m args below meth c T locs cells slots) (hx : p.tables.exec = Jvm.exec) {cd : ClassFile.Cond} {x y : Int32} {o : Int} (hd : decode c.code pc = .ok (.if_icmp cd o, 3)) (hc : if_icmp.holds cd x y = true) (ho : 0 ≤ (pc : Int) + o) (q : ((pc : Int) + o).toNat = n) (h : Gz p e below s C N Q (T.setTop (mkF m n Ls st))) : Gz p e below s C N Q (T.setTop (mkF m pc Ls (.int y :: .int x :: st))) := Gz.st (fun t k => XS.icmpYes X.here hx rfl (pc0 := pc) (pc' := n) rfl hd rfl hc ho q k) h
theorem Gz.icmpNo (n : Nat) (X : Stand p l e R s m args below meth c T locs cells slots) (hx : p.tables.exec = Jvm.exec) {cd : ClassFile.Cond} {x y : Int32} {o : Int} (hd : decode c.code pc = .ok (.if_icmp cd o, 3)) (hc : if_icmp.holds cd x y = false) (q : pc + 3 = n) (h : Gz p e below s C N Q (T.setTop (mkF m n Ls st))) : Gz p e below s C N Q (T.setTop (mkF m pc Ls (.int y :: .int x :: st))) := by subst q; exact Gz.st (fun t k => XS.icmpNo X.here hx rfl hd rfl hc k) h
theorem Gz.i2d (n : Nat) (X : Stand p l e R s m args below meth c T locs cells slots) (hx : p.tables.exec = Jvm.exec) {x : Int32} (hd : decode c.code pc = .ok (.i2d, 1)) (q : pc + 1 = n) (h : Gz p e below s C N Q (T.setTop (mkF m n Ls (.double (FP.i2d x) :: st)))) : Gz p e below s C N Q (T.setTop (mkF m pc Ls (.int x :: st))) := by subst q; exact Gz.st (fun t k => XS.i2dS X.here hx rfl hd rfl rfl k) h
theorem Gz.dcmp (n : Nat) (X : Stand p l e R s m args below meth c T locs cells slots) (hx : p.tables.exec = Jvm.exec) {o : CmpOp} {x y : UInt64} (hd : decode c.code pc = .ok (.dcmp o, 1)) (q : pc + 1 = n) (h : Gz p e below s C N Q (T.setTop (mkF m n Ls (.int (cmpValue (FP.dcmp x y) o) :: st)))) : Gz p e below s C N Q (T.setTop (mkF m pc Ls (.double y :: .double x :: st))) := by subst q; exact Gz.st (fun t k => XS.dcmpS X.here hx rfl hd rfl rfl k) h
theorem Gz.ddiv (n : Nat) (X : Stand p l e R s m args below meth c T locs cells slots) (hx : p.tables.exec = Jvm.exec) {x y : UInt64} (hd : decode c.code pc = .ok (.ddiv, 1)) (hn : Jvm.Free.Fl.NoNaN64 (FP.ddiv x y)) (q : pc + 1 = n) (h : Gz p e below s C N Q (T.setTop (mkF m n Ls (.double (FP.ddiv x y) :: st)))) : Gz p e below s C N Q (T.setTop (mkF m pc Ls (.double y :: .double x :: st))) := by subst q; exact Gz.st (fun t k => XS.ddivS X.here hx rfl hd rfl hn rfl k) h
theorem Gz.dmul (n : Nat) (X : Stand p l e R s m args below meth c T locs cells slots) (hx : p.tables.exec = Jvm.exec) {x y : UInt64} (hd : decode c.code pc = .ok (.dmul, 1)) (hn : Jvm.Free.Fl.NoNaN64 (FP.dmul x y)) (q : pc + 1 = n) (h : Gz p e below s C N Q (T.setTop (mkF m n Ls (.double (FP.dmul x y) :: st)))) : Gz p e below s C N Q (T.setTop (mkF m pc Ls (.double y :: .double x :: st))) := by subst q; exact Gz.st (fun t k => XS.dmulS X.here hx rfl hd rfl hn rfl k) h
theorem Gz.dneg (n : Nat) (X : Stand p l e R s m args below meth c T locs cells slots) (hx : p.tables.exec = Jvm.exec) {x : UInt64} (hd : decode c.code pc = .ok (.dneg, 1)) (q : pc + 1 = n) (h : Gz p e below s C N Q (T.setTop (mkF m n Ls (.double (FP.dneg x) :: st)))) : Gz p e below s C N Q (T.setTop (mkF m pc Ls (.double x :: st))) := by subst q; exact Gz.st (fun t k => XS.dnegS X.here hx rfl hd rfl rfl k) h
theorem Gz.dconst0 (n : Nat) (X : Stand p l e R s m args below meth c T locs cells slots) (hx : p.tables.exec = Jvm.exec) (hd : decode c.code pc = .ok (.dconst 0, 1)) (q : pc + 1 = n) (h : Gz p e below s C N Q (T.setTop (mkF m n Ls (.double (0 : UInt64) :: st)))) : Gz p e below s C N Q (T.setTop (mkF m pc Ls st)) := by subst q; exact Gz.st (fun t k => XS.dconst0 X.here hx rfl hd (by decide +kernel : FP.dconst0 = (0 : UInt64)) k) h
theorem Gz.ldc2D (n : Nat) (X : Stand p l e R s m args below meth c T locs cells slots) (hx : p.tables.exec = Jvm.exec) {own : String} {ix : Nat} {v : UInt64} (hd : decode c.code pc = .ok (.ldc2_w ix, 3)) (hown : s.vm.findClass own = some m.cls) (w : (Cond.constantDouble own ix v).before args s = true) (q : pc + 3 = n) (h : Gz p e below s C N Q (T.setTop (mkF m n Ls (.double v :: st)))) : Gz p e below s C N Q (T.setTop (mkF m pc Ls st)) := by subst q; exact Gz.st (X.ldc2DoubleC hx hown w rfl hd) h
theorem Gz.getF (n : Nat) (X : Stand p l e R s m args below meth c T locs cells slots) (hx : p.tables.exec = Jvm.exec) (hZ : Z.Warmed39 s.vm) {own : String} (hown : s.vm.findClass own = some m.cls) {R0 O nm d host : String} {ix : Nat} (hd : decode c.code pc = .ok (.getfield ix, 3)) (w : (Cond.fieldLink own ix R0 nm d).before a0 Z = true ∨ (Cond.fieldLinkNest own ix R0 nm d host).before a0 Z = true) (via : Via Z R0 O nm d) (eT : T.heap = hh) {a : Addr} {v : Value} (F : Fld Z hh a O nm d v) (q : pc + 3 = n) (h : ∀ T', Stand p l e R s m args below meth c T' (locs) (cells) (slots) → T'.heap = hh → Gz p e below s C N Q (T'.setTop (mkF m n Ls (v :: st)))) : Gz p e below s C N Q (T.setTop (mkF m pc Ls (.ref a :: st))) := by
  subst q
  obtain ⟨T', X', e', st'⟩ := Jvm.RoadKit.getF X hx hZ hown w via eT F (g := mkF m pc Ls (.ref a :: st)) rfl rfl hd
  exact Gz.st st' (h T' X' e')
theorem Gz.putF (n : Nat) (X : Stand p l e R s m args below meth c T locs cells slots) (hx : p.tables.exec = Jvm.exec) (hZ : Z.Warmed39 s.vm) {own : String} (hown : s.vm.findClass own = some m.cls) {R0 O nm d host K : String} {ix kk : Nat} (ty : FieldType) (hd : decode c.code pc = .ok (.putfield ix, 3)) (w : (Cond.fieldLink own ix R0 nm d).before a0 Z = true ∨ (Cond.fieldLinkNest own ix R0 nm d host).before a0 Z = true) (via : Via Z R0 O nm d) (eT : T.heap = hh) {a : Addr} {v old : Value} (F : Fld Z hh a O nm d old) (E : Exa Z hh a K) (L : (Cond.lays K O nm d).before a0 Z = true ∨ ((Cond.laysFinal K O nm d).before a0 Z = true ∧ own = O ∧ meth.name = "<init>")) (wi : (Cond.instantiable K kk).before a0 Z = true) (hty : parseFieldDescriptor d = some ty) (hn : narrow ty v = v) (hf : fits ty v = true) (q : pc + 3 = n) (h : ∀ T' h', Stand p l e R s m args below meth c T' (locs ++ [⟨a, slotOf Z O nm d⟩]) (cells) (slots) → T'.heap = h' → Wr hh h' a (slotOf Z O nm d) v → Gz p e below s C N Q (T'.setTop (mkF m n Ls st))) : Gz p e below s C N Q (T.setTop (mkF m pc Ls (v :: .ref a :: st))) := by
  subst q
  obtain ⟨T', h', X', e', W, st'⟩ := Jvm.RoadKit.putF X hx hZ hown w via eT F E L wi hty hn hf (g := mkF m pc Ls (v :: .ref a :: st)) rfl rfl hd
  exact Gz.st st' (h T' h' X' e' W)
theorem Gz.enter {g g' : JFrame} (q : g = g') (h : Gz p e below s C N Q (T.setTop g')) : Gz p e below s C N Q (T.setTop g) := q ▸ h
theorem Gz.fin (X : Stand p l e R s m args below meth c T locs cells slots) {v : Option Value} (hv : meth.sig.returnType = none → v = none) (hlocks : meth.locks = false) (hc : cells ≤ C) (hn : slots ≤ N)
    (hst : ∀ fs, (∀ (f : JFrame) (acts : List Action), f.method = m → f.locked = none → f.entered = [] → (doReturn e (T.setTop f) acts v).1 = T.setFrames fs) → Steps p.tables e below S (T.setFrames fs)) (hq : Q v T.heap locs) : Gz p e below s C N Q S := by
  obtain ⟨fs, hr, hrun, hended, hW, hsame⟩ := X.leave hv hlocks
  exact ⟨_, _, hst fs hr, hrun, hended, _, _, rfl, hq, ⟨_, rfl⟩, hW, hsame.mono hc hn⟩
theorem retNV (X : Stand p l e R s m args below meth c T locs cells slots) (hx : p.tables.exec = Jvm.exec) {pc : Nat} {Ls : Array Slot} {z w : Int32} {t : FieldType} {rest : List Value} (hret : meth.sig.returnType = some t) (ht : t = .boolean ∨ t = .byte ∨ t = .char ∨ t = .short)
    (hd : decode c.code pc = .ok (.ireturn, 1)) {fs : List Frame} (hl : ∀ (f : JFrame) (acts : List Action), f.method = m → f.locked = none → f.entered = [] → (doReturn e (T.setTop f) acts (some (.int w))).1 = T.setFrames fs) (hw : nar t z = w) :
    Steps p.tables e below (T.setTop (mkF m pc Ls (.int z :: rest))) (T.setFrames fs) := by subst hw; exact retN X hx hret ht hd hl
theorem own_nb (x : Int32) : nar .byte (x.toInt8.toInt32) = x.toInt8.toInt32 := by show (x.toInt8.toInt32).toInt8.toInt32 = _; simp
theorem lt_irr (x : Int32) : ¬ x < x := Int32.lt_irrefl
theorem own_rl {a z r j : Nat} (h : a < z) (q : r = z + 1 + j) : a ≠ r := by omega
theorem own_ro {x z r j : Nat} (h : x = z) (q : r = z + 1 + j) : x ≠ r := by omega
theorem own_rr {z a b i j : Nat} (h : a = z + 1 + i) (q : b = z + 1 + j) (w : i ≠ j) : a ≠ b := by omega
theorem own_rg {n z r j : Nat} (h : n ≤ z) (q : r = z + 1 + j) : n ≤ r := by omega
theorem own_selp {a0 : Array Value} {y y' : MethodName} (hsame : y'.cls = y.cls) (hsel : (Cond.selects y'.cls y' y').before a0 s = true) (hi' : (Cond.instanceMethod y').before a0 s = true) (hi : (Cond.instanceMethod y).before a0 s = true) (hp : s.PrivateAt y) (hy : y.cls ≠ "java/lang/invoke/MethodHandle" ∧ y.cls ≠ "java/lang/invoke/VarHandle") : (Cond.selects y.cls y y).before a0 s = true := by
  obtain ⟨mk, methM, hn, hm, -, -⟩ := Cond.instanceMethod_spec hi'
  obtain ⟨kr, hkr, hni⟩ := notFace_of_selects hsel mk hn
  exact selects_self_of_private (hsame ▸ findClass_of_methodNamed hn) hkr hni hp hi hy
def NSt (h : Heap) (w : Addr) : Prop := ∀ cell : Cell, h[w]? = some cell → cell.vm.isStatics = false
theorem nst_of {Z : State} {h : Heap} {w : Addr} {K : String} (E : Exa Z h w K) : NSt h w := fun cell hc => by
  obtain ⟨c', k, h1, h2, h3, h4, -⟩ := E
  cases hc.symm.trans h1
  exact h4
theorem own_staK {Z : State} {h h' : Heap} {ws : List Addr} {K n d : String} {v : Value} (F : Sta Z h K n d v) (KK : Keep h h' ws) (q : ∀ w ∈ ws, NSt h w) : Sta Z h' K n d v := by
  obtain ⟨cf, i, k, f, a, cell, h1, h2, h3, h4, h5, h6, h7⟩ := F
  refine ⟨cf, i, k, f, a, cell, h1, h2, h3, h4, KK.2.1 a cell h5 fun hm => ?_, h6, h7⟩
  have := q a hm cell h5
  rw [h6] at this
  cases this
/-- a call of a method that the named class inherits, by the contract of the one that declares it -/
theorem own_upBack (X : Stand p l e R s m args below meth c T locs cells slots) (hx : p.tables.exec = Jvm.exec) {own K owner : String} {index : Nat} {y : MethodName} (hown : s.vm.findClass own = some m.cls) (w1 : (Cond.methodLink own index y).before args s = true) (w2 : (Cond.sameMethod y.cls owner y.name y.desc).before args s = true) (ho : owner ≠ "java/lang/invoke/MethodHandle" ∧ owner ≠ "java/lang/invoke/VarHandle")
    (w3 : (Cond.declares ⟨owner, y.name, y.desc⟩).before args s = true) (w4 : (Cond.selects K y ⟨owner, y.name, y.desc⟩).before args s = true) (w5 : (Cond.instanceMethod ⟨owner, y.name, y.desc⟩).before args s = true)
    {W : Nat} {Pre : Pt → Array Value → Prop} {Post : Pt → Array Value → Option Value → Pt → Prop} (hK : Back l R p e below s args ⟨owner, y.name, y.desc⟩ 3 W Pre Post)
    {b : Addr} {cB : ClassId} (hcB : s.vm.findClass K = some cB) (hb : IsOf cB T b) {g : JFrame} (hg : g.method = m) (hsize : g.locals.size = c.maxLocals) {argsL rest : List Value}
    (hlen : ∀ sig, parseMethodDescriptor y.desc = some sig → argsL.length = sig.parameters.length) (hstack : g.stack = argsL.reverse ++ .ref b :: rest) (hW : 2 * g.monitorRoom + (rest.map fun v => v.category).sum ≤ W)
    (hd : decode c.code g.pc = .ok (.invokevirtual index, 3)) (hpre : ∀ vm₁, s.WarmedH vm₁ → Pre ⟨T.setVm vm₁, locs, cells, slots⟩ (.ref b :: argsL).toArray) :
    ∃ (v : Option Value) (vm₁ : Vm) (B : Pt), s.WarmedH vm₁ ∧ Stand p l e R s m args below meth c B.U B.locs B.cells B.slots ∧ Post ⟨T.setVm vm₁, locs, cells, slots⟩ (.ref b :: argsL).toArray v B ∧
      Steps p.tables e below (T.setTop g) (B.U.setTop { g with pc := g.pc + 3, stack := v.toList ++ rest }) := by
  obtain ⟨cell, hc1, hc2, hc3⟩ := hb
  obtain ⟨r0, r, n0, hr0, st0, sig0⟩ := Cond.declares_spec w3
  obtain ⟨mk, mm, nk, hmk, -, abk⟩ := Cond.instanceMethod_spec w5
  obtain ⟨cn, ck, r1, f1, f2, f3, f4, f5⟩ := Cond.sameMethod_found w2
  obtain ⟨c2, r2, m2, q1, q2, q3, q4, kP, k1, k2⟩ := Cond.selects_spec w4
  obtain rfl : r0 = mk := Option.some.inj (n0.symm.trans nk)
  obtain rfl : r0 = r1 := Option.some.inj (n0.symm.trans f5)
  obtain rfl : r0 = r2 := Option.some.inj (f4.symm.trans q2)
  obtain rfl : r0 = m2 := Option.some.inj (n0.symm.trans q3)
  obtain rfl : cB = c2 := Option.some.inj (hcB.symm.trans q1)
  obtain ⟨vm₁, X₁, st₁⟩ := X.invokevirtualUp hx hown w1 w2 ho n0 hr0 st0 hc1 (fun z h => by rw [h] at hc3; cases hc3) (by rw [Launch.admits_selectMethod X.admits, hc2]; exact q4) hmk abk k1 k2 hg (argsL := argsL) (rest := rest) (hlen _ sig0) hstack hd
  obtain ⟨v, B, X', hp, hs⟩ := hK m meth c ⟨T.setVm vm₁, locs, cells, slots⟩ { g with stack := rest } (.invokevirtual index) r0 (.ref b :: argsL).toArray X₁ hg hsize hd hW (X₁.named n0) (hpre vm₁ X₁.warmed)
  exact ⟨v, vm₁, B, X₁.warmed, X', hp, (st₁ _ fun acts => by rw [doInvoke_state]; exact Steps.refl _).trans hs⟩
theorem own_fldI {a0 : Array Value} {Z : State} {t : Term} {a : Addr} {C n d : String} {k : Int32} (ev : t.eval a0 Z none [] Z = some (.ref a)) (h : (Cond.eq (.field t C n d) (.int k)).value a0 Z none Z [] = some true) : Fld Z Z.heap a C n d (.int k) := by
  obtain ⟨x, y, e1, e2, k1, k2⟩ := cmp_v (Or.inl h)
  cases Option.some.inj (e2.symm.trans (Term.int_eval k))
  obtain ⟨z, rfl⟩ := k2
  have q := gotT (Cond.eq_ints e1 (Term.int_eval k)) h
  subst q
  rw [fld_at ev] at e1
  exact Fld.start e1
theorem own_len {a0 : Array Value} {Z : State} {t : Term} {a : Addr} {cl : Cell} {ty : FieldType} {z : Int32} (ev : t.eval a0 Z none [] Z = some (.ref a)) (A : Arr Z Z.heap a cl ty) (h : (Cond.eq (.length t) (.int z)).value a0 Z none Z [] = some true) : cl.slots.size < 2 ^ 31 ∧ cl.slots.size.toInt32 = z := by
  obtain ⟨x, y, e1, e2, k1, k2⟩ := cmp_v (Or.inl h)
  obtain ⟨b, cell, f1, f2, f3, f4⟩ := Jvm.Lib.length_spec e1
  cases Option.some.inj (ev.symm.trans f1)
  cases f2.symm.trans (Arr.fin (U := Z) (Vm.Alike.refl _) A)
  subst f4
  exact ⟨f3, gotT (Cond.eq_ints e1 (Term.int_eval z)) h⟩
theorem own_el {a0 : Array Value} {Z : State} {t : Term} {a : Addr} {cl : Cell} {ty : FieldType} {j v : Int32} (ev : t.eval a0 Z none [] Z = some (.ref a)) (A : Arr Z Z.heap a cl ty) (h : (Cond.eq (.elem t (.int j)) (.int v)).value a0 Z none Z [] = some true) : cl.slots[j.toNatClampNeg]? = some (.int v) := by
  obtain ⟨x, y, e1, e2, k1, k2⟩ := cmp_v (Or.inl h)
  cases Option.some.inj (e2.symm.trans (Term.int_eval v))
  obtain ⟨z, rfl⟩ := k2
  have q := gotT (Cond.eq_ints e1 (Term.int_eval v)) h
  subst q
  exact (elem_in e1 ev (Term.int_eval j) A.1).2
end New
end Jvm.RoadKit
namespace Jvm.Pilot.@@N@@
open Jvm Jvm.ClassFile Sem Op Lib Jvm.Free Jvm.Stand Jvm.LawKit Jvm.RoadKit Bundle Jvm.Pilot.@@N@@.Jvm.D
theorem ww {av : Array Value} {Z : State} (hw : ∀ d ∈ tables_1, d.before av Z = true) (i : Nat) {d : Jvm.Cond} (h : tables_1[i]? = some d) : d.before av Z = true := hw _ (List.mem_of_getElem? h)
theorem own_nat (z : Int32) (n : Nat) (hn : n ≤ 2147483648) (h0 : 0 ≤ z.toInt) (h1 : z.toInt < n) : ∃ k : Nat, k < n ∧ z = Int32.ofNat k := by
  refine ⟨z.toInt.toNat, by omega, ?_⟩
  apply Int32.toInt_inj.mp
  rw [Int32.toInt_ofNat_of_lt (by omega)]
  omega
theorem own_i2c (z : Int32) (h0 : 0 ≤ z.toInt) (h1 : z.toInt < 65536) : z.toUInt32.toUInt16.toUInt32.toInt32 = z := by
  apply Int32.toInt_inj.mp
  have := c_i2c z
  omega
theorem own_asym32 {x y : Int32} (h : y < x) : ¬ x < y := fun q => by rw [Int32.lt_iff_toInt_lt] at *; omega
theorem own_asym64 {x y : Int64} (h : y < x) : ¬ x < y := fun q => by rw [Int64.lt_iff_toInt_lt] at *; omega
theorem own_irr32 {x y : Int32} (h : x = y) : ¬ x < y := fun q => by rw [Int32.lt_iff_toInt_lt] at *; subst h; omega
theorem own_irr64 {x y : Int64} (h : x = y) : ¬ x < y := fun q => by rw [Int64.lt_iff_toInt_lt] at *; subst h; omega
theorem own_tri32 {x y : Int32} (h : ¬ y < x) (g : ¬ x = y) : x < y := by
  rw [← Int32.toInt_inj] at g; rw [Int32.lt_iff_toInt_lt] at *; omega
theorem own_tri64 {x y : Int64} (h : ¬ y < x) (g : ¬ x = y) : x < y := by
  rw [← Int64.toInt_inj] at g; rw [Int64.lt_iff_toInt_lt] at *; omega
theorem own_nlt32 {x y : Int32} (h : x < y) : ¬ x = y := fun q => own_irr32 q h
theorem own_nlt64 {x y : Int64} (h : x < y) : ¬ x = y := fun q => own_irr64 q h
theorem own_ngt32 {x y : Int32} (h : y < x) : ¬ x = y := fun q => own_irr32 q.symm h
theorem own_ngt64 {x y : Int64} (h : y < x) : ¬ x = y := fun q => own_irr64 q.symm h
theorem own_both32 {x y : Int32} (h : ¬ x < y) (g : ¬ y < x) : x = y := by
  rw [← Int32.toInt_inj]; rw [Int32.lt_iff_toInt_lt] at *; omega
theorem own_both64 {x y : Int64} (h : ¬ x < y) (g : ¬ y < x) : x = y := by
  rw [← Int64.toInt_inj]; rw [Int64.lt_iff_toInt_lt] at *; omega
theorem own_rem (z d : Int32) (hd : d ≠ 0) (h0 : 0 ≤ z.toInt) (n : Nat) (hn : d.toInt = n) (hn2 : n ≤ 2147483648) : ∃ k : Nat, k < n ∧ z % d = Int32.ofNat k := by
  have hr := c_irem z d n hn
  have hn0 : n ≠ 0 := fun q => hd (Int32.toInt_inj.mp (by rw [hn, q]; rfl))
  have h1 := hr.1 h0
  have h2 : 0 ≤ z.toInt % (n : Int) := Int.emod_nonneg _ (by omega)
  have h3 : z.toInt % (n : Int) < n := Int.emod_lt_of_pos _ (by omega)
  exact own_nat _ n hn2 (by omega) (by omega)
theorem own_ALt32 {e j k : Int32} (h : e < j) (q : j.toInt ≤ k.toInt) : e < k := by
  rw [Int32.lt_iff_toInt_lt] at *; omega
theorem own_AGf32 {e j k : Int32} (h : e < j) (q : j.toInt ≤ k.toInt + 1) : ¬ k < e := by
  rw [Int32.lt_iff_toInt_lt] at *; omega
theorem own_AEf32 {e j k : Int32} (h : e < j) (q : j.toInt ≤ k.toInt) : ¬ e = k := by
  intro z; subst z; rw [Int32.lt_iff_toInt_lt] at h; omega
theorem own_BLf32 {e j k : Int32} (h : ¬ e < j) (q : k.toInt ≤ j.toInt) : ¬ e < k := by
  rw [Int32.lt_iff_toInt_lt] at *; omega
theorem own_BGt32 {e j k : Int32} (h : ¬ e < j) (q : k.toInt < j.toInt) : k < e := by
  rw [Int32.lt_iff_toInt_lt] at *; omega
theorem own_BEf32 {e j k : Int32} (h : ¬ e < j) (q : k.toInt < j.toInt) : ¬ e = k := by
  intro z; subst z; rw [Int32.lt_iff_toInt_lt] at h; omega
theorem own_CLf32 {e j k : Int32} (h : j < e) (q : k.toInt ≤ j.toInt + 1) : ¬ e < k := by
  rw [Int32.lt_iff_toInt_lt] at *; omega
theorem own_CGt32 {e j k : Int32} (h : j < e) (q : k.toInt ≤ j.toInt) : k < e := by
  rw [Int32.lt_iff_toInt_lt] at *; omega
theorem own_CEf32 {e j k : Int32} (h : j < e) (q : k.toInt ≤ j.toInt) : ¬ e = k := by
  intro z; subst z; rw [Int32.lt_iff_toInt_lt] at h; omega
theorem own_DLt32 {e j k : Int32} (h : ¬ j < e) (q : j.toInt < k.toInt) : e < k := by
  rw [Int32.lt_iff_toInt_lt] at *; omega
theorem own_DGf32 {e j k : Int32} (h : ¬ j < e) (q : j.toInt ≤ k.toInt) : ¬ k < e := by
  rw [Int32.lt_iff_toInt_lt] at *; omega
theorem own_DEf32 {e j k : Int32} (h : ¬ j < e) (q : j.toInt < k.toInt) : ¬ e = k := by
  intro z; subst z; rw [Int32.lt_iff_toInt_lt] at h; omega
theorem own_eqEt32 {e j k : Int32} (h : e = j) (q : j = k) : e = k := by rw [h]; exact q
theorem own_eqEf32 {e j k : Int32} (h : e = j) (q : ¬ j = k) : ¬ e = k := by rw [h]; exact q
theorem own_eqLt32 {e j k : Int32} (h : e = j) (q : j < k) : e < k := by rw [h]; exact q
theorem own_eqLf32 {e j k : Int32} (h : e = j) (q : ¬ j < k) : ¬ e < k := by rw [h]; exact q
theorem own_eqGt32 {e j k : Int32} (h : e = j) (q : k < j) : k < e := by rw [h]; exact q
theorem own_eqGf32 {e j k : Int32} (h : e = j) (q : ¬ k < j) : ¬ k < e := by rw [h]; exact q
theorem own_ALt64 {e j k : Int64} (h : e < j) (q : j.toInt ≤ k.toInt) : e < k := by
  rw [Int64.lt_iff_toInt_lt] at *; omega
theorem own_AGf64 {e j k : Int64} (h : e < j) (q : j.toInt ≤ k.toInt + 1) : ¬ k < e := by
  rw [Int64.lt_iff_toInt_lt] at *; omega
theorem own_AEf64 {e j k : Int64} (h : e < j) (q : j.toInt ≤ k.toInt) : ¬ e = k := by
  intro z; subst z; rw [Int64.lt_iff_toInt_lt] at h; omega
theorem own_BLf64 {e j k : Int64} (h : ¬ e < j) (q : k.toInt ≤ j.toInt) : ¬ e < k := by
  rw [Int64.lt_iff_toInt_lt] at *; omega
theorem own_BGt64 {e j k : Int64} (h : ¬ e < j) (q : k.toInt < j.toInt) : k < e := by
  rw [Int64.lt_iff_toInt_lt] at *; omega
theorem own_BEf64 {e j k : Int64} (h : ¬ e < j) (q : k.toInt < j.toInt) : ¬ e = k := by
  intro z; subst z; rw [Int64.lt_iff_toInt_lt] at h; omega
theorem own_CLf64 {e j k : Int64} (h : j < e) (q : k.toInt ≤ j.toInt + 1) : ¬ e < k := by
  rw [Int64.lt_iff_toInt_lt] at *; omega
theorem own_CGt64 {e j k : Int64} (h : j < e) (q : k.toInt ≤ j.toInt) : k < e := by
  rw [Int64.lt_iff_toInt_lt] at *; omega
theorem own_CEf64 {e j k : Int64} (h : j < e) (q : k.toInt ≤ j.toInt) : ¬ e = k := by
  intro z; subst z; rw [Int64.lt_iff_toInt_lt] at h; omega
theorem own_DLt64 {e j k : Int64} (h : ¬ j < e) (q : j.toInt < k.toInt) : e < k := by
  rw [Int64.lt_iff_toInt_lt] at *; omega
theorem own_DGf64 {e j k : Int64} (h : ¬ j < e) (q : j.toInt ≤ k.toInt) : ¬ k < e := by
  rw [Int64.lt_iff_toInt_lt] at *; omega
theorem own_DEf64 {e j k : Int64} (h : ¬ j < e) (q : j.toInt < k.toInt) : ¬ e = k := by
  intro z; subst z; rw [Int64.lt_iff_toInt_lt] at h; omega
theorem own_eqEt64 {e j k : Int64} (h : e = j) (q : j = k) : e = k := by rw [h]; exact q
theorem own_eqEf64 {e j k : Int64} (h : e = j) (q : ¬ j = k) : ¬ e = k := by rw [h]; exact q
theorem own_eqLt64 {e j k : Int64} (h : e = j) (q : j < k) : e < k := by rw [h]; exact q
theorem own_eqLf64 {e j k : Int64} (h : e = j) (q : ¬ j < k) : ¬ e < k := by rw [h]; exact q
theorem own_eqGt64 {e j k : Int64} (h : e = j) (q : k < j) : k < e := by rw [h]; exact q
theorem own_eqGf64 {e j k : Int64} (h : e = j) (q : ¬ k < j) : ¬ k < e := by rw [h]; exact q
def own_S (f : Jvm.FP.Core.Fmt) (z : Int) (D : Jvm.FP.Core.Datum) : Prop := D ≠ .nan ∧ (0 < z → 0 < Jvm.FP.Core.zval f D) ∧ (z < 0 → Jvm.FP.Core.zval f D < 0) ∧ (z = 0 → Jvm.FP.Core.zval f D = 0)
theorem own_sg (s : Bool) (n : Nat) : Jvm.FP.Core.signed s n = if s = true then -(n : Int) else (n : Int) := rfl
theorem own_rr {f : Jvm.FP.Core.Fmt} (hf : Jvm.FP.Core.Good f) (hV : Jvm.FP.Core.fits f (.fin false 1 f.qmin)) (z : Int) {s : Bool} {A B : Nat} {e e0 : Int} (hB : 0 < B) (hs : z ≠ 0 → s = decide (z < 0)) (hz : z = 0 → A = 0) (h0 : e0 ≤ f.qmin) (h0e : e0 ≤ e) (h : z ≠ 0 → 2 ^ (f.qmin - e0).toNat * B ≤ Jvm.FP.Core.inUnits A e e0) : own_S f z (Jvm.FP.Core.roundRatio f s A B e) := by
  have k1 : z ≠ 0 → 1 ≤ Jvm.FP.Core.zmag f (Jvm.FP.Core.roundRatio f s A B e) := fun q => by
    have hm : Jvm.FP.Core.zmag f (.fin false 1 f.qmin) = 1 := by
      show 1 * 2 ^ (f.qmin - f.qmin).toNat = 1
      rw [Int.sub_self]; rfl
    have := Jvm.FP.Core.zmag_roundRatio_ge (s := s) (A := A) (B := B) (e := e) hf hB hV h0 h0e (by rw [hm, Nat.one_mul]; exact h q)
    rw [hm] at this
    exact this
  have k2 : Jvm.FP.Core.zval f (Jvm.FP.Core.roundRatio f s A B e) = Jvm.FP.Core.signed s (Jvm.FP.Core.zmag f (Jvm.FP.Core.roundRatio f s A B e)) := by
    show Jvm.FP.Core.signed (Jvm.FP.Core.sgn _) _ = _
    rw [Jvm.FP.Core.sgn_roundRatio]
  refine ⟨Jvm.FP.Core.roundRatio_ne_nan f s A B e, fun q => ?_, fun q => ?_, fun q => ?_⟩
  · have := k1 (by omega)
    rw [k2]
    generalize Jvm.FP.Core.zmag f (Jvm.FP.Core.roundRatio f s A B e) = w at this ⊢
    rw [hs (by omega), own_sg, if_neg (by simp; omega)]
    omega
  · have := k1 (by omega)
    rw [k2]
    generalize Jvm.FP.Core.zmag f (Jvm.FP.Core.roundRatio f s A B e) = w at this ⊢
    rw [hs (by omega), own_sg, if_pos (by simp; omega)]
    omega
  · have hA := hz q
    have : Jvm.FP.Core.zmag f (Jvm.FP.Core.roundRatio f s A B e) = 0 := by
      rw [show Jvm.FP.Core.roundRatio f s A B e = .fin s 0 f.qmin from if_pos hA]
      exact Nat.zero_mul _
    rw [k2, this, own_sg]
    split <;> rfl
theorem own_int {f : Jvm.FP.Core.Fmt} (hf : Jvm.FP.Core.Good f) (hV : Jvm.FP.Core.fits f (.fin false 1 f.qmin)) (i : Int) : own_S f i (Jvm.FP.Core.round f (Jvm.FP.Core.ofInt i)) := by
  have hq := Jvm.FP.Core.qmin_neg hf
  refine own_rr hf hV i (s := decide (i < 0)) (A := i.natAbs) (B := 1) (e := 0) (e0 := f.qmin) (by decide) (fun _ => rfl) (fun q => by rw [q]; rfl) (Int.le_refl _) (by omega) (fun q => ?_)
  show 2 ^ (f.qmin - f.qmin).toNat * 1 ≤ i.natAbs * 2 ^ (0 - f.qmin).toNat
  rw [Int.sub_self]
  exact Nat.mul_pos (by omega) (Nat.two_pow_pos _)
theorem own_int1 {f : Jvm.FP.Core.Fmt} (hf : Jvm.FP.Core.Good f) {V : Jvm.FP.Core.Datum} (hV : Jvm.FP.Core.fits f V) (hm : Jvm.FP.Core.zmag f V = 2 ^ (0 - f.qmin).toNat) {i : Int} (hi : i ≠ 0) : 2 ^ (0 - f.qmin).toNat ≤ Jvm.FP.Core.zmag f (Jvm.FP.Core.round f (Jvm.FP.Core.ofInt i)) := by
  have hq := Jvm.FP.Core.qmin_neg hf
  have := Jvm.FP.Core.zmag_roundRatio_ge (s := decide (i < 0)) (A := i.natAbs) (B := 1) (e := 0) (e0 := f.qmin) hf (by decide) hV (Int.le_refl _) (by omega) (by
    rw [hm, Int.sub_self]
    show 2 ^ (0 - f.qmin).toNat * 2 ^ 0 * 1 ≤ i.natAbs * 2 ^ (0 - f.qmin).toNat
    rw [Nat.pow_zero, Nat.mul_one, Nat.mul_one]
    exact Nat.le_mul_of_pos_left _ (by omega))
  rw [hm] at this
  exact this
theorem own_fs {f : Jvm.FP.Core.Fmt} {z : Int} {s : Bool} {c : Nat} {q : Int} (S : own_S f z (.fin s c q)) : (z ≠ 0 → s = decide (z < 0)) ∧ (z = 0 → c = 0) ∧ (z ≠ 0 → 1 ≤ Jvm.FP.Core.zmag f (.fin s c q)) := by
  obtain ⟨-, h1, h2, h3⟩ := S
  have e : Jvm.FP.Core.zval f (.fin s c q) = Jvm.FP.Core.signed s (Jvm.FP.Core.zmag f (.fin s c q)) := rfl
  rw [e, own_sg] at h1 h2 h3
  have em : Jvm.FP.Core.zmag f (.fin s c q) = c * 2 ^ (q - f.qmin).toNat := rfl
  refine ⟨fun k => ?_, fun k => ?_, fun k => ?_⟩
  · cases s
    · simp at h1 h2 h3 ⊢; omega
    · simp at h1 h2 h3 ⊢; omega
  · have h4 := h3 k
    have h5 : Jvm.FP.Core.zmag f (.fin s c q) = 0 := by cases s <;> simp at h4 <;> omega
    rw [em] at h5
    have := Nat.two_pow_pos (q - f.qmin).toNat
    rcases Nat.mul_eq_zero.mp h5 with h | h
    · exact h
    · omega
  · cases s <;> simp at h1 h2 h3 <;> omega
theorem own_mul {f : Jvm.FP.Core.Fmt} (hf : Jvm.FP.Core.Good f) (hV : Jvm.FP.Core.fits f (.fin false 1 f.qmin)) {x : Jvm.FP.Core.Datum} {d : Nat} {r : Int} (hx : Jvm.FP.Core.fits f x) (hy : Jvm.FP.Core.fits f (.fin false d r)) (hd : d ≠ 0) {z : Int} (S : own_S f z x) (hb : z ≠ 0 → 2 ^ (0 - f.qmin).toNat ≤ Jvm.FP.Core.zmag f x ∨ 2 ^ (0 - f.qmin).toNat ≤ Jvm.FP.Core.zmag f (.fin false d r)) : own_S f z (Jvm.FP.Core.round f (Jvm.FP.Core.exactProduct x (.fin false d r))) := by
  have hq := Jvm.FP.Core.qmin_neg hf
  cases x with
  | nan => exact absurd rfl S.1
  | inf s =>
    rw [show Jvm.FP.Core.exactProduct (.inf s) (.fin false d r) = .inf (s != false) from if_neg hd, Bool.bne_false]
    exact S
  | fin s c q =>
    show own_S f z (Jvm.FP.Core.roundRatio f (s != false) (c * d) 1 (q + r))
    rw [Bool.bne_false]
    obtain ⟨a1, a2, a3⟩ := own_fs S
    have hxq := hx.2.1
    have hyr := hy.2.1
    refine own_rr hf hV z (e0 := 2 * f.qmin) (by decide) a1 (fun k => by rw [a2 k, Nat.zero_mul]) (by omega) (by omega) (fun k => ?_)
    have k3 := a3 k
    have ey : Jvm.FP.Core.zmag f (.fin false d r) = d * 2 ^ (r - f.qmin).toNat := rfl
    have ex : Jvm.FP.Core.zmag f (.fin s c q) = c * 2 ^ (q - f.qmin).toNat := rfl
    have k4 : 1 ≤ Jvm.FP.Core.zmag f (.fin false d r) := by rw [ey]; exact Nat.mul_pos (by omega) (Nat.two_pow_pos _)
    have e1 : Jvm.FP.Core.inUnits (c * d) (q + r) (2 * f.qmin) = Jvm.FP.Core.zmag f (.fin s c q) * Jvm.FP.Core.zmag f (.fin false d r) := by
      show c * d * 2 ^ (q + r - 2 * f.qmin).toNat = _
      rw [ex, ey, show (q + r - 2 * f.qmin).toNat = (q - f.qmin).toNat + (r - f.qmin).toNat by omega, Nat.pow_add]
      ac_rfl
    rw [e1, show (f.qmin - 2 * f.qmin).toNat = (0 - f.qmin).toNat by omega, Nat.mul_one]
    rcases hb k with h | h
    · exact Nat.le_trans h (Nat.le_mul_of_pos_right _ k4)
    · exact Nat.le_trans h (Nat.le_mul_of_pos_left _ k3)
theorem own_quo {f : Jvm.FP.Core.Fmt} (hf : Jvm.FP.Core.Good f) (hV : Jvm.FP.Core.fits f (.fin false 1 f.qmin)) {x : Jvm.FP.Core.Datum} {d : Nat} {r : Int} (hx : Jvm.FP.Core.fits f x) (hd : d ≠ 0) {z : Int} (S : own_S f z x) (hb : z ≠ 0 → 2 ^ r.toNat * d ≤ Jvm.FP.Core.zmag f x) : own_S f z (Jvm.FP.Core.quotient f x (.fin false d r)) := by
  cases x with
  | nan => exact absurd rfl S.1
  | inf s =>
    show own_S f z (.inf (s != false))
    rw [Bool.bne_false]
    exact S
  | fin s c q =>
    show own_S f z (if d = 0 then _ else Jvm.FP.Core.roundRatio f (s != false) c d (q - r))
    rw [if_neg hd, Bool.bne_false]
    obtain ⟨a1, a2, a3⟩ := own_fs S
    have hxq := hx.2.1
    refine own_rr hf hV z (e0 := f.qmin - r.toNat) (by omega) a1 a2 (by omega) (by omega) (fun k => ?_)
    have ex : Jvm.FP.Core.zmag f (.fin s c q) = c * 2 ^ (q - f.qmin).toNat := rfl
    have e1 : Jvm.FP.Core.inUnits c (q - r) (f.qmin - r.toNat) = Jvm.FP.Core.zmag f (.fin s c q) * 2 ^ (-r).toNat := by
      show c * 2 ^ (q - r - (f.qmin - r.toNat)).toNat = _
      rw [ex, show (q - r - (f.qmin - r.toNat)).toNat = (q - f.qmin).toNat + (-r).toNat by omega, Nat.pow_add]
      ac_rfl
    rw [e1, show (f.qmin - (f.qmin - r.toNat)).toNat = r.toNat by omega]
    exact Nat.le_trans (hb k) (Nat.le_mul_of_pos_right _ (Nat.two_pow_pos _))
theorem own_ng {f : Jvm.FP.Core.Fmt} {z : Int} {D : Jvm.FP.Core.Datum} (S : own_S f z D) : own_S f (-z) (Jvm.FP.Core.negate D) := by
  obtain ⟨h0, h1, h2, h3⟩ := S
  refine ⟨fun q => h0 (by cases D <;> first | rfl | cases q), ?_, ?_, ?_⟩ <;> rw [Jvm.FP.Core.zval_negate] <;> intro h <;> omega
theorem own_ord {f : Jvm.FP.Core.Fmt} (hf : Jvm.FP.Core.Good f) (h0 : Jvm.FP.Core.fits f (.fin false 0 f.qmin)) {D : Jvm.FP.Core.Datum} (hD : Jvm.FP.Core.fits f D) {z : Int} (S : own_S f z D) : (0 < z → Jvm.FP.Core.order D (.fin false 0 f.qmin) = some .gt) ∧ (z < 0 → Jvm.FP.Core.order D (.fin false 0 f.qmin) = some .lt) ∧ (z = 0 → Jvm.FP.Core.order D (.fin false 0 f.qmin) = some .eq) := by
  have e := Jvm.FP.Core.order_zval hf hD h0 S.1 (fun q => Jvm.FP.Core.Datum.noConfusion q)
  have z0 : Jvm.FP.Core.zval f (.fin false 0 f.qmin) = 0 := by
    show Jvm.FP.Core.signed false (0 * 2 ^ (f.qmin - f.qmin).toNat) = 0
    rw [Nat.zero_mul]; rfl
  rw [z0] at e
  rw [e]
  obtain ⟨-, h1, h2, h3⟩ := S
  refine ⟨fun q => ?_, fun q => ?_, fun q => ?_⟩
  · have := h1 q
    rw [show compare (Jvm.FP.Core.zval f D) 0 = Ordering.gt from by rw [Jvm.FP.Core.compare_ite, if_neg (by omega), if_neg (by omega)]]
  · have := h2 q
    rw [show compare (Jvm.FP.Core.zval f D) 0 = Ordering.lt from by rw [Jvm.FP.Core.compare_ite, if_pos (by omega)]]
  · have := h3 q
    rw [show compare (Jvm.FP.Core.zval f D) 0 = Ordering.eq from by rw [Jvm.FP.Core.compare_ite, if_neg (by omega), if_pos (by omega)]]
theorem own_v1 : Jvm.FP.Core.fits Jvm.FP.Core.b64 (.fin false 1 Jvm.FP.Core.b64.qmin) := ⟨by decide, by decide, by decide, Or.inl rfl⟩
theorem own_v0 : Jvm.FP.Core.fits Jvm.FP.Core.b64 (.fin false 0 Jvm.FP.Core.b64.qmin) := ⟨by decide, by decide, by decide, Or.inl rfl⟩
theorem own_vo : Jvm.FP.Core.fits Jvm.FP.Core.b64 (.fin false 4503599627370496 (-52)) := ⟨by decide, by decide, by decide, Or.inr (by decide)⟩
theorem own_zo : Jvm.FP.Core.zmag Jvm.FP.Core.b64 (.fin false 4503599627370496 (-52)) = 2 ^ (0 - Jvm.FP.Core.b64.qmin).toNat := by decide +kernel
theorem own_i2d (x : Int32) : own_S Jvm.FP.Core.b64 x.toInt (Jvm.FP.Core.val64 (FP.i2d x)) := by
  rw [show Jvm.FP.Core.val64 (FP.i2d x) = _ from Jvm.FP.Core.val64_i2d x]
  exact own_int Jvm.FP.Core.good_b64 own_v1 _
theorem own_i2d1 {x : Int32} (h : x.toInt ≠ 0) : 2 ^ (0 - Jvm.FP.Core.b64.qmin).toNat ≤ Jvm.FP.Core.zmag Jvm.FP.Core.b64 (Jvm.FP.Core.val64 (FP.i2d x)) := by
  rw [show Jvm.FP.Core.val64 (FP.i2d x) = _ from Jvm.FP.Core.val64_i2d x]
  exact own_int1 Jvm.FP.Core.good_b64 own_vo own_zo h
theorem own_e3 : Jvm.FP.Core.val64 (9094988921128908188 : UInt64) = .fin false 6724873095247260 944 := by decide +kernel
theorem own_em : Jvm.FP.Core.val64 (1 : UInt64) = .fin false 1 (-1074) := by decide +kernel
theorem own_th : Jvm.FP.Core.val64 (4613937818241073152 : UInt64) = .fin false 6755399441055744 (-51) := by decide +kernel
theorem own_e0 : Jvm.FP.Core.val64 (0 : UInt64) = .fin false 0 Jvm.FP.Core.b64.qmin := by decide +kernel
theorem own_md {a b : UInt64} {d : Nat} {r : Int} {z : Int} (e : Jvm.FP.Core.val64 b = .fin false d r) (hd : d ≠ 0) (S : own_S Jvm.FP.Core.b64 z (Jvm.FP.Core.val64 a)) (hb : z ≠ 0 → 2 ^ (0 - Jvm.FP.Core.b64.qmin).toNat ≤ Jvm.FP.Core.zmag Jvm.FP.Core.b64 (Jvm.FP.Core.val64 a) ∨ 2 ^ (0 - Jvm.FP.Core.b64.qmin).toNat ≤ Jvm.FP.Core.zmag Jvm.FP.Core.b64 (.fin false d r)) : own_S Jvm.FP.Core.b64 z (Jvm.FP.Core.val64 (FP.dmul a b)) := by
  rw [show Jvm.FP.Core.val64 (FP.dmul a b) = _ from Jvm.FP.Core.val64_dmul a b]
  have hf := Jvm.FP.Core.val64_fits b
  rw [e] at hf ⊢
  exact own_mul Jvm.FP.Core.good_b64 own_v1 (Jvm.FP.Core.val64_fits a) hf hd S hb
theorem own_k1 (x : Int32) : own_S Jvm.FP.Core.b64 x.toInt (Jvm.FP.Core.val64 (FP.dmul (FP.i2d x) (9094988921128908188 : UInt64))) := own_md own_e3 (by decide) (own_i2d x) (fun h => Or.inl (own_i2d1 h))
theorem own_k1b (x : Int32) : own_S Jvm.FP.Core.b64 x.toInt (Jvm.FP.Core.val64 (FP.dmul (FP.dmul (FP.i2d x) (9094988921128908188 : UInt64)) (9094988921128908188 : UInt64))) := own_md own_e3 (by decide) (own_k1 x) (fun _ => Or.inr (by decide +kernel))
theorem own_k2 (x : Int32) : own_S Jvm.FP.Core.b64 x.toInt (Jvm.FP.Core.val64 (FP.dmul (FP.i2d x) (1 : UInt64))) := own_md own_em (by decide) (own_i2d x) (fun h => Or.inl (own_i2d1 h))
theorem own_k3 (x : Int32) : own_S Jvm.FP.Core.b64 x.toInt (Jvm.FP.Core.val64 (FP.ddiv (FP.i2d x) (4613937818241073152 : UInt64))) := by
  rw [show Jvm.FP.Core.val64 (FP.ddiv (FP.i2d x) (4613937818241073152 : UInt64)) = _ from Jvm.FP.Core.val64_ddiv _ _, own_th]
  exact own_quo Jvm.FP.Core.good_b64 own_v1 (Jvm.FP.Core.val64_fits _) (by decide) (own_i2d x) (fun h => Nat.le_trans (by decide +kernel) (own_i2d1 h))
theorem own_dn {d : UInt64} {z : Int} (S : own_S Jvm.FP.Core.b64 z (Jvm.FP.Core.val64 d)) : own_S Jvm.FP.Core.b64 (-z) (Jvm.FP.Core.val64 (FP.dneg d)) := by
  rw [show Jvm.FP.Core.val64 (FP.dneg d) = _ from FP.val64_dneg d]
  exact own_ng S
theorem own_no {d : UInt64} {z : Int} (S : own_S Jvm.FP.Core.b64 z (Jvm.FP.Core.val64 d)) : Jvm.Free.Fl.NoNaN64 d := Jvm.Free.Fl.val64_no.mpr S.1
theorem own_c0 {d : UInt64} {z : Int} (S : own_S Jvm.FP.Core.b64 z (Jvm.FP.Core.val64 d)) : (0 < z → FP.dcmp d (0 : UInt64) = some .gt) ∧ (z < 0 → FP.dcmp d (0 : UInt64) = some .lt) ∧ (z = 0 → FP.dcmp d (0 : UInt64) = some .eq) := by
  have e : FP.dcmp d (0 : UInt64) = Jvm.FP.Core.order (Jvm.FP.Core.val64 d) (Jvm.FP.Core.val64 (0 : UInt64)) := rfl
  rw [e, own_e0]
  exact own_ord Jvm.FP.Core.good_b64 own_v0 (Jvm.FP.Core.val64_fits d) S
theorem own_g1 {x : Int32} (h : (0 : Int32) < x) : 0 < x.toInt := Int32.lt_iff_toInt_lt.mp h
theorem own_l1 {x : Int32} (h : x < (0 : Int32)) : x.toInt < 0 := Int32.lt_iff_toInt_lt.mp h
theorem own_z1 {x : Int32} (h : ¬ (0 : Int32) < x) (g : ¬ x < (0 : Int32)) : x.toInt = 0 := by
  rw [Int32.lt_iff_toInt_lt] at h g
  have e : (0 : Int32).toInt = 0 := rfl
  omega
theorem d3_0 : decode prog_16_method_1_code 0 = .ok (.aload_n 0, 1) := by decide +kernel
theorem d3_1 : decode prog_16_method_1_code 1 = .ok (.invokespecial 1, 3) := by decide +kernel
theorem d3_4 : decode prog_16_method_1_code 4 = .ok (.return_, 1) := by decide +kernel
theorem pn_0 : plainName "com/example/arhe/arhe/AtomicValue" = true := by first | (simp [plainName, overriddenIn]; done) | decide +kernel
theorem ef_rmAtomicValue (m : MethodId) (a0 : Addr) : entryFrame m #[(.ref a0)] 1 = mkF m 0 #[.val (.ref a0)] [] := by first | (simp [entryFrame, mkF, argsToLocals, Value.category]; done) | rfl
def Q_rmAtomicValue (Z : State) (a0 : Addr) (h0 : Heap) (n0 : Nat) (v : Option Value) (h : Heap) (L : List Loc) : Prop := v = none ∧ Fr n0 L ∧ h = h0
set_option maxRecDepth 65536 in
set_option maxHeartbeats 40000000 in
theorem rmAtomicValue (l : Launch) (Z : State) (av0 : Array Value) (hw : ∀ d ∈ tables_1, d.before av0 Z = true) (ws : List Jvm.Cond) (a0 : Addr) (h0 : Heap) (n0 : Nat) (Z0 : n0 ≤ h0.size)  :
    MetFree l (⟨"com/example/arhe/arhe/AtomicValue", "<init>", "()V"⟩ : MethodName) (head1 (Jvm.Cond.code (⟨"com/example/arhe/arhe/AtomicValue", "<init>", "()V"⟩ : MethodName) prog_16_method_1_code 1 none :: ws) ({ frames := 1, cells := 0, slots := 0, locals := 12 } : Room)) (fun a U => a = #[(.ref a0)] ∧ Z.Warmed39 U.vm ∧ U.heap = h0) (fun _ _ _ _ _ => True) (fun _ U o U' => ∃ v L, o = .returned v ∧ Q_rmAtomicValue Z a0 h0 n0 v U'.heap L ∧ FrameEnd U o U' L ({ frames := 1, cells := 0, slots := 0, locals := 12 } : Room).cells ({ frames := 1, cells := 0, slots := 0, locals := 12 } : Room).slots) := by
  refine MetFree.of_bodySF (plainFor_of_name pn_0) hisR ?_
  intro p e s m args below meth c s₁ Bd hml0 hP hK
  obtain ⟨rfl, hZ, hh⟩ := hP
  have hx := Bd.exec
  have hby := Bd.bytes
  have hml : c.maxLocals = 1 := hml0
  have dd : ∀ {pc : Nat} {r : Except DecodeError (Instr × Nat)}, decode prog_16_method_1_code pc = r → decode c.code pc = r := fun q => hb hby q
  have hown : s.vm.findClass "com/example/arhe/arhe/AtomicValue" = some m.cls := findClass_of_methodNamed Bd.named
  have hnm := (name_of_methodNamed Bd.named Bd.method).1
  have X0 : Stand p l e ({ frames := 1, cells := 0, slots := 0, locals := 12 } : Room) s m #[(.ref a0)] below meth c s₁ [] 0 0 := Stand.of_body Bd
  have e0 : s₁.heap = h0 := by rw [← hh, Bd.state]; rfl
  have N0 := Fr.nil n0
  have hret := Bd.returns
  have hlk := Bd.notSynchronized
  show Gz p e below s ({ frames := 1, cells := 0, slots := 0, locals := 12 } : Room).cells ({ frames := 1, cells := 0, slots := 0, locals := 12 } : Room).slots (Q_rmAtomicValue Z a0 h0 n0) (s₁.setTop (entryFrame m #[(.ref a0)] 1))
  refine Gz.enter (ef_rmAtomicValue m a0) ?_
  refine Gz.aloadN 1 X0 hx (dd d3_0) rfl rfl rfl ?_
  obtain ⟨T1, X1, e1, st1⟩ := initO X0 hx hZ hown (ww hw 17 rfl) (ww hw 18 rfl) (ww hw 19 rfl) e0 (g := (mkF m 1 #[.val (.ref a0)] [(.ref a0)])) rfl (by rw [hml]; rfl) rfl (dd d3_1) (by decide) (W := 0) (Nat.le_refl _) (by decide)
  refine Gz.st st1 ?_
  refine Gz.fin X1 (v := none) (fun _ => rfl) hlk (by decide) (by decide) (fun fs hr => X1.returnOut hx hret (dd d3_4) hr) ?_
  rw [e1]
  exact ⟨rfl, N0, rfl⟩
theorem pd_0 : parseMethodDescriptor "()V" = some ⟨[], none⟩ := by decide +kernel
abbrev ym0 : MethodName := ⟨"com/example/arhe/arhe/AtomicValue", "<init>", "()V"⟩
theorem d2_0 : decode prog_101_method_1_code 0 = .ok (.aload_n 0, 1) := by decide +kernel
theorem d2_1 : decode prog_101_method_1_code 1 = .ok (.invokespecial 1, 3) := by decide +kernel
theorem d2_4 : decode prog_101_method_1_code 4 = .ok (.return_, 1) := by decide +kernel
theorem pn_1 : plainName "com/example/arhe/arhe/NumericValue" = true := by first | (simp [plainName, overriddenIn]; done) | decide +kernel
theorem ef_rmNumericValue (m : MethodId) (a0 : Addr) : entryFrame m #[(.ref a0)] 1 = mkF m 0 #[.val (.ref a0)] [] := by first | (simp [entryFrame, mkF, argsToLocals, Value.category]; done) | rfl
def Q_rmNumericValue (Z : State) (a0 : Addr) (h0 : Heap) (n0 : Nat) (v : Option Value) (h : Heap) (L : List Loc) : Prop := v = none ∧ Fr n0 L ∧ h = h0
set_option maxRecDepth 65536 in
set_option maxHeartbeats 40000000 in
theorem rmNumericValue (l : Launch) (Z : State) (av0 : Array Value) (hw : ∀ d ∈ tables_1, d.before av0 Z = true) (ws : List Jvm.Cond) (a0 : Addr) (h0 : Heap) (n0 : Nat) (Z0 : n0 ≤ h0.size)  :
    MetFree l (⟨"com/example/arhe/arhe/NumericValue", "<init>", "()V"⟩ : MethodName) (head1 (Jvm.Cond.code (⟨"com/example/arhe/arhe/NumericValue", "<init>", "()V"⟩ : MethodName) prog_101_method_1_code 1 none :: ws) ({ frames := 2, cells := 0, slots := 0, locals := 24 } : Room)) (fun a U => a = #[(.ref a0)] ∧ Z.Warmed39 U.vm ∧ U.heap = h0) (fun _ _ _ _ _ => True) (fun _ U o U' => ∃ v L, o = .returned v ∧ Q_rmNumericValue Z a0 h0 n0 v U'.heap L ∧ FrameEnd U o U' L ({ frames := 2, cells := 0, slots := 0, locals := 24 } : Room).cells ({ frames := 2, cells := 0, slots := 0, locals := 24 } : Room).slots) := by
  refine MetFree.of_bodySF (plainFor_of_name pn_1) hisR ?_
  intro p e s m args below meth c s₁ Bd hml0 hP hK
  obtain ⟨rfl, hZ, hh⟩ := hP
  have hx := Bd.exec
  have hby := Bd.bytes
  have hml : c.maxLocals = 1 := hml0
  have dd : ∀ {pc : Nat} {r : Except DecodeError (Instr × Nat)}, decode prog_101_method_1_code pc = r → decode c.code pc = r := fun q => hb hby q
  have hown : s.vm.findClass "com/example/arhe/arhe/NumericValue" = some m.cls := findClass_of_methodNamed Bd.named
  have hnm := (name_of_methodNamed Bd.named Bd.method).1
  have X0 : Stand p l e ({ frames := 2, cells := 0, slots := 0, locals := 24 } : Room) s m #[(.ref a0)] below meth c s₁ [] 0 0 := Stand.of_body Bd
  have e0 : s₁.heap = h0 := by rw [← hh, Bd.state]; rfl
  have N0 := Fr.nil n0
  have hret := Bd.returns
  have hlk := Bd.notSynchronized
  show Gz p e below s ({ frames := 2, cells := 0, slots := 0, locals := 24 } : Room).cells ({ frames := 2, cells := 0, slots := 0, locals := 24 } : Room).slots (Q_rmNumericValue Z a0 h0 n0) (s₁.setTop (entryFrame m #[(.ref a0)] 1))
  refine Gz.enter (ef_rmNumericValue m a0) ?_
  refine Gz.aloadN 1 X0 hx (dd d2_0) rfl rfl rfl ?_
  obtain ⟨_, _, ⟨T1, L1, k1, n1⟩, -, X1, ⟨Lc1, hQ1, l1, y1, z1⟩, st1⟩ := X0.specialBack hx (y := ym0) rfl hown (mvT hZ (ww hw 12 rfl)) (mvT hZ (ww hw 13 rfl)) (mvT hZ (ww hw 16 rfl)) (by decide) (backOf (W := 0) (rmAtomicValue l Z av0 hw [] a0  h0 n0 Z0 ) hZ (ww hw 16 rfl) (ww hw 15 rfl) (by decide) (by decide)) (g := (mkF m 1 #[.val (.ref a0)] [(.ref a0)])) rfl (by rw [hml]; rfl) (Steps.refl _) (a := a0) (argsL := []) (rest := []) (lenOf pd_0 rfl) rfl (Nat.le_refl _) (dd d2_1) (fun _ _ => ⟨rfl, e0, (by decide : 0 + 0 ≤ _), (by decide : 0 + 0 ≤ _)⟩)
  dsimp only [Pt.U, Pt.locs, Pt.cells, Pt.slots, Q_rmAtomicValue] at X1 l1 y1 z1 st1 hQ1
  subst l1 y1 z1
  obtain ⟨rfl, N1q, e1⟩ := hQ1
  have N1 := Fr.app N0 N1q
  refine Gz.tr st1 ?_
  refine Gz.fin X1 (v := none) (fun _ => rfl) hlk (by decide) (by decide) (fun fs hr => X1.returnOut hx hret (dd d2_4) hr) ?_
  rw [e1]
  exact ⟨rfl, N1, rfl⟩
abbrev ym1 : MethodName := ⟨"com/example/arhe/arhe/NumericValue", "<init>", "()V"⟩
theorem d1_0 : decode prog_53_method_1_code 0 = .ok (.aload_n 0, 1) := by decide +kernel
theorem d1_1 : decode prog_53_method_1_code 1 = .ok (.invokespecial 1, 3) := by decide +kernel
theorem d1_4 : decode prog_53_method_1_code 4 = .ok (.aload_n 0, 1) := by decide +kernel
theorem d1_5 : decode prog_53_method_1_code 5 = .ok (.dload_n 1, 1) := by decide +kernel
theorem d1_6 : decode prog_53_method_1_code 6 = .ok (.putfield 7, 3) := by decide +kernel
theorem d1_9 : decode prog_53_method_1_code 9 = .ok (.return_, 1) := by decide +kernel
theorem pn_2 : plainName "com/example/arhe/arhe/DoubleValue" = true := by first | (simp [plainName, overriddenIn]; done) | decide +kernel
theorem ef_rm1 (m : MethodId) (a0 : Addr) (d1 : UInt64) : entryFrame m #[(.ref a0), (.double d1)] 3 = mkF m 0 #[.val (.ref a0), .val (.double d1), .second] [] := by first | (simp [entryFrame, mkF, argsToLocals, Value.category]; done) | rfl
def Q_rm1 (Z : State) (a0 : Addr) (d1 : UInt64) (h0 : Heap) (n0 : Nat) (v : Option Value) (h : Heap) (L : List Loc) : Prop := v = none ∧ Fr n0 L ∧ Keep h0 h [a0] ∧ Exa Z h a0 "com/example/arhe/arhe/DoubleValue" ∧ Fld Z h a0 "com/example/arhe/arhe/DoubleValue" "value" "D" (.double d1)
set_option maxRecDepth 65536 in
set_option maxHeartbeats 40000000 in
theorem rm1 (l : Launch) (Z : State) (av0 : Array Value) (hw : ∀ d ∈ tables_1, d.before av0 Z = true) (ws : List Jvm.Cond) (a0 : Addr) (d1 : UInt64) (h0 : Heap) (n0 : Nat) (Z0 : n0 ≤ h0.size) (E_a0 : Exa Z h0 a0 "com/example/arhe/arhe/DoubleValue") (F_value_a0 : Fld Z h0 a0 "com/example/arhe/arhe/DoubleValue" "value" "D" (.double (0 : UInt64))) (g_a0 : n0 ≤ a0) :
    MetFree l (⟨"com/example/arhe/arhe/DoubleValue", "<init>", "(D)V"⟩ : MethodName) (head1 (Jvm.Cond.code (⟨"com/example/arhe/arhe/DoubleValue", "<init>", "(D)V"⟩ : MethodName) prog_53_method_1_code 3 none :: ws) ({ frames := 3, cells := 0, slots := 0, locals := 36 } : Room)) (fun a U => a = #[(.ref a0), (.double d1)] ∧ Z.Warmed39 U.vm ∧ U.heap = h0) (fun _ _ _ _ _ => True) (fun _ U o U' => ∃ v L, o = .returned v ∧ Q_rm1 Z a0 d1 h0 n0 v U'.heap L ∧ FrameEnd U o U' L ({ frames := 3, cells := 0, slots := 0, locals := 36 } : Room).cells ({ frames := 3, cells := 0, slots := 0, locals := 36 } : Room).slots) := by
  refine MetFree.of_bodySF (plainFor_of_name pn_2) hisR ?_
  intro p e s m args below meth c s₁ Bd hml0 hP hK
  obtain ⟨rfl, hZ, hh⟩ := hP
  have hx := Bd.exec
  have hby := Bd.bytes
  have hml : c.maxLocals = 3 := hml0
  have dd : ∀ {pc : Nat} {r : Except DecodeError (Instr × Nat)}, decode prog_53_method_1_code pc = r → decode c.code pc = r := fun q => hb hby q
  have hown : s.vm.findClass "com/example/arhe/arhe/DoubleValue" = some m.cls := findClass_of_methodNamed Bd.named
  have hnm := (name_of_methodNamed Bd.named Bd.method).1
  have X0 : Stand p l e ({ frames := 3, cells := 0, slots := 0, locals := 36 } : Room) s m #[(.ref a0), (.double d1)] below meth c s₁ [] 0 0 := Stand.of_body Bd
  have e0 : s₁.heap = h0 := by rw [← hh, Bd.state]; rfl
  have N0 := Fr.nil n0
  have hret := Bd.returns
  have hlk := Bd.notSynchronized
  show Gz p e below s ({ frames := 3, cells := 0, slots := 0, locals := 36 } : Room).cells ({ frames := 3, cells := 0, slots := 0, locals := 36 } : Room).slots (Q_rm1 Z a0 d1 h0 n0) (s₁.setTop (entryFrame m #[(.ref a0), (.double d1)] 3))
  refine Gz.enter (ef_rm1 m a0 d1) ?_
  refine Gz.aloadN 1 X0 hx (dd d1_0) rfl rfl rfl ?_
  obtain ⟨_, _, ⟨T1, L1, k1, n1⟩, -, X1, ⟨Lc1, hQ1, l1, y1, z1⟩, st1⟩ := X0.specialBack hx (y := ym1) rfl hown (mvT hZ (ww hw 7 rfl)) (mvT hZ (ww hw 8 rfl)) (mvT hZ (ww hw 11 rfl)) (by decide) (backOf (W := 0) (rmNumericValue l Z av0 hw [] a0  h0 n0 Z0 ) hZ (ww hw 11 rfl) (ww hw 10 rfl) (by decide) (by decide)) (g := (mkF m 1 #[.val (.ref a0), .val (.double d1), .second] [(.ref a0)])) rfl (by rw [hml]; rfl) (Steps.refl _) (a := a0) (argsL := []) (rest := []) (lenOf pd_0 rfl) rfl (Nat.le_refl _) (dd d1_1) (fun _ _ => ⟨rfl, e0, (by decide : 0 + 0 ≤ _), (by decide : 0 + 0 ≤ _)⟩)
  dsimp only [Pt.U, Pt.locs, Pt.cells, Pt.slots, Q_rmNumericValue] at X1 l1 y1 z1 st1 hQ1
  subst l1 y1 z1
  obtain ⟨rfl, N1q, e1⟩ := hQ1
  have N1 := Fr.app N0 N1q
  refine Gz.tr st1 ?_
  refine Gz.aloadN 5 X1 hx (dd d1_4) rfl rfl rfl ?_
  refine Gz.dloadN 6 X1 hx (dd d1_5) rfl rfl ?_
  refine Gz.putF 9 X1 hx hZ hown .double (dd d1_6) (host := "") (Or.inl (ww hw 20 rfl)) Via.refl e1 F_value_a0 E_a0 (Or.inr ⟨(ww hw 21 rfl), rfl, hnm⟩) (ww hw 2 rfl) (by decide) rfl rfl rfl fun T2 h2 X2 e2 W2 => ?_
  have f2_E_a0 := Exa.wr W2 E_a0
  have f2_F_value_a0 := Fld.same W2 F_value_a0
  have N2 := Fr.snoc X2 N1 g_a0
  have SZ2 : n0 ≤ h2.size := Nat.le_trans Z0 (Keep.of_wr W2).1
  have K2 := Keep.wr (Keep.refl h0 [a0]) W2 (Or.inl (List.mem_of_getElem? (i := 0) rfl))
  refine Gz.fin X2 (v := none) (fun _ => rfl) hlk (by decide) (by decide) (fun fs hr => X2.returnOut hx hret (dd d1_9) hr) ?_
  rw [e2]
  exact ⟨rfl, N2, K2, f2_E_a0, f2_F_value_a0⟩
theorem d5_0 : decode prog_53_method_13_code 0 = .ok (.aload_n 0, 1) := by decide +kernel
theorem d5_1 : decode prog_53_method_13_code 1 = .ok (.getfield 7, 3) := by decide +kernel
theorem d5_4 : decode prog_53_method_13_code 4 = .ok (.dconst 0, 1) := by decide +kernel
theorem d5_5 : decode prog_53_method_13_code 5 = .ok (.dcmp .l, 1) := by decide +kernel
theorem d5_6 : decode prog_53_method_13_code 6 = .ok (.ifCond .le 7, 3) := by decide +kernel
theorem d5_9 : decode prog_53_method_13_code 9 = .ok (.iconst 1, 1) := by decide +kernel
theorem d5_10 : decode prog_53_method_13_code 10 = .ok (.goto 17, 3) := by decide +kernel
theorem d5_13 : decode prog_53_method_13_code 13 = .ok (.aload_n 0, 1) := by decide +kernel
theorem d5_14 : decode prog_53_method_13_code 14 = .ok (.getfield 7, 3) := by decide +kernel
theorem d5_17 : decode prog_53_method_13_code 17 = .ok (.dconst 0, 1) := by decide +kernel
theorem d5_18 : decode prog_53_method_13_code 18 = .ok (.dcmp .g, 1) := by decide +kernel
theorem d5_19 : decode prog_53_method_13_code 19 = .ok (.ifCond .ge 7, 3) := by decide +kernel
theorem d5_22 : decode prog_53_method_13_code 22 = .ok (.iconst (-1), 1) := by decide +kernel
theorem d5_23 : decode prog_53_method_13_code 23 = .ok (.goto 4, 3) := by decide +kernel
theorem d5_26 : decode prog_53_method_13_code 26 = .ok (.iconst 0, 1) := by decide +kernel
theorem d5_27 : decode prog_53_method_13_code 27 = .ok (.ireturn, 1) := by decide +kernel
theorem ef_rm5 (m : MethodId) (a0 : Addr) : entryFrame m #[(.ref a0)] 1 = mkF m 0 #[.val (.ref a0)] [] := by first | (simp [entryFrame, mkF, argsToLocals, Value.category]; done) | rfl
def fSig (a0 : Addr) (dv : UInt64) : Int32 := (if (0 : Int32) < (cmpValue (FP.dcmp dv (0 : UInt64)) .l) then (1 : Int32) else (if (cmpValue (FP.dcmp dv (0 : UInt64)) .g) < (0 : Int32) then (-1 : Int32) else (0 : Int32)))
def Q_rm5 (Z : State) (a0 : Addr) (dv : UInt64) (h0 : Heap) (n0 : Nat) (v : Option Value) (h : Heap) (L : List Loc) : Prop := v = some (.int (fSig a0 dv)) ∧ Fr n0 L ∧ h = h0
set_option maxRecDepth 65536 in
set_option maxHeartbeats 40000000 in
theorem rm5 (l : Launch) (Z : State) (av0 : Array Value) (hw : ∀ d ∈ tables_1, d.before av0 Z = true) (ws : List Jvm.Cond) (a0 : Addr) (dv : UInt64) (h0 : Heap) (n0 : Nat) (Z0 : n0 ≤ h0.size) (F_value_a0 : Fld Z h0 a0 "com/example/arhe/arhe/DoubleValue" "value" "D" (.double dv)) :
    MetFree l (⟨"com/example/arhe/arhe/DoubleValue", "signum", "()I"⟩ : MethodName) (head1 (Jvm.Cond.code (⟨"com/example/arhe/arhe/DoubleValue", "signum", "()I"⟩ : MethodName) prog_53_method_13_code 1 (some .int) :: ws) ({ frames := 0, cells := 0, slots := 0, locals := 0 } : Room)) (fun a U => a = #[(.ref a0)] ∧ Z.Warmed39 U.vm ∧ U.heap = h0) (fun _ _ _ _ _ => True) (fun _ U o U' => ∃ v L, o = .returned v ∧ Q_rm5 Z a0 dv h0 n0 v U'.heap L ∧ FrameEnd U o U' L ({ frames := 0, cells := 0, slots := 0, locals := 0 } : Room).cells ({ frames := 0, cells := 0, slots := 0, locals := 0 } : Room).slots) := by
  refine MetFree.of_bodySF (plainFor_of_name pn_2) hisR ?_
  intro p e s m args below meth c s₁ Bd hml0 hP hK
  obtain ⟨rfl, hZ, hh⟩ := hP
  have hx := Bd.exec
  have hby := Bd.bytes
  have hml : c.maxLocals = 1 := hml0
  have dd : ∀ {pc : Nat} {r : Except DecodeError (Instr × Nat)}, decode prog_53_method_13_code pc = r → decode c.code pc = r := fun q => hb hby q
  have hown : s.vm.findClass "com/example/arhe/arhe/DoubleValue" = some m.cls := findClass_of_methodNamed Bd.named
  have hnm := (name_of_methodNamed Bd.named Bd.method).1
  have X0 : Stand p l e ({ frames := 0, cells := 0, slots := 0, locals := 0 } : Room) s m #[(.ref a0)] below meth c s₁ [] 0 0 := Stand.of_body Bd
  have e0 : s₁.heap = h0 := by rw [← hh, Bd.state]; rfl
  have N0 := Fr.nil n0
  have hret := Bd.returns
  have hlk := Bd.notSynchronized
  show Gz p e below s ({ frames := 0, cells := 0, slots := 0, locals := 0 } : Room).cells ({ frames := 0, cells := 0, slots := 0, locals := 0 } : Room).slots (Q_rm5 Z a0 dv h0 n0) (s₁.setTop (entryFrame m #[(.ref a0)] 1))
  refine Gz.enter (ef_rm5 m a0) ?_
  refine Gz.aloadN 1 X0 hx (dd d5_0) rfl rfl rfl ?_
  refine Gz.getF 4 X0 hx hZ hown (dd d5_1) (host := "") (Or.inl (ww hw 20 rfl)) Via.refl e0 F_value_a0 rfl fun T1 X1 e1 => ?_
  refine Gz.dconst0 5 X1 hx (dd d5_4) rfl ?_
  refine Gz.dcmp 6 X1 hx (dd d5_5) rfl ?_
  by_cases hc2 : (0 : Int32) < (cmpValue (FP.dcmp dv (0 : UInt64)) .l)
  · refine Gz.ifNo 9 X1 hx (dd d5_6) ((if0 _ _).trans (tlt hc2).2.2.2) rfl ?_
    refine Gz.iconst 10 (1 : Int32) X1 hx (dd d5_9) rfl rfl ?_
    refine Gz.goto 27 X1 hx (dd d5_10) (by decide) (by decide) ?_
    refine Gz.fin X1 (v := some (.int (1 : Int32))) (fun h => by rw [hret] at h; cases h) hlk (by decide) (by decide) (fun fs hr => retI X1 hx hret (dd d5_27) hr) ?_
    rw [e1]
    exact ⟨(by unfold fSig; rw [if_pos hc2]), N0, rfl⟩
  · refine Gz.ifYes 13 X1 hx (dd d5_6) ((if0 _ _).trans (flt hc2).2.2.2) (by decide) (by decide) ?_
    refine Gz.aloadN 14 X1 hx (dd d5_13) rfl rfl rfl ?_
    refine Gz.getF 17 X1 hx hZ hown (dd d5_14) (host := "") (Or.inl (ww hw 20 rfl)) Via.refl e1 F_value_a0 rfl fun T3 X3 e3 => ?_
    refine Gz.dconst0 18 X3 hx (dd d5_17) rfl ?_
    refine Gz.dcmp 19 X3 hx (dd d5_18) rfl ?_
    by_cases hc4 : (cmpValue (FP.dcmp dv (0 : UInt64)) .g) < (0 : Int32)
    · refine Gz.ifNo 22 X3 hx (dd d5_19) ((if0 _ _).trans (tlt hc4).2.1) rfl ?_
      refine Gz.iconst 23 (-1 : Int32) X3 hx (dd d5_22) rfl rfl ?_
      refine Gz.goto 27 X3 hx (dd d5_23) (by decide) (by decide) ?_
      refine Gz.fin X3 (v := some (.int (-1 : Int32))) (fun h => by rw [hret] at h; cases h) hlk (by decide) (by decide) (fun fs hr => retI X3 hx hret (dd d5_27) hr) ?_
      rw [e3]
      exact ⟨(by unfold fSig; rw [if_neg hc2, if_pos hc4]), N0, rfl⟩
    · refine Gz.ifYes 26 X3 hx (dd d5_19) ((if0 _ _).trans (flt hc4).2.1) (by decide) (by decide) ?_
      refine Gz.iconst 27 (0 : Int32) X3 hx (dd d5_26) rfl rfl ?_
      refine Gz.fin X3 (v := some (.int (0 : Int32))) (fun h => by rw [hret] at h; cases h) hlk (by decide) (by decide) (fun fs hr => retI X3 hx hret (dd d5_27) hr) ?_
      rw [e3]
      exact ⟨(by unfold fSig; rw [if_neg hc2, if_neg hc4]), N0, rfl⟩
theorem own_p {a : Addr} {d : UInt64} {z : Int} (S : own_S Jvm.FP.Core.b64 z (Jvm.FP.Core.val64 d)) (h : 0 < z) : fSig a d = (1 : Int32) := by
  unfold fSig; rw [(own_c0 S).1 h]; rfl
theorem own_n {a : Addr} {d : UInt64} {z : Int} (S : own_S Jvm.FP.Core.b64 z (Jvm.FP.Core.val64 d)) (h : z < 0) : fSig a d = (-1 : Int32) := by
  unfold fSig; rw [(own_c0 S).2.1 h]; rfl
theorem own_z {a : Addr} {d : UInt64} {z : Int} (S : own_S Jvm.FP.Core.b64 z (Jvm.FP.Core.val64 d)) (h : z = 0) : fSig a d = (0 : Int32) := by
  unfold fSig; rw [(own_c0 S).2.2 h]; rfl
theorem pd_1 : parseMethodDescriptor "(D)V" = some ⟨[.double], none⟩ := by decide +kernel
abbrev ym2 : MethodName := ⟨"com/example/arhe/arhe/DoubleValue", "<init>", "(D)V"⟩
theorem pd_2 : parseMethodDescriptor "()I" = some ⟨[], some .int⟩ := by decide +kernel
abbrev ym3 : MethodName := ⟨"com/example/arhe/arhe/DoubleValue", "signum", "()I"⟩
theorem pn_3 : plainName "com/example/arhe/arhe/DoubleValueSignumPinLaw" = true := by first | (simp [plainName, overriddenIn]; done) | decide +kernel
theorem ef_rm0 (m : MethodId) (p0 : Int32) (p1 : Int32) : entryFrame m #[(.int p0), (.int p1)] maxLocals = mkF m 0 #[.val (.int p0), .val (.int p1), .unset, .unset, .unset, .unset, .unset] [] := by first | (simp [entryFrame, mkF, argsToLocals, Value.category, maxLocals]; done) | rfl
def Q_law (n0 : Nat) (v : Option Value) (h : Heap) (L : List Loc) : Prop := v = some (.int 1) ∧ Fr n0 L
set_option maxRecDepth 65536 in
set_option maxHeartbeats 40000000 in
theorem rm0 (l : Launch) (Z : State) (av0 : Array Value) (hw : ∀ d ∈ tables_1, d.before av0 Z = true) (ws : List Jvm.Cond) (p0 : Int32) (p1 : Int32) (h0 : Heap) (n0 : Nat) (Z0 : n0 ≤ h0.size)  :
    MetFree l x (head1 (Jvm.Cond.code x code maxLocals ret :: ws) room_1) (fun a U => a = #[(.int p0), (.int p1)] ∧ Z.Warmed39 U.vm ∧ U.heap = h0) (fun _ _ _ _ _ => True) (fun _ U o U' => ∃ v L, o = .returned v ∧ Q_law n0 v U'.heap L ∧ FrameEnd U o U' L 16 128) := by
  refine MetFree.of_bodySF (plainFor_of_name pn_3) hisR ?_
  intro p e s m args below meth c s₁ Bd hml0 hP hK
  obtain ⟨rfl, hZ, hh⟩ := hP
  have hx := Bd.exec
  have hby := Bd.bytes
  have hml : c.maxLocals = 7 := hml0
  have dd : ∀ {pc : Nat} {r : Except DecodeError (Instr × Nat)}, decode code pc = r → decode c.code pc = r := fun q => hb hby q
  have hown : s.vm.findClass "com/example/arhe/arhe/DoubleValueSignumPinLaw" = some m.cls := findClass_of_methodNamed Bd.named
  have hnm := (name_of_methodNamed Bd.named Bd.method).1
  have X0 : Stand p l e room_1 s m #[(.int p0), (.int p1)] below meth c s₁ [] 0 0 := Stand.of_body Bd
  have e0 : s₁.heap = h0 := by rw [← hh, Bd.state]; rfl
  have N0 := Fr.nil n0
  have hret := Bd.returns
  have hlk := Bd.notSynchronized
  show Gz p e below s 16 128 (Q_law n0) (s₁.setTop (entryFrame m #[(.int p0), (.int p1)] maxLocals))
  refine Gz.enter (ef_rm0 m p0 p1) ?_
  refine Gz.iloadN 1 X0 hx (dd at_0) rfl rfl ?_
  refine Gz.iconst 2 (3 : Int32) X0 hx (dd at_1) rfl rfl ?_
  refine Gz.iand 3 X0 hx (dd at_2) rfl ?_
  refine Gz.istoreN 4 #[.val (.int p0), .val (.int p1), .val (.int (p1 &&& (3 : Int32))), .unset, .unset, .unset, .unset] X0 hx (dd at_3) rfl rfl ?_
  refine Gz.iloadN 5 X0 hx (dd at_4) rfl rfl ?_
  refine Gz.iconst 6 (4 : Int32) X0 hx (dd at_5) rfl rfl ?_
  refine Gz.iand 7 X0 hx (dd at_6) rfl ?_
  by_cases hc1 : (p1 &&& (4 : Int32)) = (0 : Int32)
  · refine Gz.ifYes 14 X0 hx (dd at_7) ((if0 _ _).trans (teq hc1).1) (by decide) (by decide) ?_
    refine Gz.iconst 15 (0 : Int32) X0 hx (dd at_14) rfl rfl ?_
    refine Gz.istoreN 16 #[.val (.int p0), .val (.int p1), .val (.int (p1 &&& (3 : Int32))), .val (.int (0 : Int32)), .unset, .unset, .unset] X0 hx (dd at_15) rfl rfl ?_
    refine Gz.iloadN 17 X0 hx (dd at_16) rfl rfl ?_
    refine Gz.i2d 18 X0 hx (dd at_17) rfl ?_
    refine Gz.dstore 20 #[.val (.int p0), .val (.int p1), .val (.int (p1 &&& (3 : Int32))), .val (.int (0 : Int32)), .val (.double (FP.i2d p0)), .second, .unset] X0 hx (dd at_18) rfl rfl ?_
    refine Gz.iloadN 21 X0 hx (dd at_20) rfl rfl ?_
    refine Gz.iconst 22 (1 : Int32) X0 hx (dd at_21) rfl rfl ?_
    by_cases hc2 : (p1 &&& (3 : Int32)) = (1 : Int32)
    · refine Gz.icmpNo 25 X0 hx (dd at_22) (teq hc2).2 rfl ?_
      refine Gz.dload 27 X0 hx (dd at_25) rfl rfl ?_
      refine Gz.ldc2D 30 X0 hx (dd at_27) hown (mvT hZ (ww hw 27 rfl)) rfl ?_
      refine Gz.dmul 31 X0 hx (dd at_30) (own_no (own_k1 p0)) rfl ?_
      refine Gz.ldc2D 34 X0 hx (dd at_31) hown (mvT hZ (ww hw 27 rfl)) rfl ?_
      refine Gz.dmul 35 X0 hx (dd at_34) (own_no (own_k1b p0)) rfl ?_
      refine Gz.dstore 37 #[.val (.int p0), .val (.int p1), .val (.int (p1 &&& (3 : Int32))), .val (.int (0 : Int32)), .val (.double (FP.dmul (FP.dmul (FP.i2d p0) (9094988921128908188 : UInt64)) (9094988921128908188 : UInt64))), .second, .unset] X0 hx (dd at_35) rfl rfl ?_
      refine Gz.goto 69 X0 hx (dd at_37) (by decide) (by decide) ?_
      refine Gz.iloadN 70 X0 hx (dd at_69) rfl rfl ?_
      refine Gz.ifYes 78 X0 hx (dd at_70) ((if0 _ _).trans (teq (by decide : (0 : Int32) = (0 : Int32))).1) (by decide) (by decide) ?_
      refine Gz.iloadN 79 X0 hx (dd at_78) rfl rfl ?_
      by_cases hc3 : (0 : Int32) < p0
      · refine Gz.ifNo 82 X0 hx (dd at_79) ((if0 _ _).trans (tlt hc3).2.2.2) rfl ?_
        refine Gz.iconst 83 (1 : Int32) X0 hx (dd at_82) rfl rfl ?_
        refine Gz.goto 95 X0 hx (dd at_83) (by decide) (by decide) ?_
        refine Gz.istore 97 #[.val (.int p0), .val (.int p1), .val (.int (p1 &&& (3 : Int32))), .val (.int (0 : Int32)), .val (.double (FP.dmul (FP.dmul (FP.i2d p0) (9094988921128908188 : UInt64)) (9094988921128908188 : UInt64))), .second, .val (.int (1 : Int32))] X0 hx (dd at_95) rfl rfl ?_
        refine Gz.iloadN 98 X0 hx (dd at_97) rfl rfl ?_
        refine Gz.ifYes 106 X0 hx (dd at_98) ((if0 _ _).trans (teq (by decide : (0 : Int32) = (0 : Int32))).1) (by decide) (by decide) ?_
        obtain ⟨T4, h4, X4, e4, E4, A4, D4, -, st4⟩ := newO X0 hx hZ hown (ww hw 1 rfl) (ww hw 2 rfl) (ww hw 3 rfl) e0 (g := (mkF m 106 #[.val (.int p0), .val (.int p1), .val (.int (p1 &&& (3 : Int32))), .val (.int (0 : Int32)), .val (.double (FP.dmul (FP.dmul (FP.i2d p0) (9094988921128908188 : UInt64)) (9094988921128908188 : UInt64))), .second, .val (.int (1 : Int32))] [])) rfl (dd at_106) (by decide) (by decide)
        obtain ⟨b4, g4⟩ : ∃ z, z = h0.size := ⟨_, rfl⟩
        rw [← g4] at A4 D4 st4
        have g_b4 : n0 ≤ b4 := Nat.le_trans Z0 (Nat.le_of_eq g4.symm)
        have SZ4 : n0 ≤ h4.size := Nat.le_trans Z0 E4.1
        have F_value_b4 : Fld Z h4 b4 "com/example/arhe/arhe/DoubleValue" "value" "D" (.double 0) := D4 (Or.inr (ww hw 21 rfl)) (ty := .double) (by decide)
        refine Gz.st st4 ?_
        refine Gz.dup 110 X4 hx (dd at_109) rfl rfl ?_
        refine Gz.dload 112 X4 hx (dd at_110) rfl rfl ?_
        obtain ⟨_, _, ⟨T5, L5, k5, n5⟩, -, X5, ⟨Lc5, hQ5, l5, y5, z5⟩, st5⟩ := X4.specialBack hx (y := ym2) rfl hown (mvT hZ (ww hw 4 rfl)) (mvT hZ (ww hw 5 rfl)) (mvT hZ (ww hw 6 rfl)) (by decide) (backOf (W := 1) (rm1 l Z av0 hw [] b4 (FP.dmul (FP.dmul (FP.i2d p0) (9094988921128908188 : UInt64)) (9094988921128908188 : UInt64))  h4 n0 SZ4 A4 F_value_b4 g_b4) hZ (ww hw 6 rfl) (ww hw 3 rfl) (by decide) (by decide)) (g := (mkF m 112 #[.val (.int p0), .val (.int p1), .val (.int (p1 &&& (3 : Int32))), .val (.int (0 : Int32)), .val (.double (FP.dmul (FP.dmul (FP.i2d p0) (9094988921128908188 : UInt64)) (9094988921128908188 : UInt64))), .second, .val (.int (1 : Int32))] [(.double (FP.dmul (FP.dmul (FP.i2d p0) (9094988921128908188 : UInt64)) (9094988921128908188 : UInt64))), (.ref b4), (.ref b4)])) rfl (by rw [hml]; rfl) (Steps.refl _) (a := b4) (argsL := [(.double (FP.dmul (FP.dmul (FP.i2d p0) (9094988921128908188 : UInt64)) (9094988921128908188 : UInt64)))]) (rest := [(.ref b4)]) (lenOf pd_1 rfl) rfl (Nat.le_refl _) (dd at_112) (fun _ _ => ⟨rfl, e4, (by decide : 1 + 0 ≤ _), (by decide : 1 + 0 ≤ _)⟩)
        dsimp only [Pt.U, Pt.locs, Pt.cells, Pt.slots, Q_rm1] at X5 l5 y5 z5 st5 hQ5
        subst l5 y5 z5
        obtain ⟨rfl, N5q, K5q, QE5_0, QF5_0⟩ := hQ5
        have N5 := Fr.app N0 N5q
        have f5_Eb4 := Exa.keep A4 K5q
        have SZ5 := Nat.le_trans SZ4 K5q.1
        refine Gz.tr st5 ?_
        obtain ⟨cq6, kq6, q6a, q6b, q6c⟩ := isOf hZ rfl QE5_0
        obtain ⟨_, _, ⟨T6, L6, k6, n6⟩, -, X6, ⟨Lc6, hQ6, l6, y6, z6⟩, st6⟩ := X5.virtualBack hx (y := ym3) (z := ym3) hown (mvT hZ (ww hw 22 rfl)) (mvT hZ (ww hw 23 rfl)) (notFace_of_selects (args := #[]) (mvT hZ (ww hw 25 rfl))) (mvT hZ (ww hw 25 rfl)) (mvT hZ (ww hw 24 rfl)) (by decide) (backOf (W := 0) (rm5 l Z av0 hw [] b4 (FP.dmul (FP.dmul (FP.i2d p0) (9094988921128908188 : UInt64)) (9094988921128908188 : UInt64)) T5.heap n0 SZ5 QF5_0) hZ (ww hw 26 rfl) (ww hw 3 rfl) (by decide) (by decide)) q6a q6c (g := (mkF m 115 #[.val (.int p0), .val (.int p1), .val (.int (p1 &&& (3 : Int32))), .val (.int (0 : Int32)), .val (.double (FP.dmul (FP.dmul (FP.i2d p0) (9094988921128908188 : UInt64)) (9094988921128908188 : UInt64))), .second, .val (.int (1 : Int32))] [(.ref b4)])) rfl (by rw [hml]; rfl) (Steps.refl _) (argsL := []) (rest := []) (lenOf pd_2 rfl) rfl (Nat.le_refl _) (dd at_115) (fun _ _ => ⟨rfl, rfl, (by decide : 1 + 0 ≤ _), (by decide : 1 + 0 ≤ _)⟩)
        dsimp only [Pt.U, Pt.locs, Pt.cells, Pt.slots, Q_rm5] at X6 l6 y6 z6 st6 hQ6
        subst l6 y6 z6
        obtain ⟨rfl, N6q, e6⟩ := hQ6
        have N6 := Fr.app N5 N6q
        refine Gz.tr st6 ?_
        refine Gz.iload 120 X6 hx (dd at_118) rfl rfl ?_
        refine Gz.icmpNo 123 X6 hx (dd at_120) (teq (own_p (own_k1b p0) (own_g1 hc3) : (fSig b4 (FP.dmul (FP.dmul (FP.i2d p0) (9094988921128908188 : UInt64)) (9094988921128908188 : UInt64))) = (1 : Int32))).2 rfl ?_
        refine Gz.iconst 124 (1 : Int32) X6 hx (dd at_123) rfl rfl ?_
        refine Gz.goto 128 X6 hx (dd at_124) (by decide) (by decide) ?_
        refine Gz.fin X6 (v := some (.int (1 : Int32))) (fun h => by rw [hret] at h; cases h) hlk (by decide) (by decide) (fun fs hr => retN X6 hx (t := .boolean) hret (by simp) (dd at_128) hr) ?_
        exact ⟨rfl, N6⟩
      · refine Gz.ifYes 86 X0 hx (dd at_79) ((if0 _ _).trans (flt hc3).2.2.2) (by decide) (by decide) ?_
        refine Gz.iloadN 87 X0 hx (dd at_86) rfl rfl ?_
        by_cases hc7 : p0 < (0 : Int32)
        · refine Gz.ifNo 90 X0 hx (dd at_87) ((if0 _ _).trans (tlt hc7).2.1) rfl ?_
          refine Gz.iconst 91 (-1 : Int32) X0 hx (dd at_90) rfl rfl ?_
          refine Gz.goto 95 X0 hx (dd at_91) (by decide) (by decide) ?_
          refine Gz.istore 97 #[.val (.int p0), .val (.int p1), .val (.int (p1 &&& (3 : Int32))), .val (.int (0 : Int32)), .val (.double (FP.dmul (FP.dmul (FP.i2d p0) (9094988921128908188 : UInt64)) (9094988921128908188 : UInt64))), .second, .val (.int (-1 : Int32))] X0 hx (dd at_95) rfl rfl ?_
          refine Gz.iloadN 98 X0 hx (dd at_97) rfl rfl ?_
          refine Gz.ifYes 106 X0 hx (dd at_98) ((if0 _ _).trans (teq (by decide : (0 : Int32) = (0 : Int32))).1) (by decide) (by decide) ?_
          obtain ⟨T8, h8, X8, e8, E8, A8, D8, -, st8⟩ := newO X0 hx hZ hown (ww hw 1 rfl) (ww hw 2 rfl) (ww hw 3 rfl) e0 (g := (mkF m 106 #[.val (.int p0), .val (.int p1), .val (.int (p1 &&& (3 : Int32))), .val (.int (0 : Int32)), .val (.double (FP.dmul (FP.dmul (FP.i2d p0) (9094988921128908188 : UInt64)) (9094988921128908188 : UInt64))), .second, .val (.int (-1 : Int32))] [])) rfl (dd at_106) (by decide) (by decide)
          obtain ⟨b8, g8⟩ : ∃ z, z = h0.size := ⟨_, rfl⟩
          rw [← g8] at A8 D8 st8
          have g_b8 : n0 ≤ b8 := Nat.le_trans Z0 (Nat.le_of_eq g8.symm)
          have SZ8 : n0 ≤ h8.size := Nat.le_trans Z0 E8.1
          have F_value_b8 : Fld Z h8 b8 "com/example/arhe/arhe/DoubleValue" "value" "D" (.double 0) := D8 (Or.inr (ww hw 21 rfl)) (ty := .double) (by decide)
          refine Gz.st st8 ?_
          refine Gz.dup 110 X8 hx (dd at_109) rfl rfl ?_
          refine Gz.dload 112 X8 hx (dd at_110) rfl rfl ?_
          obtain ⟨_, _, ⟨T9, L9, k9, n9⟩, -, X9, ⟨Lc9, hQ9, l9, y9, z9⟩, st9⟩ := X8.specialBack hx (y := ym2) rfl hown (mvT hZ (ww hw 4 rfl)) (mvT hZ (ww hw 5 rfl)) (mvT hZ (ww hw 6 rfl)) (by decide) (backOf (W := 1) (rm1 l Z av0 hw [] b8 (FP.dmul (FP.dmul (FP.i2d p0) (9094988921128908188 : UInt64)) (9094988921128908188 : UInt64))  h8 n0 SZ8 A8 F_value_b8 g_b8) hZ (ww hw 6 rfl) (ww hw 3 rfl) (by decide) (by decide)) (g := (mkF m 112 #[.val (.int p0), .val (.int p1), .val (.int (p1 &&& (3 : Int32))), .val (.int (0 : Int32)), .val (.double (FP.dmul (FP.dmul (FP.i2d p0) (9094988921128908188 : UInt64)) (9094988921128908188 : UInt64))), .second, .val (.int (-1 : Int32))] [(.double (FP.dmul (FP.dmul (FP.i2d p0) (9094988921128908188 : UInt64)) (9094988921128908188 : UInt64))), (.ref b8), (.ref b8)])) rfl (by rw [hml]; rfl) (Steps.refl _) (a := b8) (argsL := [(.double (FP.dmul (FP.dmul (FP.i2d p0) (9094988921128908188 : UInt64)) (9094988921128908188 : UInt64)))]) (rest := [(.ref b8)]) (lenOf pd_1 rfl) rfl (Nat.le_refl _) (dd at_112) (fun _ _ => ⟨rfl, e8, (by decide : 1 + 0 ≤ _), (by decide : 1 + 0 ≤ _)⟩)
          dsimp only [Pt.U, Pt.locs, Pt.cells, Pt.slots, Q_rm1] at X9 l9 y9 z9 st9 hQ9
          subst l9 y9 z9
          obtain ⟨rfl, N9q, K9q, QE9_0, QF9_0⟩ := hQ9
          have N9 := Fr.app N0 N9q
          have f9_Eb8 := Exa.keep A8 K9q
          have SZ9 := Nat.le_trans SZ8 K9q.1
          refine Gz.tr st9 ?_
          obtain ⟨cq10, kq10, q10a, q10b, q10c⟩ := isOf hZ rfl QE9_0
          obtain ⟨_, _, ⟨T10, L10, k10, n10⟩, -, X10, ⟨Lc10, hQ10, l10, y10, z10⟩, st10⟩ := X9.virtualBack hx (y := ym3) (z := ym3) hown (mvT hZ (ww hw 22 rfl)) (mvT hZ (ww hw 23 rfl)) (notFace_of_selects (args := #[]) (mvT hZ (ww hw 25 rfl))) (mvT hZ (ww hw 25 rfl)) (mvT hZ (ww hw 24 rfl)) (by decide) (backOf (W := 0) (rm5 l Z av0 hw [] b8 (FP.dmul (FP.dmul (FP.i2d p0) (9094988921128908188 : UInt64)) (9094988921128908188 : UInt64)) T9.heap n0 SZ9 QF9_0) hZ (ww hw 26 rfl) (ww hw 3 rfl) (by decide) (by decide)) q10a q10c (g := (mkF m 115 #[.val (.int p0), .val (.int p1), .val (.int (p1 &&& (3 : Int32))), .val (.int (0 : Int32)), .val (.double (FP.dmul (FP.dmul (FP.i2d p0) (9094988921128908188 : UInt64)) (9094988921128908188 : UInt64))), .second, .val (.int (-1 : Int32))] [(.ref b8)])) rfl (by rw [hml]; rfl) (Steps.refl _) (argsL := []) (rest := []) (lenOf pd_2 rfl) rfl (Nat.le_refl _) (dd at_115) (fun _ _ => ⟨rfl, rfl, (by decide : 1 + 0 ≤ _), (by decide : 1 + 0 ≤ _)⟩)
          dsimp only [Pt.U, Pt.locs, Pt.cells, Pt.slots, Q_rm5] at X10 l10 y10 z10 st10 hQ10
          subst l10 y10 z10
          obtain ⟨rfl, N10q, e10⟩ := hQ10
          have N10 := Fr.app N9 N10q
          refine Gz.tr st10 ?_
          refine Gz.iload 120 X10 hx (dd at_118) rfl rfl ?_
          refine Gz.icmpNo 123 X10 hx (dd at_120) (teq (own_n (own_k1b p0) (own_l1 hc7) : (fSig b8 (FP.dmul (FP.dmul (FP.i2d p0) (9094988921128908188 : UInt64)) (9094988921128908188 : UInt64))) = (-1 : Int32))).2 rfl ?_
          refine Gz.iconst 124 (1 : Int32) X10 hx (dd at_123) rfl rfl ?_
          refine Gz.goto 128 X10 hx (dd at_124) (by decide) (by decide) ?_
          refine Gz.fin X10 (v := some (.int (1 : Int32))) (fun h => by rw [hret] at h; cases h) hlk (by decide) (by decide) (fun fs hr => retN X10 hx (t := .boolean) hret (by simp) (dd at_128) hr) ?_
          exact ⟨rfl, N10⟩
        · refine Gz.ifYes 94 X0 hx (dd at_87) ((if0 _ _).trans (flt hc7).2.1) (by decide) (by decide) ?_
          refine Gz.iconst 95 (0 : Int32) X0 hx (dd at_94) rfl rfl ?_
          refine Gz.istore 97 #[.val (.int p0), .val (.int p1), .val (.int (p1 &&& (3 : Int32))), .val (.int (0 : Int32)), .val (.double (FP.dmul (FP.dmul (FP.i2d p0) (9094988921128908188 : UInt64)) (9094988921128908188 : UInt64))), .second, .val (.int (0 : Int32))] X0 hx (dd at_95) rfl rfl ?_
          refine Gz.iloadN 98 X0 hx (dd at_97) rfl rfl ?_
          refine Gz.ifYes 106 X0 hx (dd at_98) ((if0 _ _).trans (teq (by decide : (0 : Int32) = (0 : Int32))).1) (by decide) (by decide) ?_
          obtain ⟨T11, h11, X11, e11, E11, A11, D11, -, st11⟩ := newO X0 hx hZ hown (ww hw 1 rfl) (ww hw 2 rfl) (ww hw 3 rfl) e0 (g := (mkF m 106 #[.val (.int p0), .val (.int p1), .val (.int (p1 &&& (3 : Int32))), .val (.int (0 : Int32)), .val (.double (FP.dmul (FP.dmul (FP.i2d p0) (9094988921128908188 : UInt64)) (9094988921128908188 : UInt64))), .second, .val (.int (0 : Int32))] [])) rfl (dd at_106) (by decide) (by decide)
          obtain ⟨b11, g11⟩ : ∃ z, z = h0.size := ⟨_, rfl⟩
          rw [← g11] at A11 D11 st11
          have g_b11 : n0 ≤ b11 := Nat.le_trans Z0 (Nat.le_of_eq g11.symm)
          have SZ11 : n0 ≤ h11.size := Nat.le_trans Z0 E11.1
          have F_value_b11 : Fld Z h11 b11 "com/example/arhe/arhe/DoubleValue" "value" "D" (.double 0) := D11 (Or.inr (ww hw 21 rfl)) (ty := .double) (by decide)
          refine Gz.st st11 ?_
          refine Gz.dup 110 X11 hx (dd at_109) rfl rfl ?_
          refine Gz.dload 112 X11 hx (dd at_110) rfl rfl ?_
          obtain ⟨_, _, ⟨T12, L12, k12, n12⟩, -, X12, ⟨Lc12, hQ12, l12, y12, z12⟩, st12⟩ := X11.specialBack hx (y := ym2) rfl hown (mvT hZ (ww hw 4 rfl)) (mvT hZ (ww hw 5 rfl)) (mvT hZ (ww hw 6 rfl)) (by decide) (backOf (W := 1) (rm1 l Z av0 hw [] b11 (FP.dmul (FP.dmul (FP.i2d p0) (9094988921128908188 : UInt64)) (9094988921128908188 : UInt64))  h11 n0 SZ11 A11 F_value_b11 g_b11) hZ (ww hw 6 rfl) (ww hw 3 rfl) (by decide) (by decide)) (g := (mkF m 112 #[.val (.int p0), .val (.int p1), .val (.int (p1 &&& (3 : Int32))), .val (.int (0 : Int32)), .val (.double (FP.dmul (FP.dmul (FP.i2d p0) (9094988921128908188 : UInt64)) (9094988921128908188 : UInt64))), .second, .val (.int (0 : Int32))] [(.double (FP.dmul (FP.dmul (FP.i2d p0) (9094988921128908188 : UInt64)) (9094988921128908188 : UInt64))), (.ref b11), (.ref b11)])) rfl (by rw [hml]; rfl) (Steps.refl _) (a := b11) (argsL := [(.double (FP.dmul (FP.dmul (FP.i2d p0) (9094988921128908188 : UInt64)) (9094988921128908188 : UInt64)))]) (rest := [(.ref b11)]) (lenOf pd_1 rfl) rfl (Nat.le_refl _) (dd at_112) (fun _ _ => ⟨rfl, e11, (by decide : 1 + 0 ≤ _), (by decide : 1 + 0 ≤ _)⟩)
          dsimp only [Pt.U, Pt.locs, Pt.cells, Pt.slots, Q_rm1] at X12 l12 y12 z12 st12 hQ12
          subst l12 y12 z12
          obtain ⟨rfl, N12q, K12q, QE12_0, QF12_0⟩ := hQ12
          have N12 := Fr.app N0 N12q
          have f12_Eb11 := Exa.keep A11 K12q
          have SZ12 := Nat.le_trans SZ11 K12q.1
          refine Gz.tr st12 ?_
          obtain ⟨cq13, kq13, q13a, q13b, q13c⟩ := isOf hZ rfl QE12_0
          obtain ⟨_, _, ⟨T13, L13, k13, n13⟩, -, X13, ⟨Lc13, hQ13, l13, y13, z13⟩, st13⟩ := X12.virtualBack hx (y := ym3) (z := ym3) hown (mvT hZ (ww hw 22 rfl)) (mvT hZ (ww hw 23 rfl)) (notFace_of_selects (args := #[]) (mvT hZ (ww hw 25 rfl))) (mvT hZ (ww hw 25 rfl)) (mvT hZ (ww hw 24 rfl)) (by decide) (backOf (W := 0) (rm5 l Z av0 hw [] b11 (FP.dmul (FP.dmul (FP.i2d p0) (9094988921128908188 : UInt64)) (9094988921128908188 : UInt64)) T12.heap n0 SZ12 QF12_0) hZ (ww hw 26 rfl) (ww hw 3 rfl) (by decide) (by decide)) q13a q13c (g := (mkF m 115 #[.val (.int p0), .val (.int p1), .val (.int (p1 &&& (3 : Int32))), .val (.int (0 : Int32)), .val (.double (FP.dmul (FP.dmul (FP.i2d p0) (9094988921128908188 : UInt64)) (9094988921128908188 : UInt64))), .second, .val (.int (0 : Int32))] [(.ref b11)])) rfl (by rw [hml]; rfl) (Steps.refl _) (argsL := []) (rest := []) (lenOf pd_2 rfl) rfl (Nat.le_refl _) (dd at_115) (fun _ _ => ⟨rfl, rfl, (by decide : 1 + 0 ≤ _), (by decide : 1 + 0 ≤ _)⟩)
          dsimp only [Pt.U, Pt.locs, Pt.cells, Pt.slots, Q_rm5] at X13 l13 y13 z13 st13 hQ13
          subst l13 y13 z13
          obtain ⟨rfl, N13q, e13⟩ := hQ13
          have N13 := Fr.app N12 N13q
          refine Gz.tr st13 ?_
          refine Gz.iload 120 X13 hx (dd at_118) rfl rfl ?_
          refine Gz.icmpNo 123 X13 hx (dd at_120) (teq (own_z (own_k1b p0) (own_z1 hc3 hc7) : (fSig b11 (FP.dmul (FP.dmul (FP.i2d p0) (9094988921128908188 : UInt64)) (9094988921128908188 : UInt64))) = (0 : Int32))).2 rfl ?_
          refine Gz.iconst 124 (1 : Int32) X13 hx (dd at_123) rfl rfl ?_
          refine Gz.goto 128 X13 hx (dd at_124) (by decide) (by decide) ?_
          refine Gz.fin X13 (v := some (.int (1 : Int32))) (fun h => by rw [hret] at h; cases h) hlk (by decide) (by decide) (fun fs hr => retN X13 hx (t := .boolean) hret (by simp) (dd at_128) hr) ?_
          exact ⟨rfl, N13⟩
    · refine Gz.icmpYes 40 X0 hx (dd at_22) (feq hc2).2 (by decide) (by decide) ?_
      refine Gz.iloadN 41 X0 hx (dd at_40) rfl rfl ?_
      refine Gz.iconst 42 (2 : Int32) X0 hx (dd at_41) rfl rfl ?_
      by_cases hc14 : (p1 &&& (3 : Int32)) = (2 : Int32)
      · refine Gz.icmpNo 45 X0 hx (dd at_42) (teq hc14).2 rfl ?_
        refine Gz.dload 47 X0 hx (dd at_45) rfl rfl ?_
        refine Gz.ldc2D 50 X0 hx (dd at_47) hown (mvT hZ (ww hw 28 rfl)) rfl ?_
        refine Gz.dmul 51 X0 hx (dd at_50) (own_no (own_k2 p0)) rfl ?_
        refine Gz.dstore 53 #[.val (.int p0), .val (.int p1), .val (.int (p1 &&& (3 : Int32))), .val (.int (0 : Int32)), .val (.double (FP.dmul (FP.i2d p0) (1 : UInt64))), .second, .unset] X0 hx (dd at_51) rfl rfl ?_
        refine Gz.goto 69 X0 hx (dd at_53) (by decide) (by decide) ?_
        refine Gz.iloadN 70 X0 hx (dd at_69) rfl rfl ?_
        refine Gz.ifYes 78 X0 hx (dd at_70) ((if0 _ _).trans (teq (by decide : (0 : Int32) = (0 : Int32))).1) (by decide) (by decide) ?_
        refine Gz.iloadN 79 X0 hx (dd at_78) rfl rfl ?_
        by_cases hc15 : (0 : Int32) < p0
        · refine Gz.ifNo 82 X0 hx (dd at_79) ((if0 _ _).trans (tlt hc15).2.2.2) rfl ?_
          refine Gz.iconst 83 (1 : Int32) X0 hx (dd at_82) rfl rfl ?_
          refine Gz.goto 95 X0 hx (dd at_83) (by decide) (by decide) ?_
          refine Gz.istore 97 #[.val (.int p0), .val (.int p1), .val (.int (p1 &&& (3 : Int32))), .val (.int (0 : Int32)), .val (.double (FP.dmul (FP.i2d p0) (1 : UInt64))), .second, .val (.int (1 : Int32))] X0 hx (dd at_95) rfl rfl ?_
          refine Gz.iloadN 98 X0 hx (dd at_97) rfl rfl ?_
          refine Gz.ifYes 106 X0 hx (dd at_98) ((if0 _ _).trans (teq (by decide : (0 : Int32) = (0 : Int32))).1) (by decide) (by decide) ?_
          obtain ⟨T16, h16, X16, e16, E16, A16, D16, -, st16⟩ := newO X0 hx hZ hown (ww hw 1 rfl) (ww hw 2 rfl) (ww hw 3 rfl) e0 (g := (mkF m 106 #[.val (.int p0), .val (.int p1), .val (.int (p1 &&& (3 : Int32))), .val (.int (0 : Int32)), .val (.double (FP.dmul (FP.i2d p0) (1 : UInt64))), .second, .val (.int (1 : Int32))] [])) rfl (dd at_106) (by decide) (by decide)
          obtain ⟨b16, g16⟩ : ∃ z, z = h0.size := ⟨_, rfl⟩
          rw [← g16] at A16 D16 st16
          have g_b16 : n0 ≤ b16 := Nat.le_trans Z0 (Nat.le_of_eq g16.symm)
          have SZ16 : n0 ≤ h16.size := Nat.le_trans Z0 E16.1
          have F_value_b16 : Fld Z h16 b16 "com/example/arhe/arhe/DoubleValue" "value" "D" (.double 0) := D16 (Or.inr (ww hw 21 rfl)) (ty := .double) (by decide)
          refine Gz.st st16 ?_
          refine Gz.dup 110 X16 hx (dd at_109) rfl rfl ?_
          refine Gz.dload 112 X16 hx (dd at_110) rfl rfl ?_
          obtain ⟨_, _, ⟨T17, L17, k17, n17⟩, -, X17, ⟨Lc17, hQ17, l17, y17, z17⟩, st17⟩ := X16.specialBack hx (y := ym2) rfl hown (mvT hZ (ww hw 4 rfl)) (mvT hZ (ww hw 5 rfl)) (mvT hZ (ww hw 6 rfl)) (by decide) (backOf (W := 1) (rm1 l Z av0 hw [] b16 (FP.dmul (FP.i2d p0) (1 : UInt64))  h16 n0 SZ16 A16 F_value_b16 g_b16) hZ (ww hw 6 rfl) (ww hw 3 rfl) (by decide) (by decide)) (g := (mkF m 112 #[.val (.int p0), .val (.int p1), .val (.int (p1 &&& (3 : Int32))), .val (.int (0 : Int32)), .val (.double (FP.dmul (FP.i2d p0) (1 : UInt64))), .second, .val (.int (1 : Int32))] [(.double (FP.dmul (FP.i2d p0) (1 : UInt64))), (.ref b16), (.ref b16)])) rfl (by rw [hml]; rfl) (Steps.refl _) (a := b16) (argsL := [(.double (FP.dmul (FP.i2d p0) (1 : UInt64)))]) (rest := [(.ref b16)]) (lenOf pd_1 rfl) rfl (Nat.le_refl _) (dd at_112) (fun _ _ => ⟨rfl, e16, (by decide : 1 + 0 ≤ _), (by decide : 1 + 0 ≤ _)⟩)
          dsimp only [Pt.U, Pt.locs, Pt.cells, Pt.slots, Q_rm1] at X17 l17 y17 z17 st17 hQ17
          subst l17 y17 z17
          obtain ⟨rfl, N17q, K17q, QE17_0, QF17_0⟩ := hQ17
          have N17 := Fr.app N0 N17q
          have f17_Eb16 := Exa.keep A16 K17q
          have SZ17 := Nat.le_trans SZ16 K17q.1
          refine Gz.tr st17 ?_
          obtain ⟨cq18, kq18, q18a, q18b, q18c⟩ := isOf hZ rfl QE17_0
          obtain ⟨_, _, ⟨T18, L18, k18, n18⟩, -, X18, ⟨Lc18, hQ18, l18, y18, z18⟩, st18⟩ := X17.virtualBack hx (y := ym3) (z := ym3) hown (mvT hZ (ww hw 22 rfl)) (mvT hZ (ww hw 23 rfl)) (notFace_of_selects (args := #[]) (mvT hZ (ww hw 25 rfl))) (mvT hZ (ww hw 25 rfl)) (mvT hZ (ww hw 24 rfl)) (by decide) (backOf (W := 0) (rm5 l Z av0 hw [] b16 (FP.dmul (FP.i2d p0) (1 : UInt64)) T17.heap n0 SZ17 QF17_0) hZ (ww hw 26 rfl) (ww hw 3 rfl) (by decide) (by decide)) q18a q18c (g := (mkF m 115 #[.val (.int p0), .val (.int p1), .val (.int (p1 &&& (3 : Int32))), .val (.int (0 : Int32)), .val (.double (FP.dmul (FP.i2d p0) (1 : UInt64))), .second, .val (.int (1 : Int32))] [(.ref b16)])) rfl (by rw [hml]; rfl) (Steps.refl _) (argsL := []) (rest := []) (lenOf pd_2 rfl) rfl (Nat.le_refl _) (dd at_115) (fun _ _ => ⟨rfl, rfl, (by decide : 1 + 0 ≤ _), (by decide : 1 + 0 ≤ _)⟩)
          dsimp only [Pt.U, Pt.locs, Pt.cells, Pt.slots, Q_rm5] at X18 l18 y18 z18 st18 hQ18
          subst l18 y18 z18
          obtain ⟨rfl, N18q, e18⟩ := hQ18
          have N18 := Fr.app N17 N18q
          refine Gz.tr st18 ?_
          refine Gz.iload 120 X18 hx (dd at_118) rfl rfl ?_
          refine Gz.icmpNo 123 X18 hx (dd at_120) (teq (own_p (own_k2 p0) (own_g1 hc15) : (fSig b16 (FP.dmul (FP.i2d p0) (1 : UInt64))) = (1 : Int32))).2 rfl ?_
          refine Gz.iconst 124 (1 : Int32) X18 hx (dd at_123) rfl rfl ?_
          refine Gz.goto 128 X18 hx (dd at_124) (by decide) (by decide) ?_
          refine Gz.fin X18 (v := some (.int (1 : Int32))) (fun h => by rw [hret] at h; cases h) hlk (by decide) (by decide) (fun fs hr => retN X18 hx (t := .boolean) hret (by simp) (dd at_128) hr) ?_
          exact ⟨rfl, N18⟩
        · refine Gz.ifYes 86 X0 hx (dd at_79) ((if0 _ _).trans (flt hc15).2.2.2) (by decide) (by decide) ?_
          refine Gz.iloadN 87 X0 hx (dd at_86) rfl rfl ?_
          by_cases hc19 : p0 < (0 : Int32)
          · refine Gz.ifNo 90 X0 hx (dd at_87) ((if0 _ _).trans (tlt hc19).2.1) rfl ?_
            refine Gz.iconst 91 (-1 : Int32) X0 hx (dd at_90) rfl rfl ?_
            refine Gz.goto 95 X0 hx (dd at_91) (by decide) (by decide) ?_
            refine Gz.istore 97 #[.val (.int p0), .val (.int p1), .val (.int (p1 &&& (3 : Int32))), .val (.int (0 : Int32)), .val (.double (FP.dmul (FP.i2d p0) (1 : UInt64))), .second, .val (.int (-1 : Int32))] X0 hx (dd at_95) rfl rfl ?_
            refine Gz.iloadN 98 X0 hx (dd at_97) rfl rfl ?_
            refine Gz.ifYes 106 X0 hx (dd at_98) ((if0 _ _).trans (teq (by decide : (0 : Int32) = (0 : Int32))).1) (by decide) (by decide) ?_
            obtain ⟨T20, h20, X20, e20, E20, A20, D20, -, st20⟩ := newO X0 hx hZ hown (ww hw 1 rfl) (ww hw 2 rfl) (ww hw 3 rfl) e0 (g := (mkF m 106 #[.val (.int p0), .val (.int p1), .val (.int (p1 &&& (3 : Int32))), .val (.int (0 : Int32)), .val (.double (FP.dmul (FP.i2d p0) (1 : UInt64))), .second, .val (.int (-1 : Int32))] [])) rfl (dd at_106) (by decide) (by decide)
            obtain ⟨b20, g20⟩ : ∃ z, z = h0.size := ⟨_, rfl⟩
            rw [← g20] at A20 D20 st20
            have g_b20 : n0 ≤ b20 := Nat.le_trans Z0 (Nat.le_of_eq g20.symm)
            have SZ20 : n0 ≤ h20.size := Nat.le_trans Z0 E20.1
            have F_value_b20 : Fld Z h20 b20 "com/example/arhe/arhe/DoubleValue" "value" "D" (.double 0) := D20 (Or.inr (ww hw 21 rfl)) (ty := .double) (by decide)
            refine Gz.st st20 ?_
            refine Gz.dup 110 X20 hx (dd at_109) rfl rfl ?_
            refine Gz.dload 112 X20 hx (dd at_110) rfl rfl ?_
            obtain ⟨_, _, ⟨T21, L21, k21, n21⟩, -, X21, ⟨Lc21, hQ21, l21, y21, z21⟩, st21⟩ := X20.specialBack hx (y := ym2) rfl hown (mvT hZ (ww hw 4 rfl)) (mvT hZ (ww hw 5 rfl)) (mvT hZ (ww hw 6 rfl)) (by decide) (backOf (W := 1) (rm1 l Z av0 hw [] b20 (FP.dmul (FP.i2d p0) (1 : UInt64))  h20 n0 SZ20 A20 F_value_b20 g_b20) hZ (ww hw 6 rfl) (ww hw 3 rfl) (by decide) (by decide)) (g := (mkF m 112 #[.val (.int p0), .val (.int p1), .val (.int (p1 &&& (3 : Int32))), .val (.int (0 : Int32)), .val (.double (FP.dmul (FP.i2d p0) (1 : UInt64))), .second, .val (.int (-1 : Int32))] [(.double (FP.dmul (FP.i2d p0) (1 : UInt64))), (.ref b20), (.ref b20)])) rfl (by rw [hml]; rfl) (Steps.refl _) (a := b20) (argsL := [(.double (FP.dmul (FP.i2d p0) (1 : UInt64)))]) (rest := [(.ref b20)]) (lenOf pd_1 rfl) rfl (Nat.le_refl _) (dd at_112) (fun _ _ => ⟨rfl, e20, (by decide : 1 + 0 ≤ _), (by decide : 1 + 0 ≤ _)⟩)
            dsimp only [Pt.U, Pt.locs, Pt.cells, Pt.slots, Q_rm1] at X21 l21 y21 z21 st21 hQ21
            subst l21 y21 z21
            obtain ⟨rfl, N21q, K21q, QE21_0, QF21_0⟩ := hQ21
            have N21 := Fr.app N0 N21q
            have f21_Eb20 := Exa.keep A20 K21q
            have SZ21 := Nat.le_trans SZ20 K21q.1
            refine Gz.tr st21 ?_
            obtain ⟨cq22, kq22, q22a, q22b, q22c⟩ := isOf hZ rfl QE21_0
            obtain ⟨_, _, ⟨T22, L22, k22, n22⟩, -, X22, ⟨Lc22, hQ22, l22, y22, z22⟩, st22⟩ := X21.virtualBack hx (y := ym3) (z := ym3) hown (mvT hZ (ww hw 22 rfl)) (mvT hZ (ww hw 23 rfl)) (notFace_of_selects (args := #[]) (mvT hZ (ww hw 25 rfl))) (mvT hZ (ww hw 25 rfl)) (mvT hZ (ww hw 24 rfl)) (by decide) (backOf (W := 0) (rm5 l Z av0 hw [] b20 (FP.dmul (FP.i2d p0) (1 : UInt64)) T21.heap n0 SZ21 QF21_0) hZ (ww hw 26 rfl) (ww hw 3 rfl) (by decide) (by decide)) q22a q22c (g := (mkF m 115 #[.val (.int p0), .val (.int p1), .val (.int (p1 &&& (3 : Int32))), .val (.int (0 : Int32)), .val (.double (FP.dmul (FP.i2d p0) (1 : UInt64))), .second, .val (.int (-1 : Int32))] [(.ref b20)])) rfl (by rw [hml]; rfl) (Steps.refl _) (argsL := []) (rest := []) (lenOf pd_2 rfl) rfl (Nat.le_refl _) (dd at_115) (fun _ _ => ⟨rfl, rfl, (by decide : 1 + 0 ≤ _), (by decide : 1 + 0 ≤ _)⟩)
            dsimp only [Pt.U, Pt.locs, Pt.cells, Pt.slots, Q_rm5] at X22 l22 y22 z22 st22 hQ22
            subst l22 y22 z22
            obtain ⟨rfl, N22q, e22⟩ := hQ22
            have N22 := Fr.app N21 N22q
            refine Gz.tr st22 ?_
            refine Gz.iload 120 X22 hx (dd at_118) rfl rfl ?_
            refine Gz.icmpNo 123 X22 hx (dd at_120) (teq (own_n (own_k2 p0) (own_l1 hc19) : (fSig b20 (FP.dmul (FP.i2d p0) (1 : UInt64))) = (-1 : Int32))).2 rfl ?_
            refine Gz.iconst 124 (1 : Int32) X22 hx (dd at_123) rfl rfl ?_
            refine Gz.goto 128 X22 hx (dd at_124) (by decide) (by decide) ?_
            refine Gz.fin X22 (v := some (.int (1 : Int32))) (fun h => by rw [hret] at h; cases h) hlk (by decide) (by decide) (fun fs hr => retN X22 hx (t := .boolean) hret (by simp) (dd at_128) hr) ?_
            exact ⟨rfl, N22⟩
          · refine Gz.ifYes 94 X0 hx (dd at_87) ((if0 _ _).trans (flt hc19).2.1) (by decide) (by decide) ?_
            refine Gz.iconst 95 (0 : Int32) X0 hx (dd at_94) rfl rfl ?_
            refine Gz.istore 97 #[.val (.int p0), .val (.int p1), .val (.int (p1 &&& (3 : Int32))), .val (.int (0 : Int32)), .val (.double (FP.dmul (FP.i2d p0) (1 : UInt64))), .second, .val (.int (0 : Int32))] X0 hx (dd at_95) rfl rfl ?_
            refine Gz.iloadN 98 X0 hx (dd at_97) rfl rfl ?_
            refine Gz.ifYes 106 X0 hx (dd at_98) ((if0 _ _).trans (teq (by decide : (0 : Int32) = (0 : Int32))).1) (by decide) (by decide) ?_
            obtain ⟨T23, h23, X23, e23, E23, A23, D23, -, st23⟩ := newO X0 hx hZ hown (ww hw 1 rfl) (ww hw 2 rfl) (ww hw 3 rfl) e0 (g := (mkF m 106 #[.val (.int p0), .val (.int p1), .val (.int (p1 &&& (3 : Int32))), .val (.int (0 : Int32)), .val (.double (FP.dmul (FP.i2d p0) (1 : UInt64))), .second, .val (.int (0 : Int32))] [])) rfl (dd at_106) (by decide) (by decide)
            obtain ⟨b23, g23⟩ : ∃ z, z = h0.size := ⟨_, rfl⟩
            rw [← g23] at A23 D23 st23
            have g_b23 : n0 ≤ b23 := Nat.le_trans Z0 (Nat.le_of_eq g23.symm)
            have SZ23 : n0 ≤ h23.size := Nat.le_trans Z0 E23.1
            have F_value_b23 : Fld Z h23 b23 "com/example/arhe/arhe/DoubleValue" "value" "D" (.double 0) := D23 (Or.inr (ww hw 21 rfl)) (ty := .double) (by decide)
            refine Gz.st st23 ?_
            refine Gz.dup 110 X23 hx (dd at_109) rfl rfl ?_
            refine Gz.dload 112 X23 hx (dd at_110) rfl rfl ?_
            obtain ⟨_, _, ⟨T24, L24, k24, n24⟩, -, X24, ⟨Lc24, hQ24, l24, y24, z24⟩, st24⟩ := X23.specialBack hx (y := ym2) rfl hown (mvT hZ (ww hw 4 rfl)) (mvT hZ (ww hw 5 rfl)) (mvT hZ (ww hw 6 rfl)) (by decide) (backOf (W := 1) (rm1 l Z av0 hw [] b23 (FP.dmul (FP.i2d p0) (1 : UInt64))  h23 n0 SZ23 A23 F_value_b23 g_b23) hZ (ww hw 6 rfl) (ww hw 3 rfl) (by decide) (by decide)) (g := (mkF m 112 #[.val (.int p0), .val (.int p1), .val (.int (p1 &&& (3 : Int32))), .val (.int (0 : Int32)), .val (.double (FP.dmul (FP.i2d p0) (1 : UInt64))), .second, .val (.int (0 : Int32))] [(.double (FP.dmul (FP.i2d p0) (1 : UInt64))), (.ref b23), (.ref b23)])) rfl (by rw [hml]; rfl) (Steps.refl _) (a := b23) (argsL := [(.double (FP.dmul (FP.i2d p0) (1 : UInt64)))]) (rest := [(.ref b23)]) (lenOf pd_1 rfl) rfl (Nat.le_refl _) (dd at_112) (fun _ _ => ⟨rfl, e23, (by decide : 1 + 0 ≤ _), (by decide : 1 + 0 ≤ _)⟩)
            dsimp only [Pt.U, Pt.locs, Pt.cells, Pt.slots, Q_rm1] at X24 l24 y24 z24 st24 hQ24
            subst l24 y24 z24
            obtain ⟨rfl, N24q, K24q, QE24_0, QF24_0⟩ := hQ24
            have N24 := Fr.app N0 N24q
            have f24_Eb23 := Exa.keep A23 K24q
            have SZ24 := Nat.le_trans SZ23 K24q.1
            refine Gz.tr st24 ?_
            obtain ⟨cq25, kq25, q25a, q25b, q25c⟩ := isOf hZ rfl QE24_0
            obtain ⟨_, _, ⟨T25, L25, k25, n25⟩, -, X25, ⟨Lc25, hQ25, l25, y25, z25⟩, st25⟩ := X24.virtualBack hx (y := ym3) (z := ym3) hown (mvT hZ (ww hw 22 rfl)) (mvT hZ (ww hw 23 rfl)) (notFace_of_selects (args := #[]) (mvT hZ (ww hw 25 rfl))) (mvT hZ (ww hw 25 rfl)) (mvT hZ (ww hw 24 rfl)) (by decide) (backOf (W := 0) (rm5 l Z av0 hw [] b23 (FP.dmul (FP.i2d p0) (1 : UInt64)) T24.heap n0 SZ24 QF24_0) hZ (ww hw 26 rfl) (ww hw 3 rfl) (by decide) (by decide)) q25a q25c (g := (mkF m 115 #[.val (.int p0), .val (.int p1), .val (.int (p1 &&& (3 : Int32))), .val (.int (0 : Int32)), .val (.double (FP.dmul (FP.i2d p0) (1 : UInt64))), .second, .val (.int (0 : Int32))] [(.ref b23)])) rfl (by rw [hml]; rfl) (Steps.refl _) (argsL := []) (rest := []) (lenOf pd_2 rfl) rfl (Nat.le_refl _) (dd at_115) (fun _ _ => ⟨rfl, rfl, (by decide : 1 + 0 ≤ _), (by decide : 1 + 0 ≤ _)⟩)
            dsimp only [Pt.U, Pt.locs, Pt.cells, Pt.slots, Q_rm5] at X25 l25 y25 z25 st25 hQ25
            subst l25 y25 z25
            obtain ⟨rfl, N25q, e25⟩ := hQ25
            have N25 := Fr.app N24 N25q
            refine Gz.tr st25 ?_
            refine Gz.iload 120 X25 hx (dd at_118) rfl rfl ?_
            refine Gz.icmpNo 123 X25 hx (dd at_120) (teq (own_z (own_k2 p0) (own_z1 hc15 hc19) : (fSig b23 (FP.dmul (FP.i2d p0) (1 : UInt64))) = (0 : Int32))).2 rfl ?_
            refine Gz.iconst 124 (1 : Int32) X25 hx (dd at_123) rfl rfl ?_
            refine Gz.goto 128 X25 hx (dd at_124) (by decide) (by decide) ?_
            refine Gz.fin X25 (v := some (.int (1 : Int32))) (fun h => by rw [hret] at h; cases h) hlk (by decide) (by decide) (fun fs hr => retN X25 hx (t := .boolean) hret (by simp) (dd at_128) hr) ?_
            exact ⟨rfl, N25⟩
      · refine Gz.icmpYes 56 X0 hx (dd at_42) (feq hc14).2 (by decide) (by decide) ?_
        refine Gz.iloadN 57 X0 hx (dd at_56) rfl rfl ?_
        refine Gz.iconst 58 (3 : Int32) X0 hx (dd at_57) rfl rfl ?_
        by_cases hc26 : (p1 &&& (3 : Int32)) = (3 : Int32)
        · refine Gz.icmpNo 61 X0 hx (dd at_58) (teq hc26).2 rfl ?_
          refine Gz.dload 63 X0 hx (dd at_61) rfl rfl ?_
          refine Gz.ldc2D 66 X0 hx (dd at_63) hown (mvT hZ (ww hw 0 rfl)) rfl ?_
          refine Gz.ddiv 67 X0 hx (dd at_66) (own_no (own_k3 p0)) rfl ?_
          refine Gz.dstore 69 #[.val (.int p0), .val (.int p1), .val (.int (p1 &&& (3 : Int32))), .val (.int (0 : Int32)), .val (.double (FP.ddiv (FP.i2d p0) (4613937818241073152 : UInt64))), .second, .unset] X0 hx (dd at_67) rfl rfl ?_
          refine Gz.iloadN 70 X0 hx (dd at_69) rfl rfl ?_
          refine Gz.ifYes 78 X0 hx (dd at_70) ((if0 _ _).trans (teq (by decide : (0 : Int32) = (0 : Int32))).1) (by decide) (by decide) ?_
          refine Gz.iloadN 79 X0 hx (dd at_78) rfl rfl ?_
          by_cases hc27 : (0 : Int32) < p0
          · refine Gz.ifNo 82 X0 hx (dd at_79) ((if0 _ _).trans (tlt hc27).2.2.2) rfl ?_
            refine Gz.iconst 83 (1 : Int32) X0 hx (dd at_82) rfl rfl ?_
            refine Gz.goto 95 X0 hx (dd at_83) (by decide) (by decide) ?_
            refine Gz.istore 97 #[.val (.int p0), .val (.int p1), .val (.int (p1 &&& (3 : Int32))), .val (.int (0 : Int32)), .val (.double (FP.ddiv (FP.i2d p0) (4613937818241073152 : UInt64))), .second, .val (.int (1 : Int32))] X0 hx (dd at_95) rfl rfl ?_
            refine Gz.iloadN 98 X0 hx (dd at_97) rfl rfl ?_
            refine Gz.ifYes 106 X0 hx (dd at_98) ((if0 _ _).trans (teq (by decide : (0 : Int32) = (0 : Int32))).1) (by decide) (by decide) ?_
            obtain ⟨T28, h28, X28, e28, E28, A28, D28, -, st28⟩ := newO X0 hx hZ hown (ww hw 1 rfl) (ww hw 2 rfl) (ww hw 3 rfl) e0 (g := (mkF m 106 #[.val (.int p0), .val (.int p1), .val (.int (p1 &&& (3 : Int32))), .val (.int (0 : Int32)), .val (.double (FP.ddiv (FP.i2d p0) (4613937818241073152 : UInt64))), .second, .val (.int (1 : Int32))] [])) rfl (dd at_106) (by decide) (by decide)
            obtain ⟨b28, g28⟩ : ∃ z, z = h0.size := ⟨_, rfl⟩
            rw [← g28] at A28 D28 st28
            have g_b28 : n0 ≤ b28 := Nat.le_trans Z0 (Nat.le_of_eq g28.symm)
            have SZ28 : n0 ≤ h28.size := Nat.le_trans Z0 E28.1
            have F_value_b28 : Fld Z h28 b28 "com/example/arhe/arhe/DoubleValue" "value" "D" (.double 0) := D28 (Or.inr (ww hw 21 rfl)) (ty := .double) (by decide)
            refine Gz.st st28 ?_
            refine Gz.dup 110 X28 hx (dd at_109) rfl rfl ?_
            refine Gz.dload 112 X28 hx (dd at_110) rfl rfl ?_
            obtain ⟨_, _, ⟨T29, L29, k29, n29⟩, -, X29, ⟨Lc29, hQ29, l29, y29, z29⟩, st29⟩ := X28.specialBack hx (y := ym2) rfl hown (mvT hZ (ww hw 4 rfl)) (mvT hZ (ww hw 5 rfl)) (mvT hZ (ww hw 6 rfl)) (by decide) (backOf (W := 1) (rm1 l Z av0 hw [] b28 (FP.ddiv (FP.i2d p0) (4613937818241073152 : UInt64))  h28 n0 SZ28 A28 F_value_b28 g_b28) hZ (ww hw 6 rfl) (ww hw 3 rfl) (by decide) (by decide)) (g := (mkF m 112 #[.val (.int p0), .val (.int p1), .val (.int (p1 &&& (3 : Int32))), .val (.int (0 : Int32)), .val (.double (FP.ddiv (FP.i2d p0) (4613937818241073152 : UInt64))), .second, .val (.int (1 : Int32))] [(.double (FP.ddiv (FP.i2d p0) (4613937818241073152 : UInt64))), (.ref b28), (.ref b28)])) rfl (by rw [hml]; rfl) (Steps.refl _) (a := b28) (argsL := [(.double (FP.ddiv (FP.i2d p0) (4613937818241073152 : UInt64)))]) (rest := [(.ref b28)]) (lenOf pd_1 rfl) rfl (Nat.le_refl _) (dd at_112) (fun _ _ => ⟨rfl, e28, (by decide : 1 + 0 ≤ _), (by decide : 1 + 0 ≤ _)⟩)
            dsimp only [Pt.U, Pt.locs, Pt.cells, Pt.slots, Q_rm1] at X29 l29 y29 z29 st29 hQ29
            subst l29 y29 z29
            obtain ⟨rfl, N29q, K29q, QE29_0, QF29_0⟩ := hQ29
            have N29 := Fr.app N0 N29q
            have f29_Eb28 := Exa.keep A28 K29q
            have SZ29 := Nat.le_trans SZ28 K29q.1
            refine Gz.tr st29 ?_
            obtain ⟨cq30, kq30, q30a, q30b, q30c⟩ := isOf hZ rfl QE29_0
            obtain ⟨_, _, ⟨T30, L30, k30, n30⟩, -, X30, ⟨Lc30, hQ30, l30, y30, z30⟩, st30⟩ := X29.virtualBack hx (y := ym3) (z := ym3) hown (mvT hZ (ww hw 22 rfl)) (mvT hZ (ww hw 23 rfl)) (notFace_of_selects (args := #[]) (mvT hZ (ww hw 25 rfl))) (mvT hZ (ww hw 25 rfl)) (mvT hZ (ww hw 24 rfl)) (by decide) (backOf (W := 0) (rm5 l Z av0 hw [] b28 (FP.ddiv (FP.i2d p0) (4613937818241073152 : UInt64)) T29.heap n0 SZ29 QF29_0) hZ (ww hw 26 rfl) (ww hw 3 rfl) (by decide) (by decide)) q30a q30c (g := (mkF m 115 #[.val (.int p0), .val (.int p1), .val (.int (p1 &&& (3 : Int32))), .val (.int (0 : Int32)), .val (.double (FP.ddiv (FP.i2d p0) (4613937818241073152 : UInt64))), .second, .val (.int (1 : Int32))] [(.ref b28)])) rfl (by rw [hml]; rfl) (Steps.refl _) (argsL := []) (rest := []) (lenOf pd_2 rfl) rfl (Nat.le_refl _) (dd at_115) (fun _ _ => ⟨rfl, rfl, (by decide : 1 + 0 ≤ _), (by decide : 1 + 0 ≤ _)⟩)
            dsimp only [Pt.U, Pt.locs, Pt.cells, Pt.slots, Q_rm5] at X30 l30 y30 z30 st30 hQ30
            subst l30 y30 z30
            obtain ⟨rfl, N30q, e30⟩ := hQ30
            have N30 := Fr.app N29 N30q
            refine Gz.tr st30 ?_
            refine Gz.iload 120 X30 hx (dd at_118) rfl rfl ?_
            refine Gz.icmpNo 123 X30 hx (dd at_120) (teq (own_p (own_k3 p0) (own_g1 hc27) : (fSig b28 (FP.ddiv (FP.i2d p0) (4613937818241073152 : UInt64))) = (1 : Int32))).2 rfl ?_
            refine Gz.iconst 124 (1 : Int32) X30 hx (dd at_123) rfl rfl ?_
            refine Gz.goto 128 X30 hx (dd at_124) (by decide) (by decide) ?_
            refine Gz.fin X30 (v := some (.int (1 : Int32))) (fun h => by rw [hret] at h; cases h) hlk (by decide) (by decide) (fun fs hr => retN X30 hx (t := .boolean) hret (by simp) (dd at_128) hr) ?_
            exact ⟨rfl, N30⟩
          · refine Gz.ifYes 86 X0 hx (dd at_79) ((if0 _ _).trans (flt hc27).2.2.2) (by decide) (by decide) ?_
            refine Gz.iloadN 87 X0 hx (dd at_86) rfl rfl ?_
            by_cases hc31 : p0 < (0 : Int32)
            · refine Gz.ifNo 90 X0 hx (dd at_87) ((if0 _ _).trans (tlt hc31).2.1) rfl ?_
              refine Gz.iconst 91 (-1 : Int32) X0 hx (dd at_90) rfl rfl ?_
              refine Gz.goto 95 X0 hx (dd at_91) (by decide) (by decide) ?_
              refine Gz.istore 97 #[.val (.int p0), .val (.int p1), .val (.int (p1 &&& (3 : Int32))), .val (.int (0 : Int32)), .val (.double (FP.ddiv (FP.i2d p0) (4613937818241073152 : UInt64))), .second, .val (.int (-1 : Int32))] X0 hx (dd at_95) rfl rfl ?_
              refine Gz.iloadN 98 X0 hx (dd at_97) rfl rfl ?_
              refine Gz.ifYes 106 X0 hx (dd at_98) ((if0 _ _).trans (teq (by decide : (0 : Int32) = (0 : Int32))).1) (by decide) (by decide) ?_
              obtain ⟨T32, h32, X32, e32, E32, A32, D32, -, st32⟩ := newO X0 hx hZ hown (ww hw 1 rfl) (ww hw 2 rfl) (ww hw 3 rfl) e0 (g := (mkF m 106 #[.val (.int p0), .val (.int p1), .val (.int (p1 &&& (3 : Int32))), .val (.int (0 : Int32)), .val (.double (FP.ddiv (FP.i2d p0) (4613937818241073152 : UInt64))), .second, .val (.int (-1 : Int32))] [])) rfl (dd at_106) (by decide) (by decide)
              obtain ⟨b32, g32⟩ : ∃ z, z = h0.size := ⟨_, rfl⟩
              rw [← g32] at A32 D32 st32
              have g_b32 : n0 ≤ b32 := Nat.le_trans Z0 (Nat.le_of_eq g32.symm)
              have SZ32 : n0 ≤ h32.size := Nat.le_trans Z0 E32.1
              have F_value_b32 : Fld Z h32 b32 "com/example/arhe/arhe/DoubleValue" "value" "D" (.double 0) := D32 (Or.inr (ww hw 21 rfl)) (ty := .double) (by decide)
              refine Gz.st st32 ?_
              refine Gz.dup 110 X32 hx (dd at_109) rfl rfl ?_
              refine Gz.dload 112 X32 hx (dd at_110) rfl rfl ?_
              obtain ⟨_, _, ⟨T33, L33, k33, n33⟩, -, X33, ⟨Lc33, hQ33, l33, y33, z33⟩, st33⟩ := X32.specialBack hx (y := ym2) rfl hown (mvT hZ (ww hw 4 rfl)) (mvT hZ (ww hw 5 rfl)) (mvT hZ (ww hw 6 rfl)) (by decide) (backOf (W := 1) (rm1 l Z av0 hw [] b32 (FP.ddiv (FP.i2d p0) (4613937818241073152 : UInt64))  h32 n0 SZ32 A32 F_value_b32 g_b32) hZ (ww hw 6 rfl) (ww hw 3 rfl) (by decide) (by decide)) (g := (mkF m 112 #[.val (.int p0), .val (.int p1), .val (.int (p1 &&& (3 : Int32))), .val (.int (0 : Int32)), .val (.double (FP.ddiv (FP.i2d p0) (4613937818241073152 : UInt64))), .second, .val (.int (-1 : Int32))] [(.double (FP.ddiv (FP.i2d p0) (4613937818241073152 : UInt64))), (.ref b32), (.ref b32)])) rfl (by rw [hml]; rfl) (Steps.refl _) (a := b32) (argsL := [(.double (FP.ddiv (FP.i2d p0) (4613937818241073152 : UInt64)))]) (rest := [(.ref b32)]) (lenOf pd_1 rfl) rfl (Nat.le_refl _) (dd at_112) (fun _ _ => ⟨rfl, e32, (by decide : 1 + 0 ≤ _), (by decide : 1 + 0 ≤ _)⟩)
              dsimp only [Pt.U, Pt.locs, Pt.cells, Pt.slots, Q_rm1] at X33 l33 y33 z33 st33 hQ33
              subst l33 y33 z33
              obtain ⟨rfl, N33q, K33q, QE33_0, QF33_0⟩ := hQ33
              have N33 := Fr.app N0 N33q
              have f33_Eb32 := Exa.keep A32 K33q
              have SZ33 := Nat.le_trans SZ32 K33q.1
              refine Gz.tr st33 ?_
              obtain ⟨cq34, kq34, q34a, q34b, q34c⟩ := isOf hZ rfl QE33_0
              obtain ⟨_, _, ⟨T34, L34, k34, n34⟩, -, X34, ⟨Lc34, hQ34, l34, y34, z34⟩, st34⟩ := X33.virtualBack hx (y := ym3) (z := ym3) hown (mvT hZ (ww hw 22 rfl)) (mvT hZ (ww hw 23 rfl)) (notFace_of_selects (args := #[]) (mvT hZ (ww hw 25 rfl))) (mvT hZ (ww hw 25 rfl)) (mvT hZ (ww hw 24 rfl)) (by decide) (backOf (W := 0) (rm5 l Z av0 hw [] b32 (FP.ddiv (FP.i2d p0) (4613937818241073152 : UInt64)) T33.heap n0 SZ33 QF33_0) hZ (ww hw 26 rfl) (ww hw 3 rfl) (by decide) (by decide)) q34a q34c (g := (mkF m 115 #[.val (.int p0), .val (.int p1), .val (.int (p1 &&& (3 : Int32))), .val (.int (0 : Int32)), .val (.double (FP.ddiv (FP.i2d p0) (4613937818241073152 : UInt64))), .second, .val (.int (-1 : Int32))] [(.ref b32)])) rfl (by rw [hml]; rfl) (Steps.refl _) (argsL := []) (rest := []) (lenOf pd_2 rfl) rfl (Nat.le_refl _) (dd at_115) (fun _ _ => ⟨rfl, rfl, (by decide : 1 + 0 ≤ _), (by decide : 1 + 0 ≤ _)⟩)
              dsimp only [Pt.U, Pt.locs, Pt.cells, Pt.slots, Q_rm5] at X34 l34 y34 z34 st34 hQ34
              subst l34 y34 z34
              obtain ⟨rfl, N34q, e34⟩ := hQ34
              have N34 := Fr.app N33 N34q
              refine Gz.tr st34 ?_
              refine Gz.iload 120 X34 hx (dd at_118) rfl rfl ?_
              refine Gz.icmpNo 123 X34 hx (dd at_120) (teq (own_n (own_k3 p0) (own_l1 hc31) : (fSig b32 (FP.ddiv (FP.i2d p0) (4613937818241073152 : UInt64))) = (-1 : Int32))).2 rfl ?_
              refine Gz.iconst 124 (1 : Int32) X34 hx (dd at_123) rfl rfl ?_
              refine Gz.goto 128 X34 hx (dd at_124) (by decide) (by decide) ?_
              refine Gz.fin X34 (v := some (.int (1 : Int32))) (fun h => by rw [hret] at h; cases h) hlk (by decide) (by decide) (fun fs hr => retN X34 hx (t := .boolean) hret (by simp) (dd at_128) hr) ?_
              exact ⟨rfl, N34⟩
            · refine Gz.ifYes 94 X0 hx (dd at_87) ((if0 _ _).trans (flt hc31).2.1) (by decide) (by decide) ?_
              refine Gz.iconst 95 (0 : Int32) X0 hx (dd at_94) rfl rfl ?_
              refine Gz.istore 97 #[.val (.int p0), .val (.int p1), .val (.int (p1 &&& (3 : Int32))), .val (.int (0 : Int32)), .val (.double (FP.ddiv (FP.i2d p0) (4613937818241073152 : UInt64))), .second, .val (.int (0 : Int32))] X0 hx (dd at_95) rfl rfl ?_
              refine Gz.iloadN 98 X0 hx (dd at_97) rfl rfl ?_
              refine Gz.ifYes 106 X0 hx (dd at_98) ((if0 _ _).trans (teq (by decide : (0 : Int32) = (0 : Int32))).1) (by decide) (by decide) ?_
              obtain ⟨T35, h35, X35, e35, E35, A35, D35, -, st35⟩ := newO X0 hx hZ hown (ww hw 1 rfl) (ww hw 2 rfl) (ww hw 3 rfl) e0 (g := (mkF m 106 #[.val (.int p0), .val (.int p1), .val (.int (p1 &&& (3 : Int32))), .val (.int (0 : Int32)), .val (.double (FP.ddiv (FP.i2d p0) (4613937818241073152 : UInt64))), .second, .val (.int (0 : Int32))] [])) rfl (dd at_106) (by decide) (by decide)
              obtain ⟨b35, g35⟩ : ∃ z, z = h0.size := ⟨_, rfl⟩
              rw [← g35] at A35 D35 st35
              have g_b35 : n0 ≤ b35 := Nat.le_trans Z0 (Nat.le_of_eq g35.symm)
              have SZ35 : n0 ≤ h35.size := Nat.le_trans Z0 E35.1
              have F_value_b35 : Fld Z h35 b35 "com/example/arhe/arhe/DoubleValue" "value" "D" (.double 0) := D35 (Or.inr (ww hw 21 rfl)) (ty := .double) (by decide)
              refine Gz.st st35 ?_
              refine Gz.dup 110 X35 hx (dd at_109) rfl rfl ?_
              refine Gz.dload 112 X35 hx (dd at_110) rfl rfl ?_
              obtain ⟨_, _, ⟨T36, L36, k36, n36⟩, -, X36, ⟨Lc36, hQ36, l36, y36, z36⟩, st36⟩ := X35.specialBack hx (y := ym2) rfl hown (mvT hZ (ww hw 4 rfl)) (mvT hZ (ww hw 5 rfl)) (mvT hZ (ww hw 6 rfl)) (by decide) (backOf (W := 1) (rm1 l Z av0 hw [] b35 (FP.ddiv (FP.i2d p0) (4613937818241073152 : UInt64))  h35 n0 SZ35 A35 F_value_b35 g_b35) hZ (ww hw 6 rfl) (ww hw 3 rfl) (by decide) (by decide)) (g := (mkF m 112 #[.val (.int p0), .val (.int p1), .val (.int (p1 &&& (3 : Int32))), .val (.int (0 : Int32)), .val (.double (FP.ddiv (FP.i2d p0) (4613937818241073152 : UInt64))), .second, .val (.int (0 : Int32))] [(.double (FP.ddiv (FP.i2d p0) (4613937818241073152 : UInt64))), (.ref b35), (.ref b35)])) rfl (by rw [hml]; rfl) (Steps.refl _) (a := b35) (argsL := [(.double (FP.ddiv (FP.i2d p0) (4613937818241073152 : UInt64)))]) (rest := [(.ref b35)]) (lenOf pd_1 rfl) rfl (Nat.le_refl _) (dd at_112) (fun _ _ => ⟨rfl, e35, (by decide : 1 + 0 ≤ _), (by decide : 1 + 0 ≤ _)⟩)
              dsimp only [Pt.U, Pt.locs, Pt.cells, Pt.slots, Q_rm1] at X36 l36 y36 z36 st36 hQ36
              subst l36 y36 z36
              obtain ⟨rfl, N36q, K36q, QE36_0, QF36_0⟩ := hQ36
              have N36 := Fr.app N0 N36q
              have f36_Eb35 := Exa.keep A35 K36q
              have SZ36 := Nat.le_trans SZ35 K36q.1
              refine Gz.tr st36 ?_
              obtain ⟨cq37, kq37, q37a, q37b, q37c⟩ := isOf hZ rfl QE36_0
              obtain ⟨_, _, ⟨T37, L37, k37, n37⟩, -, X37, ⟨Lc37, hQ37, l37, y37, z37⟩, st37⟩ := X36.virtualBack hx (y := ym3) (z := ym3) hown (mvT hZ (ww hw 22 rfl)) (mvT hZ (ww hw 23 rfl)) (notFace_of_selects (args := #[]) (mvT hZ (ww hw 25 rfl))) (mvT hZ (ww hw 25 rfl)) (mvT hZ (ww hw 24 rfl)) (by decide) (backOf (W := 0) (rm5 l Z av0 hw [] b35 (FP.ddiv (FP.i2d p0) (4613937818241073152 : UInt64)) T36.heap n0 SZ36 QF36_0) hZ (ww hw 26 rfl) (ww hw 3 rfl) (by decide) (by decide)) q37a q37c (g := (mkF m 115 #[.val (.int p0), .val (.int p1), .val (.int (p1 &&& (3 : Int32))), .val (.int (0 : Int32)), .val (.double (FP.ddiv (FP.i2d p0) (4613937818241073152 : UInt64))), .second, .val (.int (0 : Int32))] [(.ref b35)])) rfl (by rw [hml]; rfl) (Steps.refl _) (argsL := []) (rest := []) (lenOf pd_2 rfl) rfl (Nat.le_refl _) (dd at_115) (fun _ _ => ⟨rfl, rfl, (by decide : 1 + 0 ≤ _), (by decide : 1 + 0 ≤ _)⟩)
              dsimp only [Pt.U, Pt.locs, Pt.cells, Pt.slots, Q_rm5] at X37 l37 y37 z37 st37 hQ37
              subst l37 y37 z37
              obtain ⟨rfl, N37q, e37⟩ := hQ37
              have N37 := Fr.app N36 N37q
              refine Gz.tr st37 ?_
              refine Gz.iload 120 X37 hx (dd at_118) rfl rfl ?_
              refine Gz.icmpNo 123 X37 hx (dd at_120) (teq (own_z (own_k3 p0) (own_z1 hc27 hc31) : (fSig b35 (FP.ddiv (FP.i2d p0) (4613937818241073152 : UInt64))) = (0 : Int32))).2 rfl ?_
              refine Gz.iconst 124 (1 : Int32) X37 hx (dd at_123) rfl rfl ?_
              refine Gz.goto 128 X37 hx (dd at_124) (by decide) (by decide) ?_
              refine Gz.fin X37 (v := some (.int (1 : Int32))) (fun h => by rw [hret] at h; cases h) hlk (by decide) (by decide) (fun fs hr => retN X37 hx (t := .boolean) hret (by simp) (dd at_128) hr) ?_
              exact ⟨rfl, N37⟩
        · refine Gz.icmpYes 69 X0 hx (dd at_58) (feq hc26).2 (by decide) (by decide) ?_
          refine Gz.iloadN 70 X0 hx (dd at_69) rfl rfl ?_
          refine Gz.ifYes 78 X0 hx (dd at_70) ((if0 _ _).trans (teq (by decide : (0 : Int32) = (0 : Int32))).1) (by decide) (by decide) ?_
          refine Gz.iloadN 79 X0 hx (dd at_78) rfl rfl ?_
          by_cases hc38 : (0 : Int32) < p0
          · refine Gz.ifNo 82 X0 hx (dd at_79) ((if0 _ _).trans (tlt hc38).2.2.2) rfl ?_
            refine Gz.iconst 83 (1 : Int32) X0 hx (dd at_82) rfl rfl ?_
            refine Gz.goto 95 X0 hx (dd at_83) (by decide) (by decide) ?_
            refine Gz.istore 97 #[.val (.int p0), .val (.int p1), .val (.int (p1 &&& (3 : Int32))), .val (.int (0 : Int32)), .val (.double (FP.i2d p0)), .second, .val (.int (1 : Int32))] X0 hx (dd at_95) rfl rfl ?_
            refine Gz.iloadN 98 X0 hx (dd at_97) rfl rfl ?_
            refine Gz.ifYes 106 X0 hx (dd at_98) ((if0 _ _).trans (teq (by decide : (0 : Int32) = (0 : Int32))).1) (by decide) (by decide) ?_
            obtain ⟨T39, h39, X39, e39, E39, A39, D39, -, st39⟩ := newO X0 hx hZ hown (ww hw 1 rfl) (ww hw 2 rfl) (ww hw 3 rfl) e0 (g := (mkF m 106 #[.val (.int p0), .val (.int p1), .val (.int (p1 &&& (3 : Int32))), .val (.int (0 : Int32)), .val (.double (FP.i2d p0)), .second, .val (.int (1 : Int32))] [])) rfl (dd at_106) (by decide) (by decide)
            obtain ⟨b39, g39⟩ : ∃ z, z = h0.size := ⟨_, rfl⟩
            rw [← g39] at A39 D39 st39
            have g_b39 : n0 ≤ b39 := Nat.le_trans Z0 (Nat.le_of_eq g39.symm)
            have SZ39 : n0 ≤ h39.size := Nat.le_trans Z0 E39.1
            have F_value_b39 : Fld Z h39 b39 "com/example/arhe/arhe/DoubleValue" "value" "D" (.double 0) := D39 (Or.inr (ww hw 21 rfl)) (ty := .double) (by decide)
            refine Gz.st st39 ?_
            refine Gz.dup 110 X39 hx (dd at_109) rfl rfl ?_
            refine Gz.dload 112 X39 hx (dd at_110) rfl rfl ?_
            obtain ⟨_, _, ⟨T40, L40, k40, n40⟩, -, X40, ⟨Lc40, hQ40, l40, y40, z40⟩, st40⟩ := X39.specialBack hx (y := ym2) rfl hown (mvT hZ (ww hw 4 rfl)) (mvT hZ (ww hw 5 rfl)) (mvT hZ (ww hw 6 rfl)) (by decide) (backOf (W := 1) (rm1 l Z av0 hw [] b39 (FP.i2d p0)  h39 n0 SZ39 A39 F_value_b39 g_b39) hZ (ww hw 6 rfl) (ww hw 3 rfl) (by decide) (by decide)) (g := (mkF m 112 #[.val (.int p0), .val (.int p1), .val (.int (p1 &&& (3 : Int32))), .val (.int (0 : Int32)), .val (.double (FP.i2d p0)), .second, .val (.int (1 : Int32))] [(.double (FP.i2d p0)), (.ref b39), (.ref b39)])) rfl (by rw [hml]; rfl) (Steps.refl _) (a := b39) (argsL := [(.double (FP.i2d p0))]) (rest := [(.ref b39)]) (lenOf pd_1 rfl) rfl (Nat.le_refl _) (dd at_112) (fun _ _ => ⟨rfl, e39, (by decide : 1 + 0 ≤ _), (by decide : 1 + 0 ≤ _)⟩)
            dsimp only [Pt.U, Pt.locs, Pt.cells, Pt.slots, Q_rm1] at X40 l40 y40 z40 st40 hQ40
            subst l40 y40 z40
            obtain ⟨rfl, N40q, K40q, QE40_0, QF40_0⟩ := hQ40
            have N40 := Fr.app N0 N40q
            have f40_Eb39 := Exa.keep A39 K40q
            have SZ40 := Nat.le_trans SZ39 K40q.1
            refine Gz.tr st40 ?_
            obtain ⟨cq41, kq41, q41a, q41b, q41c⟩ := isOf hZ rfl QE40_0
            obtain ⟨_, _, ⟨T41, L41, k41, n41⟩, -, X41, ⟨Lc41, hQ41, l41, y41, z41⟩, st41⟩ := X40.virtualBack hx (y := ym3) (z := ym3) hown (mvT hZ (ww hw 22 rfl)) (mvT hZ (ww hw 23 rfl)) (notFace_of_selects (args := #[]) (mvT hZ (ww hw 25 rfl))) (mvT hZ (ww hw 25 rfl)) (mvT hZ (ww hw 24 rfl)) (by decide) (backOf (W := 0) (rm5 l Z av0 hw [] b39 (FP.i2d p0) T40.heap n0 SZ40 QF40_0) hZ (ww hw 26 rfl) (ww hw 3 rfl) (by decide) (by decide)) q41a q41c (g := (mkF m 115 #[.val (.int p0), .val (.int p1), .val (.int (p1 &&& (3 : Int32))), .val (.int (0 : Int32)), .val (.double (FP.i2d p0)), .second, .val (.int (1 : Int32))] [(.ref b39)])) rfl (by rw [hml]; rfl) (Steps.refl _) (argsL := []) (rest := []) (lenOf pd_2 rfl) rfl (Nat.le_refl _) (dd at_115) (fun _ _ => ⟨rfl, rfl, (by decide : 1 + 0 ≤ _), (by decide : 1 + 0 ≤ _)⟩)
            dsimp only [Pt.U, Pt.locs, Pt.cells, Pt.slots, Q_rm5] at X41 l41 y41 z41 st41 hQ41
            subst l41 y41 z41
            obtain ⟨rfl, N41q, e41⟩ := hQ41
            have N41 := Fr.app N40 N41q
            refine Gz.tr st41 ?_
            refine Gz.iload 120 X41 hx (dd at_118) rfl rfl ?_
            refine Gz.icmpNo 123 X41 hx (dd at_120) (teq (own_p (own_i2d p0) (own_g1 hc38) : (fSig b39 (FP.i2d p0)) = (1 : Int32))).2 rfl ?_
            refine Gz.iconst 124 (1 : Int32) X41 hx (dd at_123) rfl rfl ?_
            refine Gz.goto 128 X41 hx (dd at_124) (by decide) (by decide) ?_
            refine Gz.fin X41 (v := some (.int (1 : Int32))) (fun h => by rw [hret] at h; cases h) hlk (by decide) (by decide) (fun fs hr => retN X41 hx (t := .boolean) hret (by simp) (dd at_128) hr) ?_
            exact ⟨rfl, N41⟩
          · refine Gz.ifYes 86 X0 hx (dd at_79) ((if0 _ _).trans (flt hc38).2.2.2) (by decide) (by decide) ?_
            refine Gz.iloadN 87 X0 hx (dd at_86) rfl rfl ?_
            by_cases hc42 : p0 < (0 : Int32)
            · refine Gz.ifNo 90 X0 hx (dd at_87) ((if0 _ _).trans (tlt hc42).2.1) rfl ?_
              refine Gz.iconst 91 (-1 : Int32) X0 hx (dd at_90) rfl rfl ?_
              refine Gz.goto 95 X0 hx (dd at_91) (by decide) (by decide) ?_
              refine Gz.istore 97 #[.val (.int p0), .val (.int p1), .val (.int (p1 &&& (3 : Int32))), .val (.int (0 : Int32)), .val (.double (FP.i2d p0)), .second, .val (.int (-1 : Int32))] X0 hx (dd at_95) rfl rfl ?_
              refine Gz.iloadN 98 X0 hx (dd at_97) rfl rfl ?_
              refine Gz.ifYes 106 X0 hx (dd at_98) ((if0 _ _).trans (teq (by decide : (0 : Int32) = (0 : Int32))).1) (by decide) (by decide) ?_
              obtain ⟨T43, h43, X43, e43, E43, A43, D43, -, st43⟩ := newO X0 hx hZ hown (ww hw 1 rfl) (ww hw 2 rfl) (ww hw 3 rfl) e0 (g := (mkF m 106 #[.val (.int p0), .val (.int p1), .val (.int (p1 &&& (3 : Int32))), .val (.int (0 : Int32)), .val (.double (FP.i2d p0)), .second, .val (.int (-1 : Int32))] [])) rfl (dd at_106) (by decide) (by decide)
              obtain ⟨b43, g43⟩ : ∃ z, z = h0.size := ⟨_, rfl⟩
              rw [← g43] at A43 D43 st43
              have g_b43 : n0 ≤ b43 := Nat.le_trans Z0 (Nat.le_of_eq g43.symm)
              have SZ43 : n0 ≤ h43.size := Nat.le_trans Z0 E43.1
              have F_value_b43 : Fld Z h43 b43 "com/example/arhe/arhe/DoubleValue" "value" "D" (.double 0) := D43 (Or.inr (ww hw 21 rfl)) (ty := .double) (by decide)
              refine Gz.st st43 ?_
              refine Gz.dup 110 X43 hx (dd at_109) rfl rfl ?_
              refine Gz.dload 112 X43 hx (dd at_110) rfl rfl ?_
              obtain ⟨_, _, ⟨T44, L44, k44, n44⟩, -, X44, ⟨Lc44, hQ44, l44, y44, z44⟩, st44⟩ := X43.specialBack hx (y := ym2) rfl hown (mvT hZ (ww hw 4 rfl)) (mvT hZ (ww hw 5 rfl)) (mvT hZ (ww hw 6 rfl)) (by decide) (backOf (W := 1) (rm1 l Z av0 hw [] b43 (FP.i2d p0)  h43 n0 SZ43 A43 F_value_b43 g_b43) hZ (ww hw 6 rfl) (ww hw 3 rfl) (by decide) (by decide)) (g := (mkF m 112 #[.val (.int p0), .val (.int p1), .val (.int (p1 &&& (3 : Int32))), .val (.int (0 : Int32)), .val (.double (FP.i2d p0)), .second, .val (.int (-1 : Int32))] [(.double (FP.i2d p0)), (.ref b43), (.ref b43)])) rfl (by rw [hml]; rfl) (Steps.refl _) (a := b43) (argsL := [(.double (FP.i2d p0))]) (rest := [(.ref b43)]) (lenOf pd_1 rfl) rfl (Nat.le_refl _) (dd at_112) (fun _ _ => ⟨rfl, e43, (by decide : 1 + 0 ≤ _), (by decide : 1 + 0 ≤ _)⟩)
              dsimp only [Pt.U, Pt.locs, Pt.cells, Pt.slots, Q_rm1] at X44 l44 y44 z44 st44 hQ44
              subst l44 y44 z44
              obtain ⟨rfl, N44q, K44q, QE44_0, QF44_0⟩ := hQ44
              have N44 := Fr.app N0 N44q
              have f44_Eb43 := Exa.keep A43 K44q
              have SZ44 := Nat.le_trans SZ43 K44q.1
              refine Gz.tr st44 ?_
              obtain ⟨cq45, kq45, q45a, q45b, q45c⟩ := isOf hZ rfl QE44_0
              obtain ⟨_, _, ⟨T45, L45, k45, n45⟩, -, X45, ⟨Lc45, hQ45, l45, y45, z45⟩, st45⟩ := X44.virtualBack hx (y := ym3) (z := ym3) hown (mvT hZ (ww hw 22 rfl)) (mvT hZ (ww hw 23 rfl)) (notFace_of_selects (args := #[]) (mvT hZ (ww hw 25 rfl))) (mvT hZ (ww hw 25 rfl)) (mvT hZ (ww hw 24 rfl)) (by decide) (backOf (W := 0) (rm5 l Z av0 hw [] b43 (FP.i2d p0) T44.heap n0 SZ44 QF44_0) hZ (ww hw 26 rfl) (ww hw 3 rfl) (by decide) (by decide)) q45a q45c (g := (mkF m 115 #[.val (.int p0), .val (.int p1), .val (.int (p1 &&& (3 : Int32))), .val (.int (0 : Int32)), .val (.double (FP.i2d p0)), .second, .val (.int (-1 : Int32))] [(.ref b43)])) rfl (by rw [hml]; rfl) (Steps.refl _) (argsL := []) (rest := []) (lenOf pd_2 rfl) rfl (Nat.le_refl _) (dd at_115) (fun _ _ => ⟨rfl, rfl, (by decide : 1 + 0 ≤ _), (by decide : 1 + 0 ≤ _)⟩)
              dsimp only [Pt.U, Pt.locs, Pt.cells, Pt.slots, Q_rm5] at X45 l45 y45 z45 st45 hQ45
              subst l45 y45 z45
              obtain ⟨rfl, N45q, e45⟩ := hQ45
              have N45 := Fr.app N44 N45q
              refine Gz.tr st45 ?_
              refine Gz.iload 120 X45 hx (dd at_118) rfl rfl ?_
              refine Gz.icmpNo 123 X45 hx (dd at_120) (teq (own_n (own_i2d p0) (own_l1 hc42) : (fSig b43 (FP.i2d p0)) = (-1 : Int32))).2 rfl ?_
              refine Gz.iconst 124 (1 : Int32) X45 hx (dd at_123) rfl rfl ?_
              refine Gz.goto 128 X45 hx (dd at_124) (by decide) (by decide) ?_
              refine Gz.fin X45 (v := some (.int (1 : Int32))) (fun h => by rw [hret] at h; cases h) hlk (by decide) (by decide) (fun fs hr => retN X45 hx (t := .boolean) hret (by simp) (dd at_128) hr) ?_
              exact ⟨rfl, N45⟩
            · refine Gz.ifYes 94 X0 hx (dd at_87) ((if0 _ _).trans (flt hc42).2.1) (by decide) (by decide) ?_
              refine Gz.iconst 95 (0 : Int32) X0 hx (dd at_94) rfl rfl ?_
              refine Gz.istore 97 #[.val (.int p0), .val (.int p1), .val (.int (p1 &&& (3 : Int32))), .val (.int (0 : Int32)), .val (.double (FP.i2d p0)), .second, .val (.int (0 : Int32))] X0 hx (dd at_95) rfl rfl ?_
              refine Gz.iloadN 98 X0 hx (dd at_97) rfl rfl ?_
              refine Gz.ifYes 106 X0 hx (dd at_98) ((if0 _ _).trans (teq (by decide : (0 : Int32) = (0 : Int32))).1) (by decide) (by decide) ?_
              obtain ⟨T46, h46, X46, e46, E46, A46, D46, -, st46⟩ := newO X0 hx hZ hown (ww hw 1 rfl) (ww hw 2 rfl) (ww hw 3 rfl) e0 (g := (mkF m 106 #[.val (.int p0), .val (.int p1), .val (.int (p1 &&& (3 : Int32))), .val (.int (0 : Int32)), .val (.double (FP.i2d p0)), .second, .val (.int (0 : Int32))] [])) rfl (dd at_106) (by decide) (by decide)
              obtain ⟨b46, g46⟩ : ∃ z, z = h0.size := ⟨_, rfl⟩
              rw [← g46] at A46 D46 st46
              have g_b46 : n0 ≤ b46 := Nat.le_trans Z0 (Nat.le_of_eq g46.symm)
              have SZ46 : n0 ≤ h46.size := Nat.le_trans Z0 E46.1
              have F_value_b46 : Fld Z h46 b46 "com/example/arhe/arhe/DoubleValue" "value" "D" (.double 0) := D46 (Or.inr (ww hw 21 rfl)) (ty := .double) (by decide)
              refine Gz.st st46 ?_
              refine Gz.dup 110 X46 hx (dd at_109) rfl rfl ?_
              refine Gz.dload 112 X46 hx (dd at_110) rfl rfl ?_
              obtain ⟨_, _, ⟨T47, L47, k47, n47⟩, -, X47, ⟨Lc47, hQ47, l47, y47, z47⟩, st47⟩ := X46.specialBack hx (y := ym2) rfl hown (mvT hZ (ww hw 4 rfl)) (mvT hZ (ww hw 5 rfl)) (mvT hZ (ww hw 6 rfl)) (by decide) (backOf (W := 1) (rm1 l Z av0 hw [] b46 (FP.i2d p0)  h46 n0 SZ46 A46 F_value_b46 g_b46) hZ (ww hw 6 rfl) (ww hw 3 rfl) (by decide) (by decide)) (g := (mkF m 112 #[.val (.int p0), .val (.int p1), .val (.int (p1 &&& (3 : Int32))), .val (.int (0 : Int32)), .val (.double (FP.i2d p0)), .second, .val (.int (0 : Int32))] [(.double (FP.i2d p0)), (.ref b46), (.ref b46)])) rfl (by rw [hml]; rfl) (Steps.refl _) (a := b46) (argsL := [(.double (FP.i2d p0))]) (rest := [(.ref b46)]) (lenOf pd_1 rfl) rfl (Nat.le_refl _) (dd at_112) (fun _ _ => ⟨rfl, e46, (by decide : 1 + 0 ≤ _), (by decide : 1 + 0 ≤ _)⟩)
              dsimp only [Pt.U, Pt.locs, Pt.cells, Pt.slots, Q_rm1] at X47 l47 y47 z47 st47 hQ47
              subst l47 y47 z47
              obtain ⟨rfl, N47q, K47q, QE47_0, QF47_0⟩ := hQ47
              have N47 := Fr.app N0 N47q
              have f47_Eb46 := Exa.keep A46 K47q
              have SZ47 := Nat.le_trans SZ46 K47q.1
              refine Gz.tr st47 ?_
              obtain ⟨cq48, kq48, q48a, q48b, q48c⟩ := isOf hZ rfl QE47_0
              obtain ⟨_, _, ⟨T48, L48, k48, n48⟩, -, X48, ⟨Lc48, hQ48, l48, y48, z48⟩, st48⟩ := X47.virtualBack hx (y := ym3) (z := ym3) hown (mvT hZ (ww hw 22 rfl)) (mvT hZ (ww hw 23 rfl)) (notFace_of_selects (args := #[]) (mvT hZ (ww hw 25 rfl))) (mvT hZ (ww hw 25 rfl)) (mvT hZ (ww hw 24 rfl)) (by decide) (backOf (W := 0) (rm5 l Z av0 hw [] b46 (FP.i2d p0) T47.heap n0 SZ47 QF47_0) hZ (ww hw 26 rfl) (ww hw 3 rfl) (by decide) (by decide)) q48a q48c (g := (mkF m 115 #[.val (.int p0), .val (.int p1), .val (.int (p1 &&& (3 : Int32))), .val (.int (0 : Int32)), .val (.double (FP.i2d p0)), .second, .val (.int (0 : Int32))] [(.ref b46)])) rfl (by rw [hml]; rfl) (Steps.refl _) (argsL := []) (rest := []) (lenOf pd_2 rfl) rfl (Nat.le_refl _) (dd at_115) (fun _ _ => ⟨rfl, rfl, (by decide : 1 + 0 ≤ _), (by decide : 1 + 0 ≤ _)⟩)
              dsimp only [Pt.U, Pt.locs, Pt.cells, Pt.slots, Q_rm5] at X48 l48 y48 z48 st48 hQ48
              subst l48 y48 z48
              obtain ⟨rfl, N48q, e48⟩ := hQ48
              have N48 := Fr.app N47 N48q
              refine Gz.tr st48 ?_
              refine Gz.iload 120 X48 hx (dd at_118) rfl rfl ?_
              refine Gz.icmpNo 123 X48 hx (dd at_120) (teq (own_z (own_i2d p0) (own_z1 hc38 hc42) : (fSig b46 (FP.i2d p0)) = (0 : Int32))).2 rfl ?_
              refine Gz.iconst 124 (1 : Int32) X48 hx (dd at_123) rfl rfl ?_
              refine Gz.goto 128 X48 hx (dd at_124) (by decide) (by decide) ?_
              refine Gz.fin X48 (v := some (.int (1 : Int32))) (fun h => by rw [hret] at h; cases h) hlk (by decide) (by decide) (fun fs hr => retN X48 hx (t := .boolean) hret (by simp) (dd at_128) hr) ?_
              exact ⟨rfl, N48⟩
  · refine Gz.ifNo 10 X0 hx (dd at_7) ((if0 _ _).trans (feq hc1).1) rfl ?_
    refine Gz.iconst 11 (1 : Int32) X0 hx (dd at_10) rfl rfl ?_
    refine Gz.goto 15 X0 hx (dd at_11) (by decide) (by decide) ?_
    refine Gz.istoreN 16 #[.val (.int p0), .val (.int p1), .val (.int (p1 &&& (3 : Int32))), .val (.int (1 : Int32)), .unset, .unset, .unset] X0 hx (dd at_15) rfl rfl ?_
    refine Gz.iloadN 17 X0 hx (dd at_16) rfl rfl ?_
    refine Gz.i2d 18 X0 hx (dd at_17) rfl ?_
    refine Gz.dstore 20 #[.val (.int p0), .val (.int p1), .val (.int (p1 &&& (3 : Int32))), .val (.int (1 : Int32)), .val (.double (FP.i2d p0)), .second, .unset] X0 hx (dd at_18) rfl rfl ?_
    refine Gz.iloadN 21 X0 hx (dd at_20) rfl rfl ?_
    refine Gz.iconst 22 (1 : Int32) X0 hx (dd at_21) rfl rfl ?_
    by_cases hc49 : (p1 &&& (3 : Int32)) = (1 : Int32)
    · refine Gz.icmpNo 25 X0 hx (dd at_22) (teq hc49).2 rfl ?_
      refine Gz.dload 27 X0 hx (dd at_25) rfl rfl ?_
      refine Gz.ldc2D 30 X0 hx (dd at_27) hown (mvT hZ (ww hw 27 rfl)) rfl ?_
      refine Gz.dmul 31 X0 hx (dd at_30) (own_no (own_k1 p0)) rfl ?_
      refine Gz.ldc2D 34 X0 hx (dd at_31) hown (mvT hZ (ww hw 27 rfl)) rfl ?_
      refine Gz.dmul 35 X0 hx (dd at_34) (own_no (own_k1b p0)) rfl ?_
      refine Gz.dstore 37 #[.val (.int p0), .val (.int p1), .val (.int (p1 &&& (3 : Int32))), .val (.int (1 : Int32)), .val (.double (FP.dmul (FP.dmul (FP.i2d p0) (9094988921128908188 : UInt64)) (9094988921128908188 : UInt64))), .second, .unset] X0 hx (dd at_35) rfl rfl ?_
      refine Gz.goto 69 X0 hx (dd at_37) (by decide) (by decide) ?_
      refine Gz.iloadN 70 X0 hx (dd at_69) rfl rfl ?_
      refine Gz.ifNo 73 X0 hx (dd at_70) ((if0 _ _).trans (feq (by decide : ¬ ((1 : Int32) = (0 : Int32)))).1) rfl ?_
      refine Gz.dload 75 X0 hx (dd at_73) rfl rfl ?_
      refine Gz.dneg 76 X0 hx (dd at_75) rfl ?_
      refine Gz.dstore 78 #[.val (.int p0), .val (.int p1), .val (.int (p1 &&& (3 : Int32))), .val (.int (1 : Int32)), .val (.double (FP.dneg (FP.dmul (FP.dmul (FP.i2d p0) (9094988921128908188 : UInt64)) (9094988921128908188 : UInt64)))), .second, .unset] X0 hx (dd at_76) rfl rfl ?_
      refine Gz.iloadN 79 X0 hx (dd at_78) rfl rfl ?_
      by_cases hc50 : (0 : Int32) < p0
      · refine Gz.ifNo 82 X0 hx (dd at_79) ((if0 _ _).trans (tlt hc50).2.2.2) rfl ?_
        refine Gz.iconst 83 (1 : Int32) X0 hx (dd at_82) rfl rfl ?_
        refine Gz.goto 95 X0 hx (dd at_83) (by decide) (by decide) ?_
        refine Gz.istore 97 #[.val (.int p0), .val (.int p1), .val (.int (p1 &&& (3 : Int32))), .val (.int (1 : Int32)), .val (.double (FP.dneg (FP.dmul (FP.dmul (FP.i2d p0) (9094988921128908188 : UInt64)) (9094988921128908188 : UInt64)))), .second, .val (.int (1 : Int32))] X0 hx (dd at_95) rfl rfl ?_
        refine Gz.iloadN 98 X0 hx (dd at_97) rfl rfl ?_
        refine Gz.ifNo 101 X0 hx (dd at_98) ((if0 _ _).trans (feq (by decide : ¬ ((1 : Int32) = (0 : Int32)))).1) rfl ?_
        refine Gz.iload 103 X0 hx (dd at_101) rfl rfl ?_
        refine Gz.inegV 104 (-1 : Int32) X0 hx (dd at_103) rfl rfl ?_
        refine Gz.istore 106 #[.val (.int p0), .val (.int p1), .val (.int (p1 &&& (3 : Int32))), .val (.int (1 : Int32)), .val (.double (FP.dneg (FP.dmul (FP.dmul (FP.i2d p0) (9094988921128908188 : UInt64)) (9094988921128908188 : UInt64)))), .second, .val (.int (-1 : Int32))] X0 hx (dd at_104) rfl rfl ?_
        obtain ⟨T51, h51, X51, e51, E51, A51, D51, -, st51⟩ := newO X0 hx hZ hown (ww hw 1 rfl) (ww hw 2 rfl) (ww hw 3 rfl) e0 (g := (mkF m 106 #[.val (.int p0), .val (.int p1), .val (.int (p1 &&& (3 : Int32))), .val (.int (1 : Int32)), .val (.double (FP.dneg (FP.dmul (FP.dmul (FP.i2d p0) (9094988921128908188 : UInt64)) (9094988921128908188 : UInt64)))), .second, .val (.int (-1 : Int32))] [])) rfl (dd at_106) (by decide) (by decide)
        obtain ⟨b51, g51⟩ : ∃ z, z = h0.size := ⟨_, rfl⟩
        rw [← g51] at A51 D51 st51
        have g_b51 : n0 ≤ b51 := Nat.le_trans Z0 (Nat.le_of_eq g51.symm)
        have SZ51 : n0 ≤ h51.size := Nat.le_trans Z0 E51.1
        have F_value_b51 : Fld Z h51 b51 "com/example/arhe/arhe/DoubleValue" "value" "D" (.double 0) := D51 (Or.inr (ww hw 21 rfl)) (ty := .double) (by decide)
        refine Gz.st st51 ?_
        refine Gz.dup 110 X51 hx (dd at_109) rfl rfl ?_
        refine Gz.dload 112 X51 hx (dd at_110) rfl rfl ?_
        obtain ⟨_, _, ⟨T52, L52, k52, n52⟩, -, X52, ⟨Lc52, hQ52, l52, y52, z52⟩, st52⟩ := X51.specialBack hx (y := ym2) rfl hown (mvT hZ (ww hw 4 rfl)) (mvT hZ (ww hw 5 rfl)) (mvT hZ (ww hw 6 rfl)) (by decide) (backOf (W := 1) (rm1 l Z av0 hw [] b51 (FP.dneg (FP.dmul (FP.dmul (FP.i2d p0) (9094988921128908188 : UInt64)) (9094988921128908188 : UInt64)))  h51 n0 SZ51 A51 F_value_b51 g_b51) hZ (ww hw 6 rfl) (ww hw 3 rfl) (by decide) (by decide)) (g := (mkF m 112 #[.val (.int p0), .val (.int p1), .val (.int (p1 &&& (3 : Int32))), .val (.int (1 : Int32)), .val (.double (FP.dneg (FP.dmul (FP.dmul (FP.i2d p0) (9094988921128908188 : UInt64)) (9094988921128908188 : UInt64)))), .second, .val (.int (-1 : Int32))] [(.double (FP.dneg (FP.dmul (FP.dmul (FP.i2d p0) (9094988921128908188 : UInt64)) (9094988921128908188 : UInt64)))), (.ref b51), (.ref b51)])) rfl (by rw [hml]; rfl) (Steps.refl _) (a := b51) (argsL := [(.double (FP.dneg (FP.dmul (FP.dmul (FP.i2d p0) (9094988921128908188 : UInt64)) (9094988921128908188 : UInt64))))]) (rest := [(.ref b51)]) (lenOf pd_1 rfl) rfl (Nat.le_refl _) (dd at_112) (fun _ _ => ⟨rfl, e51, (by decide : 1 + 0 ≤ _), (by decide : 1 + 0 ≤ _)⟩)
        dsimp only [Pt.U, Pt.locs, Pt.cells, Pt.slots, Q_rm1] at X52 l52 y52 z52 st52 hQ52
        subst l52 y52 z52
        obtain ⟨rfl, N52q, K52q, QE52_0, QF52_0⟩ := hQ52
        have N52 := Fr.app N0 N52q
        have f52_Eb51 := Exa.keep A51 K52q
        have SZ52 := Nat.le_trans SZ51 K52q.1
        refine Gz.tr st52 ?_
        obtain ⟨cq53, kq53, q53a, q53b, q53c⟩ := isOf hZ rfl QE52_0
        obtain ⟨_, _, ⟨T53, L53, k53, n53⟩, -, X53, ⟨Lc53, hQ53, l53, y53, z53⟩, st53⟩ := X52.virtualBack hx (y := ym3) (z := ym3) hown (mvT hZ (ww hw 22 rfl)) (mvT hZ (ww hw 23 rfl)) (notFace_of_selects (args := #[]) (mvT hZ (ww hw 25 rfl))) (mvT hZ (ww hw 25 rfl)) (mvT hZ (ww hw 24 rfl)) (by decide) (backOf (W := 0) (rm5 l Z av0 hw [] b51 (FP.dneg (FP.dmul (FP.dmul (FP.i2d p0) (9094988921128908188 : UInt64)) (9094988921128908188 : UInt64))) T52.heap n0 SZ52 QF52_0) hZ (ww hw 26 rfl) (ww hw 3 rfl) (by decide) (by decide)) q53a q53c (g := (mkF m 115 #[.val (.int p0), .val (.int p1), .val (.int (p1 &&& (3 : Int32))), .val (.int (1 : Int32)), .val (.double (FP.dneg (FP.dmul (FP.dmul (FP.i2d p0) (9094988921128908188 : UInt64)) (9094988921128908188 : UInt64)))), .second, .val (.int (-1 : Int32))] [(.ref b51)])) rfl (by rw [hml]; rfl) (Steps.refl _) (argsL := []) (rest := []) (lenOf pd_2 rfl) rfl (Nat.le_refl _) (dd at_115) (fun _ _ => ⟨rfl, rfl, (by decide : 1 + 0 ≤ _), (by decide : 1 + 0 ≤ _)⟩)
        dsimp only [Pt.U, Pt.locs, Pt.cells, Pt.slots, Q_rm5] at X53 l53 y53 z53 st53 hQ53
        subst l53 y53 z53
        obtain ⟨rfl, N53q, e53⟩ := hQ53
        have N53 := Fr.app N52 N53q
        refine Gz.tr st53 ?_
        refine Gz.iload 120 X53 hx (dd at_118) rfl rfl ?_
        refine Gz.icmpNo 123 X53 hx (dd at_120) (teq (own_n (own_dn (own_k1b p0)) ((by have := own_g1 hc50; omega)) : (fSig b51 (FP.dneg (FP.dmul (FP.dmul (FP.i2d p0) (9094988921128908188 : UInt64)) (9094988921128908188 : UInt64)))) = (-1 : Int32))).2 rfl ?_
        refine Gz.iconst 124 (1 : Int32) X53 hx (dd at_123) rfl rfl ?_
        refine Gz.goto 128 X53 hx (dd at_124) (by decide) (by decide) ?_
        refine Gz.fin X53 (v := some (.int (1 : Int32))) (fun h => by rw [hret] at h; cases h) hlk (by decide) (by decide) (fun fs hr => retN X53 hx (t := .boolean) hret (by simp) (dd at_128) hr) ?_
        exact ⟨rfl, N53⟩
      · refine Gz.ifYes 86 X0 hx (dd at_79) ((if0 _ _).trans (flt hc50).2.2.2) (by decide) (by decide) ?_
        refine Gz.iloadN 87 X0 hx (dd at_86) rfl rfl ?_
        by_cases hc54 : p0 < (0 : Int32)
        · refine Gz.ifNo 90 X0 hx (dd at_87) ((if0 _ _).trans (tlt hc54).2.1) rfl ?_
          refine Gz.iconst 91 (-1 : Int32) X0 hx (dd at_90) rfl rfl ?_
          refine Gz.goto 95 X0 hx (dd at_91) (by decide) (by decide) ?_
          refine Gz.istore 97 #[.val (.int p0), .val (.int p1), .val (.int (p1 &&& (3 : Int32))), .val (.int (1 : Int32)), .val (.double (FP.dneg (FP.dmul (FP.dmul (FP.i2d p0) (9094988921128908188 : UInt64)) (9094988921128908188 : UInt64)))), .second, .val (.int (-1 : Int32))] X0 hx (dd at_95) rfl rfl ?_
          refine Gz.iloadN 98 X0 hx (dd at_97) rfl rfl ?_
          refine Gz.ifNo 101 X0 hx (dd at_98) ((if0 _ _).trans (feq (by decide : ¬ ((1 : Int32) = (0 : Int32)))).1) rfl ?_
          refine Gz.iload 103 X0 hx (dd at_101) rfl rfl ?_
          refine Gz.inegV 104 (1 : Int32) X0 hx (dd at_103) rfl rfl ?_
          refine Gz.istore 106 #[.val (.int p0), .val (.int p1), .val (.int (p1 &&& (3 : Int32))), .val (.int (1 : Int32)), .val (.double (FP.dneg (FP.dmul (FP.dmul (FP.i2d p0) (9094988921128908188 : UInt64)) (9094988921128908188 : UInt64)))), .second, .val (.int (1 : Int32))] X0 hx (dd at_104) rfl rfl ?_
          obtain ⟨T55, h55, X55, e55, E55, A55, D55, -, st55⟩ := newO X0 hx hZ hown (ww hw 1 rfl) (ww hw 2 rfl) (ww hw 3 rfl) e0 (g := (mkF m 106 #[.val (.int p0), .val (.int p1), .val (.int (p1 &&& (3 : Int32))), .val (.int (1 : Int32)), .val (.double (FP.dneg (FP.dmul (FP.dmul (FP.i2d p0) (9094988921128908188 : UInt64)) (9094988921128908188 : UInt64)))), .second, .val (.int (1 : Int32))] [])) rfl (dd at_106) (by decide) (by decide)
          obtain ⟨b55, g55⟩ : ∃ z, z = h0.size := ⟨_, rfl⟩
          rw [← g55] at A55 D55 st55
          have g_b55 : n0 ≤ b55 := Nat.le_trans Z0 (Nat.le_of_eq g55.symm)
          have SZ55 : n0 ≤ h55.size := Nat.le_trans Z0 E55.1
          have F_value_b55 : Fld Z h55 b55 "com/example/arhe/arhe/DoubleValue" "value" "D" (.double 0) := D55 (Or.inr (ww hw 21 rfl)) (ty := .double) (by decide)
          refine Gz.st st55 ?_
          refine Gz.dup 110 X55 hx (dd at_109) rfl rfl ?_
          refine Gz.dload 112 X55 hx (dd at_110) rfl rfl ?_
          obtain ⟨_, _, ⟨T56, L56, k56, n56⟩, -, X56, ⟨Lc56, hQ56, l56, y56, z56⟩, st56⟩ := X55.specialBack hx (y := ym2) rfl hown (mvT hZ (ww hw 4 rfl)) (mvT hZ (ww hw 5 rfl)) (mvT hZ (ww hw 6 rfl)) (by decide) (backOf (W := 1) (rm1 l Z av0 hw [] b55 (FP.dneg (FP.dmul (FP.dmul (FP.i2d p0) (9094988921128908188 : UInt64)) (9094988921128908188 : UInt64)))  h55 n0 SZ55 A55 F_value_b55 g_b55) hZ (ww hw 6 rfl) (ww hw 3 rfl) (by decide) (by decide)) (g := (mkF m 112 #[.val (.int p0), .val (.int p1), .val (.int (p1 &&& (3 : Int32))), .val (.int (1 : Int32)), .val (.double (FP.dneg (FP.dmul (FP.dmul (FP.i2d p0) (9094988921128908188 : UInt64)) (9094988921128908188 : UInt64)))), .second, .val (.int (1 : Int32))] [(.double (FP.dneg (FP.dmul (FP.dmul (FP.i2d p0) (9094988921128908188 : UInt64)) (9094988921128908188 : UInt64)))), (.ref b55), (.ref b55)])) rfl (by rw [hml]; rfl) (Steps.refl _) (a := b55) (argsL := [(.double (FP.dneg (FP.dmul (FP.dmul (FP.i2d p0) (9094988921128908188 : UInt64)) (9094988921128908188 : UInt64))))]) (rest := [(.ref b55)]) (lenOf pd_1 rfl) rfl (Nat.le_refl _) (dd at_112) (fun _ _ => ⟨rfl, e55, (by decide : 1 + 0 ≤ _), (by decide : 1 + 0 ≤ _)⟩)
          dsimp only [Pt.U, Pt.locs, Pt.cells, Pt.slots, Q_rm1] at X56 l56 y56 z56 st56 hQ56
          subst l56 y56 z56
          obtain ⟨rfl, N56q, K56q, QE56_0, QF56_0⟩ := hQ56
          have N56 := Fr.app N0 N56q
          have f56_Eb55 := Exa.keep A55 K56q
          have SZ56 := Nat.le_trans SZ55 K56q.1
          refine Gz.tr st56 ?_
          obtain ⟨cq57, kq57, q57a, q57b, q57c⟩ := isOf hZ rfl QE56_0
          obtain ⟨_, _, ⟨T57, L57, k57, n57⟩, -, X57, ⟨Lc57, hQ57, l57, y57, z57⟩, st57⟩ := X56.virtualBack hx (y := ym3) (z := ym3) hown (mvT hZ (ww hw 22 rfl)) (mvT hZ (ww hw 23 rfl)) (notFace_of_selects (args := #[]) (mvT hZ (ww hw 25 rfl))) (mvT hZ (ww hw 25 rfl)) (mvT hZ (ww hw 24 rfl)) (by decide) (backOf (W := 0) (rm5 l Z av0 hw [] b55 (FP.dneg (FP.dmul (FP.dmul (FP.i2d p0) (9094988921128908188 : UInt64)) (9094988921128908188 : UInt64))) T56.heap n0 SZ56 QF56_0) hZ (ww hw 26 rfl) (ww hw 3 rfl) (by decide) (by decide)) q57a q57c (g := (mkF m 115 #[.val (.int p0), .val (.int p1), .val (.int (p1 &&& (3 : Int32))), .val (.int (1 : Int32)), .val (.double (FP.dneg (FP.dmul (FP.dmul (FP.i2d p0) (9094988921128908188 : UInt64)) (9094988921128908188 : UInt64)))), .second, .val (.int (1 : Int32))] [(.ref b55)])) rfl (by rw [hml]; rfl) (Steps.refl _) (argsL := []) (rest := []) (lenOf pd_2 rfl) rfl (Nat.le_refl _) (dd at_115) (fun _ _ => ⟨rfl, rfl, (by decide : 1 + 0 ≤ _), (by decide : 1 + 0 ≤ _)⟩)
          dsimp only [Pt.U, Pt.locs, Pt.cells, Pt.slots, Q_rm5] at X57 l57 y57 z57 st57 hQ57
          subst l57 y57 z57
          obtain ⟨rfl, N57q, e57⟩ := hQ57
          have N57 := Fr.app N56 N57q
          refine Gz.tr st57 ?_
          refine Gz.iload 120 X57 hx (dd at_118) rfl rfl ?_
          refine Gz.icmpNo 123 X57 hx (dd at_120) (teq (own_p (own_dn (own_k1b p0)) ((by have := own_l1 hc54; omega)) : (fSig b55 (FP.dneg (FP.dmul (FP.dmul (FP.i2d p0) (9094988921128908188 : UInt64)) (9094988921128908188 : UInt64)))) = (1 : Int32))).2 rfl ?_
          refine Gz.iconst 124 (1 : Int32) X57 hx (dd at_123) rfl rfl ?_
          refine Gz.goto 128 X57 hx (dd at_124) (by decide) (by decide) ?_
          refine Gz.fin X57 (v := some (.int (1 : Int32))) (fun h => by rw [hret] at h; cases h) hlk (by decide) (by decide) (fun fs hr => retN X57 hx (t := .boolean) hret (by simp) (dd at_128) hr) ?_
          exact ⟨rfl, N57⟩
        · refine Gz.ifYes 94 X0 hx (dd at_87) ((if0 _ _).trans (flt hc54).2.1) (by decide) (by decide) ?_
          refine Gz.iconst 95 (0 : Int32) X0 hx (dd at_94) rfl rfl ?_
          refine Gz.istore 97 #[.val (.int p0), .val (.int p1), .val (.int (p1 &&& (3 : Int32))), .val (.int (1 : Int32)), .val (.double (FP.dneg (FP.dmul (FP.dmul (FP.i2d p0) (9094988921128908188 : UInt64)) (9094988921128908188 : UInt64)))), .second, .val (.int (0 : Int32))] X0 hx (dd at_95) rfl rfl ?_
          refine Gz.iloadN 98 X0 hx (dd at_97) rfl rfl ?_
          refine Gz.ifNo 101 X0 hx (dd at_98) ((if0 _ _).trans (feq (by decide : ¬ ((1 : Int32) = (0 : Int32)))).1) rfl ?_
          refine Gz.iload 103 X0 hx (dd at_101) rfl rfl ?_
          refine Gz.inegV 104 (0 : Int32) X0 hx (dd at_103) rfl rfl ?_
          refine Gz.istore 106 #[.val (.int p0), .val (.int p1), .val (.int (p1 &&& (3 : Int32))), .val (.int (1 : Int32)), .val (.double (FP.dneg (FP.dmul (FP.dmul (FP.i2d p0) (9094988921128908188 : UInt64)) (9094988921128908188 : UInt64)))), .second, .val (.int (0 : Int32))] X0 hx (dd at_104) rfl rfl ?_
          obtain ⟨T58, h58, X58, e58, E58, A58, D58, -, st58⟩ := newO X0 hx hZ hown (ww hw 1 rfl) (ww hw 2 rfl) (ww hw 3 rfl) e0 (g := (mkF m 106 #[.val (.int p0), .val (.int p1), .val (.int (p1 &&& (3 : Int32))), .val (.int (1 : Int32)), .val (.double (FP.dneg (FP.dmul (FP.dmul (FP.i2d p0) (9094988921128908188 : UInt64)) (9094988921128908188 : UInt64)))), .second, .val (.int (0 : Int32))] [])) rfl (dd at_106) (by decide) (by decide)
          obtain ⟨b58, g58⟩ : ∃ z, z = h0.size := ⟨_, rfl⟩
          rw [← g58] at A58 D58 st58
          have g_b58 : n0 ≤ b58 := Nat.le_trans Z0 (Nat.le_of_eq g58.symm)
          have SZ58 : n0 ≤ h58.size := Nat.le_trans Z0 E58.1
          have F_value_b58 : Fld Z h58 b58 "com/example/arhe/arhe/DoubleValue" "value" "D" (.double 0) := D58 (Or.inr (ww hw 21 rfl)) (ty := .double) (by decide)
          refine Gz.st st58 ?_
          refine Gz.dup 110 X58 hx (dd at_109) rfl rfl ?_
          refine Gz.dload 112 X58 hx (dd at_110) rfl rfl ?_
          obtain ⟨_, _, ⟨T59, L59, k59, n59⟩, -, X59, ⟨Lc59, hQ59, l59, y59, z59⟩, st59⟩ := X58.specialBack hx (y := ym2) rfl hown (mvT hZ (ww hw 4 rfl)) (mvT hZ (ww hw 5 rfl)) (mvT hZ (ww hw 6 rfl)) (by decide) (backOf (W := 1) (rm1 l Z av0 hw [] b58 (FP.dneg (FP.dmul (FP.dmul (FP.i2d p0) (9094988921128908188 : UInt64)) (9094988921128908188 : UInt64)))  h58 n0 SZ58 A58 F_value_b58 g_b58) hZ (ww hw 6 rfl) (ww hw 3 rfl) (by decide) (by decide)) (g := (mkF m 112 #[.val (.int p0), .val (.int p1), .val (.int (p1 &&& (3 : Int32))), .val (.int (1 : Int32)), .val (.double (FP.dneg (FP.dmul (FP.dmul (FP.i2d p0) (9094988921128908188 : UInt64)) (9094988921128908188 : UInt64)))), .second, .val (.int (0 : Int32))] [(.double (FP.dneg (FP.dmul (FP.dmul (FP.i2d p0) (9094988921128908188 : UInt64)) (9094988921128908188 : UInt64)))), (.ref b58), (.ref b58)])) rfl (by rw [hml]; rfl) (Steps.refl _) (a := b58) (argsL := [(.double (FP.dneg (FP.dmul (FP.dmul (FP.i2d p0) (9094988921128908188 : UInt64)) (9094988921128908188 : UInt64))))]) (rest := [(.ref b58)]) (lenOf pd_1 rfl) rfl (Nat.le_refl _) (dd at_112) (fun _ _ => ⟨rfl, e58, (by decide : 1 + 0 ≤ _), (by decide : 1 + 0 ≤ _)⟩)
          dsimp only [Pt.U, Pt.locs, Pt.cells, Pt.slots, Q_rm1] at X59 l59 y59 z59 st59 hQ59
          subst l59 y59 z59
          obtain ⟨rfl, N59q, K59q, QE59_0, QF59_0⟩ := hQ59
          have N59 := Fr.app N0 N59q
          have f59_Eb58 := Exa.keep A58 K59q
          have SZ59 := Nat.le_trans SZ58 K59q.1
          refine Gz.tr st59 ?_
          obtain ⟨cq60, kq60, q60a, q60b, q60c⟩ := isOf hZ rfl QE59_0
          obtain ⟨_, _, ⟨T60, L60, k60, n60⟩, -, X60, ⟨Lc60, hQ60, l60, y60, z60⟩, st60⟩ := X59.virtualBack hx (y := ym3) (z := ym3) hown (mvT hZ (ww hw 22 rfl)) (mvT hZ (ww hw 23 rfl)) (notFace_of_selects (args := #[]) (mvT hZ (ww hw 25 rfl))) (mvT hZ (ww hw 25 rfl)) (mvT hZ (ww hw 24 rfl)) (by decide) (backOf (W := 0) (rm5 l Z av0 hw [] b58 (FP.dneg (FP.dmul (FP.dmul (FP.i2d p0) (9094988921128908188 : UInt64)) (9094988921128908188 : UInt64))) T59.heap n0 SZ59 QF59_0) hZ (ww hw 26 rfl) (ww hw 3 rfl) (by decide) (by decide)) q60a q60c (g := (mkF m 115 #[.val (.int p0), .val (.int p1), .val (.int (p1 &&& (3 : Int32))), .val (.int (1 : Int32)), .val (.double (FP.dneg (FP.dmul (FP.dmul (FP.i2d p0) (9094988921128908188 : UInt64)) (9094988921128908188 : UInt64)))), .second, .val (.int (0 : Int32))] [(.ref b58)])) rfl (by rw [hml]; rfl) (Steps.refl _) (argsL := []) (rest := []) (lenOf pd_2 rfl) rfl (Nat.le_refl _) (dd at_115) (fun _ _ => ⟨rfl, rfl, (by decide : 1 + 0 ≤ _), (by decide : 1 + 0 ≤ _)⟩)
          dsimp only [Pt.U, Pt.locs, Pt.cells, Pt.slots, Q_rm5] at X60 l60 y60 z60 st60 hQ60
          subst l60 y60 z60
          obtain ⟨rfl, N60q, e60⟩ := hQ60
          have N60 := Fr.app N59 N60q
          refine Gz.tr st60 ?_
          refine Gz.iload 120 X60 hx (dd at_118) rfl rfl ?_
          refine Gz.icmpNo 123 X60 hx (dd at_120) (teq (own_z (own_dn (own_k1b p0)) ((by have := own_z1 hc50 hc54; omega)) : (fSig b58 (FP.dneg (FP.dmul (FP.dmul (FP.i2d p0) (9094988921128908188 : UInt64)) (9094988921128908188 : UInt64)))) = (0 : Int32))).2 rfl ?_
          refine Gz.iconst 124 (1 : Int32) X60 hx (dd at_123) rfl rfl ?_
          refine Gz.goto 128 X60 hx (dd at_124) (by decide) (by decide) ?_
          refine Gz.fin X60 (v := some (.int (1 : Int32))) (fun h => by rw [hret] at h; cases h) hlk (by decide) (by decide) (fun fs hr => retN X60 hx (t := .boolean) hret (by simp) (dd at_128) hr) ?_
          exact ⟨rfl, N60⟩
    · refine Gz.icmpYes 40 X0 hx (dd at_22) (feq hc49).2 (by decide) (by decide) ?_
      refine Gz.iloadN 41 X0 hx (dd at_40) rfl rfl ?_
      refine Gz.iconst 42 (2 : Int32) X0 hx (dd at_41) rfl rfl ?_
      by_cases hc61 : (p1 &&& (3 : Int32)) = (2 : Int32)
      · refine Gz.icmpNo 45 X0 hx (dd at_42) (teq hc61).2 rfl ?_
        refine Gz.dload 47 X0 hx (dd at_45) rfl rfl ?_
        refine Gz.ldc2D 50 X0 hx (dd at_47) hown (mvT hZ (ww hw 28 rfl)) rfl ?_
        refine Gz.dmul 51 X0 hx (dd at_50) (own_no (own_k2 p0)) rfl ?_
        refine Gz.dstore 53 #[.val (.int p0), .val (.int p1), .val (.int (p1 &&& (3 : Int32))), .val (.int (1 : Int32)), .val (.double (FP.dmul (FP.i2d p0) (1 : UInt64))), .second, .unset] X0 hx (dd at_51) rfl rfl ?_
        refine Gz.goto 69 X0 hx (dd at_53) (by decide) (by decide) ?_
        refine Gz.iloadN 70 X0 hx (dd at_69) rfl rfl ?_
        refine Gz.ifNo 73 X0 hx (dd at_70) ((if0 _ _).trans (feq (by decide : ¬ ((1 : Int32) = (0 : Int32)))).1) rfl ?_
        refine Gz.dload 75 X0 hx (dd at_73) rfl rfl ?_
        refine Gz.dneg 76 X0 hx (dd at_75) rfl ?_
        refine Gz.dstore 78 #[.val (.int p0), .val (.int p1), .val (.int (p1 &&& (3 : Int32))), .val (.int (1 : Int32)), .val (.double (FP.dneg (FP.dmul (FP.i2d p0) (1 : UInt64)))), .second, .unset] X0 hx (dd at_76) rfl rfl ?_
        refine Gz.iloadN 79 X0 hx (dd at_78) rfl rfl ?_
        by_cases hc62 : (0 : Int32) < p0
        · refine Gz.ifNo 82 X0 hx (dd at_79) ((if0 _ _).trans (tlt hc62).2.2.2) rfl ?_
          refine Gz.iconst 83 (1 : Int32) X0 hx (dd at_82) rfl rfl ?_
          refine Gz.goto 95 X0 hx (dd at_83) (by decide) (by decide) ?_
          refine Gz.istore 97 #[.val (.int p0), .val (.int p1), .val (.int (p1 &&& (3 : Int32))), .val (.int (1 : Int32)), .val (.double (FP.dneg (FP.dmul (FP.i2d p0) (1 : UInt64)))), .second, .val (.int (1 : Int32))] X0 hx (dd at_95) rfl rfl ?_
          refine Gz.iloadN 98 X0 hx (dd at_97) rfl rfl ?_
          refine Gz.ifNo 101 X0 hx (dd at_98) ((if0 _ _).trans (feq (by decide : ¬ ((1 : Int32) = (0 : Int32)))).1) rfl ?_
          refine Gz.iload 103 X0 hx (dd at_101) rfl rfl ?_
          refine Gz.inegV 104 (-1 : Int32) X0 hx (dd at_103) rfl rfl ?_
          refine Gz.istore 106 #[.val (.int p0), .val (.int p1), .val (.int (p1 &&& (3 : Int32))), .val (.int (1 : Int32)), .val (.double (FP.dneg (FP.dmul (FP.i2d p0) (1 : UInt64)))), .second, .val (.int (-1 : Int32))] X0 hx (dd at_104) rfl rfl ?_
          obtain ⟨T63, h63, X63, e63, E63, A63, D63, -, st63⟩ := newO X0 hx hZ hown (ww hw 1 rfl) (ww hw 2 rfl) (ww hw 3 rfl) e0 (g := (mkF m 106 #[.val (.int p0), .val (.int p1), .val (.int (p1 &&& (3 : Int32))), .val (.int (1 : Int32)), .val (.double (FP.dneg (FP.dmul (FP.i2d p0) (1 : UInt64)))), .second, .val (.int (-1 : Int32))] [])) rfl (dd at_106) (by decide) (by decide)
          obtain ⟨b63, g63⟩ : ∃ z, z = h0.size := ⟨_, rfl⟩
          rw [← g63] at A63 D63 st63
          have g_b63 : n0 ≤ b63 := Nat.le_trans Z0 (Nat.le_of_eq g63.symm)
          have SZ63 : n0 ≤ h63.size := Nat.le_trans Z0 E63.1
          have F_value_b63 : Fld Z h63 b63 "com/example/arhe/arhe/DoubleValue" "value" "D" (.double 0) := D63 (Or.inr (ww hw 21 rfl)) (ty := .double) (by decide)
          refine Gz.st st63 ?_
          refine Gz.dup 110 X63 hx (dd at_109) rfl rfl ?_
          refine Gz.dload 112 X63 hx (dd at_110) rfl rfl ?_
          obtain ⟨_, _, ⟨T64, L64, k64, n64⟩, -, X64, ⟨Lc64, hQ64, l64, y64, z64⟩, st64⟩ := X63.specialBack hx (y := ym2) rfl hown (mvT hZ (ww hw 4 rfl)) (mvT hZ (ww hw 5 rfl)) (mvT hZ (ww hw 6 rfl)) (by decide) (backOf (W := 1) (rm1 l Z av0 hw [] b63 (FP.dneg (FP.dmul (FP.i2d p0) (1 : UInt64)))  h63 n0 SZ63 A63 F_value_b63 g_b63) hZ (ww hw 6 rfl) (ww hw 3 rfl) (by decide) (by decide)) (g := (mkF m 112 #[.val (.int p0), .val (.int p1), .val (.int (p1 &&& (3 : Int32))), .val (.int (1 : Int32)), .val (.double (FP.dneg (FP.dmul (FP.i2d p0) (1 : UInt64)))), .second, .val (.int (-1 : Int32))] [(.double (FP.dneg (FP.dmul (FP.i2d p0) (1 : UInt64)))), (.ref b63), (.ref b63)])) rfl (by rw [hml]; rfl) (Steps.refl _) (a := b63) (argsL := [(.double (FP.dneg (FP.dmul (FP.i2d p0) (1 : UInt64))))]) (rest := [(.ref b63)]) (lenOf pd_1 rfl) rfl (Nat.le_refl _) (dd at_112) (fun _ _ => ⟨rfl, e63, (by decide : 1 + 0 ≤ _), (by decide : 1 + 0 ≤ _)⟩)
          dsimp only [Pt.U, Pt.locs, Pt.cells, Pt.slots, Q_rm1] at X64 l64 y64 z64 st64 hQ64
          subst l64 y64 z64
          obtain ⟨rfl, N64q, K64q, QE64_0, QF64_0⟩ := hQ64
          have N64 := Fr.app N0 N64q
          have f64_Eb63 := Exa.keep A63 K64q
          have SZ64 := Nat.le_trans SZ63 K64q.1
          refine Gz.tr st64 ?_
          obtain ⟨cq65, kq65, q65a, q65b, q65c⟩ := isOf hZ rfl QE64_0
          obtain ⟨_, _, ⟨T65, L65, k65, n65⟩, -, X65, ⟨Lc65, hQ65, l65, y65, z65⟩, st65⟩ := X64.virtualBack hx (y := ym3) (z := ym3) hown (mvT hZ (ww hw 22 rfl)) (mvT hZ (ww hw 23 rfl)) (notFace_of_selects (args := #[]) (mvT hZ (ww hw 25 rfl))) (mvT hZ (ww hw 25 rfl)) (mvT hZ (ww hw 24 rfl)) (by decide) (backOf (W := 0) (rm5 l Z av0 hw [] b63 (FP.dneg (FP.dmul (FP.i2d p0) (1 : UInt64))) T64.heap n0 SZ64 QF64_0) hZ (ww hw 26 rfl) (ww hw 3 rfl) (by decide) (by decide)) q65a q65c (g := (mkF m 115 #[.val (.int p0), .val (.int p1), .val (.int (p1 &&& (3 : Int32))), .val (.int (1 : Int32)), .val (.double (FP.dneg (FP.dmul (FP.i2d p0) (1 : UInt64)))), .second, .val (.int (-1 : Int32))] [(.ref b63)])) rfl (by rw [hml]; rfl) (Steps.refl _) (argsL := []) (rest := []) (lenOf pd_2 rfl) rfl (Nat.le_refl _) (dd at_115) (fun _ _ => ⟨rfl, rfl, (by decide : 1 + 0 ≤ _), (by decide : 1 + 0 ≤ _)⟩)
          dsimp only [Pt.U, Pt.locs, Pt.cells, Pt.slots, Q_rm5] at X65 l65 y65 z65 st65 hQ65
          subst l65 y65 z65
          obtain ⟨rfl, N65q, e65⟩ := hQ65
          have N65 := Fr.app N64 N65q
          refine Gz.tr st65 ?_
          refine Gz.iload 120 X65 hx (dd at_118) rfl rfl ?_
          refine Gz.icmpNo 123 X65 hx (dd at_120) (teq (own_n (own_dn (own_k2 p0)) ((by have := own_g1 hc62; omega)) : (fSig b63 (FP.dneg (FP.dmul (FP.i2d p0) (1 : UInt64)))) = (-1 : Int32))).2 rfl ?_
          refine Gz.iconst 124 (1 : Int32) X65 hx (dd at_123) rfl rfl ?_
          refine Gz.goto 128 X65 hx (dd at_124) (by decide) (by decide) ?_
          refine Gz.fin X65 (v := some (.int (1 : Int32))) (fun h => by rw [hret] at h; cases h) hlk (by decide) (by decide) (fun fs hr => retN X65 hx (t := .boolean) hret (by simp) (dd at_128) hr) ?_
          exact ⟨rfl, N65⟩
        · refine Gz.ifYes 86 X0 hx (dd at_79) ((if0 _ _).trans (flt hc62).2.2.2) (by decide) (by decide) ?_
          refine Gz.iloadN 87 X0 hx (dd at_86) rfl rfl ?_
          by_cases hc66 : p0 < (0 : Int32)
          · refine Gz.ifNo 90 X0 hx (dd at_87) ((if0 _ _).trans (tlt hc66).2.1) rfl ?_
            refine Gz.iconst 91 (-1 : Int32) X0 hx (dd at_90) rfl rfl ?_
            refine Gz.goto 95 X0 hx (dd at_91) (by decide) (by decide) ?_
            refine Gz.istore 97 #[.val (.int p0), .val (.int p1), .val (.int (p1 &&& (3 : Int32))), .val (.int (1 : Int32)), .val (.double (FP.dneg (FP.dmul (FP.i2d p0) (1 : UInt64)))), .second, .val (.int (-1 : Int32))] X0 hx (dd at_95) rfl rfl ?_
            refine Gz.iloadN 98 X0 hx (dd at_97) rfl rfl ?_
            refine Gz.ifNo 101 X0 hx (dd at_98) ((if0 _ _).trans (feq (by decide : ¬ ((1 : Int32) = (0 : Int32)))).1) rfl ?_
            refine Gz.iload 103 X0 hx (dd at_101) rfl rfl ?_
            refine Gz.inegV 104 (1 : Int32) X0 hx (dd at_103) rfl rfl ?_
            refine Gz.istore 106 #[.val (.int p0), .val (.int p1), .val (.int (p1 &&& (3 : Int32))), .val (.int (1 : Int32)), .val (.double (FP.dneg (FP.dmul (FP.i2d p0) (1 : UInt64)))), .second, .val (.int (1 : Int32))] X0 hx (dd at_104) rfl rfl ?_
            obtain ⟨T67, h67, X67, e67, E67, A67, D67, -, st67⟩ := newO X0 hx hZ hown (ww hw 1 rfl) (ww hw 2 rfl) (ww hw 3 rfl) e0 (g := (mkF m 106 #[.val (.int p0), .val (.int p1), .val (.int (p1 &&& (3 : Int32))), .val (.int (1 : Int32)), .val (.double (FP.dneg (FP.dmul (FP.i2d p0) (1 : UInt64)))), .second, .val (.int (1 : Int32))] [])) rfl (dd at_106) (by decide) (by decide)
            obtain ⟨b67, g67⟩ : ∃ z, z = h0.size := ⟨_, rfl⟩
            rw [← g67] at A67 D67 st67
            have g_b67 : n0 ≤ b67 := Nat.le_trans Z0 (Nat.le_of_eq g67.symm)
            have SZ67 : n0 ≤ h67.size := Nat.le_trans Z0 E67.1
            have F_value_b67 : Fld Z h67 b67 "com/example/arhe/arhe/DoubleValue" "value" "D" (.double 0) := D67 (Or.inr (ww hw 21 rfl)) (ty := .double) (by decide)
            refine Gz.st st67 ?_
            refine Gz.dup 110 X67 hx (dd at_109) rfl rfl ?_
            refine Gz.dload 112 X67 hx (dd at_110) rfl rfl ?_
            obtain ⟨_, _, ⟨T68, L68, k68, n68⟩, -, X68, ⟨Lc68, hQ68, l68, y68, z68⟩, st68⟩ := X67.specialBack hx (y := ym2) rfl hown (mvT hZ (ww hw 4 rfl)) (mvT hZ (ww hw 5 rfl)) (mvT hZ (ww hw 6 rfl)) (by decide) (backOf (W := 1) (rm1 l Z av0 hw [] b67 (FP.dneg (FP.dmul (FP.i2d p0) (1 : UInt64)))  h67 n0 SZ67 A67 F_value_b67 g_b67) hZ (ww hw 6 rfl) (ww hw 3 rfl) (by decide) (by decide)) (g := (mkF m 112 #[.val (.int p0), .val (.int p1), .val (.int (p1 &&& (3 : Int32))), .val (.int (1 : Int32)), .val (.double (FP.dneg (FP.dmul (FP.i2d p0) (1 : UInt64)))), .second, .val (.int (1 : Int32))] [(.double (FP.dneg (FP.dmul (FP.i2d p0) (1 : UInt64)))), (.ref b67), (.ref b67)])) rfl (by rw [hml]; rfl) (Steps.refl _) (a := b67) (argsL := [(.double (FP.dneg (FP.dmul (FP.i2d p0) (1 : UInt64))))]) (rest := [(.ref b67)]) (lenOf pd_1 rfl) rfl (Nat.le_refl _) (dd at_112) (fun _ _ => ⟨rfl, e67, (by decide : 1 + 0 ≤ _), (by decide : 1 + 0 ≤ _)⟩)
            dsimp only [Pt.U, Pt.locs, Pt.cells, Pt.slots, Q_rm1] at X68 l68 y68 z68 st68 hQ68
            subst l68 y68 z68
            obtain ⟨rfl, N68q, K68q, QE68_0, QF68_0⟩ := hQ68
            have N68 := Fr.app N0 N68q
            have f68_Eb67 := Exa.keep A67 K68q
            have SZ68 := Nat.le_trans SZ67 K68q.1
            refine Gz.tr st68 ?_
            obtain ⟨cq69, kq69, q69a, q69b, q69c⟩ := isOf hZ rfl QE68_0
            obtain ⟨_, _, ⟨T69, L69, k69, n69⟩, -, X69, ⟨Lc69, hQ69, l69, y69, z69⟩, st69⟩ := X68.virtualBack hx (y := ym3) (z := ym3) hown (mvT hZ (ww hw 22 rfl)) (mvT hZ (ww hw 23 rfl)) (notFace_of_selects (args := #[]) (mvT hZ (ww hw 25 rfl))) (mvT hZ (ww hw 25 rfl)) (mvT hZ (ww hw 24 rfl)) (by decide) (backOf (W := 0) (rm5 l Z av0 hw [] b67 (FP.dneg (FP.dmul (FP.i2d p0) (1 : UInt64))) T68.heap n0 SZ68 QF68_0) hZ (ww hw 26 rfl) (ww hw 3 rfl) (by decide) (by decide)) q69a q69c (g := (mkF m 115 #[.val (.int p0), .val (.int p1), .val (.int (p1 &&& (3 : Int32))), .val (.int (1 : Int32)), .val (.double (FP.dneg (FP.dmul (FP.i2d p0) (1 : UInt64)))), .second, .val (.int (1 : Int32))] [(.ref b67)])) rfl (by rw [hml]; rfl) (Steps.refl _) (argsL := []) (rest := []) (lenOf pd_2 rfl) rfl (Nat.le_refl _) (dd at_115) (fun _ _ => ⟨rfl, rfl, (by decide : 1 + 0 ≤ _), (by decide : 1 + 0 ≤ _)⟩)
            dsimp only [Pt.U, Pt.locs, Pt.cells, Pt.slots, Q_rm5] at X69 l69 y69 z69 st69 hQ69
            subst l69 y69 z69
            obtain ⟨rfl, N69q, e69⟩ := hQ69
            have N69 := Fr.app N68 N69q
            refine Gz.tr st69 ?_
            refine Gz.iload 120 X69 hx (dd at_118) rfl rfl ?_
            refine Gz.icmpNo 123 X69 hx (dd at_120) (teq (own_p (own_dn (own_k2 p0)) ((by have := own_l1 hc66; omega)) : (fSig b67 (FP.dneg (FP.dmul (FP.i2d p0) (1 : UInt64)))) = (1 : Int32))).2 rfl ?_
            refine Gz.iconst 124 (1 : Int32) X69 hx (dd at_123) rfl rfl ?_
            refine Gz.goto 128 X69 hx (dd at_124) (by decide) (by decide) ?_
            refine Gz.fin X69 (v := some (.int (1 : Int32))) (fun h => by rw [hret] at h; cases h) hlk (by decide) (by decide) (fun fs hr => retN X69 hx (t := .boolean) hret (by simp) (dd at_128) hr) ?_
            exact ⟨rfl, N69⟩
          · refine Gz.ifYes 94 X0 hx (dd at_87) ((if0 _ _).trans (flt hc66).2.1) (by decide) (by decide) ?_
            refine Gz.iconst 95 (0 : Int32) X0 hx (dd at_94) rfl rfl ?_
            refine Gz.istore 97 #[.val (.int p0), .val (.int p1), .val (.int (p1 &&& (3 : Int32))), .val (.int (1 : Int32)), .val (.double (FP.dneg (FP.dmul (FP.i2d p0) (1 : UInt64)))), .second, .val (.int (0 : Int32))] X0 hx (dd at_95) rfl rfl ?_
            refine Gz.iloadN 98 X0 hx (dd at_97) rfl rfl ?_
            refine Gz.ifNo 101 X0 hx (dd at_98) ((if0 _ _).trans (feq (by decide : ¬ ((1 : Int32) = (0 : Int32)))).1) rfl ?_
            refine Gz.iload 103 X0 hx (dd at_101) rfl rfl ?_
            refine Gz.inegV 104 (0 : Int32) X0 hx (dd at_103) rfl rfl ?_
            refine Gz.istore 106 #[.val (.int p0), .val (.int p1), .val (.int (p1 &&& (3 : Int32))), .val (.int (1 : Int32)), .val (.double (FP.dneg (FP.dmul (FP.i2d p0) (1 : UInt64)))), .second, .val (.int (0 : Int32))] X0 hx (dd at_104) rfl rfl ?_
            obtain ⟨T70, h70, X70, e70, E70, A70, D70, -, st70⟩ := newO X0 hx hZ hown (ww hw 1 rfl) (ww hw 2 rfl) (ww hw 3 rfl) e0 (g := (mkF m 106 #[.val (.int p0), .val (.int p1), .val (.int (p1 &&& (3 : Int32))), .val (.int (1 : Int32)), .val (.double (FP.dneg (FP.dmul (FP.i2d p0) (1 : UInt64)))), .second, .val (.int (0 : Int32))] [])) rfl (dd at_106) (by decide) (by decide)
            obtain ⟨b70, g70⟩ : ∃ z, z = h0.size := ⟨_, rfl⟩
            rw [← g70] at A70 D70 st70
            have g_b70 : n0 ≤ b70 := Nat.le_trans Z0 (Nat.le_of_eq g70.symm)
            have SZ70 : n0 ≤ h70.size := Nat.le_trans Z0 E70.1
            have F_value_b70 : Fld Z h70 b70 "com/example/arhe/arhe/DoubleValue" "value" "D" (.double 0) := D70 (Or.inr (ww hw 21 rfl)) (ty := .double) (by decide)
            refine Gz.st st70 ?_
            refine Gz.dup 110 X70 hx (dd at_109) rfl rfl ?_
            refine Gz.dload 112 X70 hx (dd at_110) rfl rfl ?_
            obtain ⟨_, _, ⟨T71, L71, k71, n71⟩, -, X71, ⟨Lc71, hQ71, l71, y71, z71⟩, st71⟩ := X70.specialBack hx (y := ym2) rfl hown (mvT hZ (ww hw 4 rfl)) (mvT hZ (ww hw 5 rfl)) (mvT hZ (ww hw 6 rfl)) (by decide) (backOf (W := 1) (rm1 l Z av0 hw [] b70 (FP.dneg (FP.dmul (FP.i2d p0) (1 : UInt64)))  h70 n0 SZ70 A70 F_value_b70 g_b70) hZ (ww hw 6 rfl) (ww hw 3 rfl) (by decide) (by decide)) (g := (mkF m 112 #[.val (.int p0), .val (.int p1), .val (.int (p1 &&& (3 : Int32))), .val (.int (1 : Int32)), .val (.double (FP.dneg (FP.dmul (FP.i2d p0) (1 : UInt64)))), .second, .val (.int (0 : Int32))] [(.double (FP.dneg (FP.dmul (FP.i2d p0) (1 : UInt64)))), (.ref b70), (.ref b70)])) rfl (by rw [hml]; rfl) (Steps.refl _) (a := b70) (argsL := [(.double (FP.dneg (FP.dmul (FP.i2d p0) (1 : UInt64))))]) (rest := [(.ref b70)]) (lenOf pd_1 rfl) rfl (Nat.le_refl _) (dd at_112) (fun _ _ => ⟨rfl, e70, (by decide : 1 + 0 ≤ _), (by decide : 1 + 0 ≤ _)⟩)
            dsimp only [Pt.U, Pt.locs, Pt.cells, Pt.slots, Q_rm1] at X71 l71 y71 z71 st71 hQ71
            subst l71 y71 z71
            obtain ⟨rfl, N71q, K71q, QE71_0, QF71_0⟩ := hQ71
            have N71 := Fr.app N0 N71q
            have f71_Eb70 := Exa.keep A70 K71q
            have SZ71 := Nat.le_trans SZ70 K71q.1
            refine Gz.tr st71 ?_
            obtain ⟨cq72, kq72, q72a, q72b, q72c⟩ := isOf hZ rfl QE71_0
            obtain ⟨_, _, ⟨T72, L72, k72, n72⟩, -, X72, ⟨Lc72, hQ72, l72, y72, z72⟩, st72⟩ := X71.virtualBack hx (y := ym3) (z := ym3) hown (mvT hZ (ww hw 22 rfl)) (mvT hZ (ww hw 23 rfl)) (notFace_of_selects (args := #[]) (mvT hZ (ww hw 25 rfl))) (mvT hZ (ww hw 25 rfl)) (mvT hZ (ww hw 24 rfl)) (by decide) (backOf (W := 0) (rm5 l Z av0 hw [] b70 (FP.dneg (FP.dmul (FP.i2d p0) (1 : UInt64))) T71.heap n0 SZ71 QF71_0) hZ (ww hw 26 rfl) (ww hw 3 rfl) (by decide) (by decide)) q72a q72c (g := (mkF m 115 #[.val (.int p0), .val (.int p1), .val (.int (p1 &&& (3 : Int32))), .val (.int (1 : Int32)), .val (.double (FP.dneg (FP.dmul (FP.i2d p0) (1 : UInt64)))), .second, .val (.int (0 : Int32))] [(.ref b70)])) rfl (by rw [hml]; rfl) (Steps.refl _) (argsL := []) (rest := []) (lenOf pd_2 rfl) rfl (Nat.le_refl _) (dd at_115) (fun _ _ => ⟨rfl, rfl, (by decide : 1 + 0 ≤ _), (by decide : 1 + 0 ≤ _)⟩)
            dsimp only [Pt.U, Pt.locs, Pt.cells, Pt.slots, Q_rm5] at X72 l72 y72 z72 st72 hQ72
            subst l72 y72 z72
            obtain ⟨rfl, N72q, e72⟩ := hQ72
            have N72 := Fr.app N71 N72q
            refine Gz.tr st72 ?_
            refine Gz.iload 120 X72 hx (dd at_118) rfl rfl ?_
            refine Gz.icmpNo 123 X72 hx (dd at_120) (teq (own_z (own_dn (own_k2 p0)) ((by have := own_z1 hc62 hc66; omega)) : (fSig b70 (FP.dneg (FP.dmul (FP.i2d p0) (1 : UInt64)))) = (0 : Int32))).2 rfl ?_
            refine Gz.iconst 124 (1 : Int32) X72 hx (dd at_123) rfl rfl ?_
            refine Gz.goto 128 X72 hx (dd at_124) (by decide) (by decide) ?_
            refine Gz.fin X72 (v := some (.int (1 : Int32))) (fun h => by rw [hret] at h; cases h) hlk (by decide) (by decide) (fun fs hr => retN X72 hx (t := .boolean) hret (by simp) (dd at_128) hr) ?_
            exact ⟨rfl, N72⟩
      · refine Gz.icmpYes 56 X0 hx (dd at_42) (feq hc61).2 (by decide) (by decide) ?_
        refine Gz.iloadN 57 X0 hx (dd at_56) rfl rfl ?_
        refine Gz.iconst 58 (3 : Int32) X0 hx (dd at_57) rfl rfl ?_
        by_cases hc73 : (p1 &&& (3 : Int32)) = (3 : Int32)
        · refine Gz.icmpNo 61 X0 hx (dd at_58) (teq hc73).2 rfl ?_
          refine Gz.dload 63 X0 hx (dd at_61) rfl rfl ?_
          refine Gz.ldc2D 66 X0 hx (dd at_63) hown (mvT hZ (ww hw 0 rfl)) rfl ?_
          refine Gz.ddiv 67 X0 hx (dd at_66) (own_no (own_k3 p0)) rfl ?_
          refine Gz.dstore 69 #[.val (.int p0), .val (.int p1), .val (.int (p1 &&& (3 : Int32))), .val (.int (1 : Int32)), .val (.double (FP.ddiv (FP.i2d p0) (4613937818241073152 : UInt64))), .second, .unset] X0 hx (dd at_67) rfl rfl ?_
          refine Gz.iloadN 70 X0 hx (dd at_69) rfl rfl ?_
          refine Gz.ifNo 73 X0 hx (dd at_70) ((if0 _ _).trans (feq (by decide : ¬ ((1 : Int32) = (0 : Int32)))).1) rfl ?_
          refine Gz.dload 75 X0 hx (dd at_73) rfl rfl ?_
          refine Gz.dneg 76 X0 hx (dd at_75) rfl ?_
          refine Gz.dstore 78 #[.val (.int p0), .val (.int p1), .val (.int (p1 &&& (3 : Int32))), .val (.int (1 : Int32)), .val (.double (FP.dneg (FP.ddiv (FP.i2d p0) (4613937818241073152 : UInt64)))), .second, .unset] X0 hx (dd at_76) rfl rfl ?_
          refine Gz.iloadN 79 X0 hx (dd at_78) rfl rfl ?_
          by_cases hc74 : (0 : Int32) < p0
          · refine Gz.ifNo 82 X0 hx (dd at_79) ((if0 _ _).trans (tlt hc74).2.2.2) rfl ?_
            refine Gz.iconst 83 (1 : Int32) X0 hx (dd at_82) rfl rfl ?_
            refine Gz.goto 95 X0 hx (dd at_83) (by decide) (by decide) ?_
            refine Gz.istore 97 #[.val (.int p0), .val (.int p1), .val (.int (p1 &&& (3 : Int32))), .val (.int (1 : Int32)), .val (.double (FP.dneg (FP.ddiv (FP.i2d p0) (4613937818241073152 : UInt64)))), .second, .val (.int (1 : Int32))] X0 hx (dd at_95) rfl rfl ?_
            refine Gz.iloadN 98 X0 hx (dd at_97) rfl rfl ?_
            refine Gz.ifNo 101 X0 hx (dd at_98) ((if0 _ _).trans (feq (by decide : ¬ ((1 : Int32) = (0 : Int32)))).1) rfl ?_
            refine Gz.iload 103 X0 hx (dd at_101) rfl rfl ?_
            refine Gz.inegV 104 (-1 : Int32) X0 hx (dd at_103) rfl rfl ?_
            refine Gz.istore 106 #[.val (.int p0), .val (.int p1), .val (.int (p1 &&& (3 : Int32))), .val (.int (1 : Int32)), .val (.double (FP.dneg (FP.ddiv (FP.i2d p0) (4613937818241073152 : UInt64)))), .second, .val (.int (-1 : Int32))] X0 hx (dd at_104) rfl rfl ?_
            obtain ⟨T75, h75, X75, e75, E75, A75, D75, -, st75⟩ := newO X0 hx hZ hown (ww hw 1 rfl) (ww hw 2 rfl) (ww hw 3 rfl) e0 (g := (mkF m 106 #[.val (.int p0), .val (.int p1), .val (.int (p1 &&& (3 : Int32))), .val (.int (1 : Int32)), .val (.double (FP.dneg (FP.ddiv (FP.i2d p0) (4613937818241073152 : UInt64)))), .second, .val (.int (-1 : Int32))] [])) rfl (dd at_106) (by decide) (by decide)
            obtain ⟨b75, g75⟩ : ∃ z, z = h0.size := ⟨_, rfl⟩
            rw [← g75] at A75 D75 st75
            have g_b75 : n0 ≤ b75 := Nat.le_trans Z0 (Nat.le_of_eq g75.symm)
            have SZ75 : n0 ≤ h75.size := Nat.le_trans Z0 E75.1
            have F_value_b75 : Fld Z h75 b75 "com/example/arhe/arhe/DoubleValue" "value" "D" (.double 0) := D75 (Or.inr (ww hw 21 rfl)) (ty := .double) (by decide)
            refine Gz.st st75 ?_
            refine Gz.dup 110 X75 hx (dd at_109) rfl rfl ?_
            refine Gz.dload 112 X75 hx (dd at_110) rfl rfl ?_
            obtain ⟨_, _, ⟨T76, L76, k76, n76⟩, -, X76, ⟨Lc76, hQ76, l76, y76, z76⟩, st76⟩ := X75.specialBack hx (y := ym2) rfl hown (mvT hZ (ww hw 4 rfl)) (mvT hZ (ww hw 5 rfl)) (mvT hZ (ww hw 6 rfl)) (by decide) (backOf (W := 1) (rm1 l Z av0 hw [] b75 (FP.dneg (FP.ddiv (FP.i2d p0) (4613937818241073152 : UInt64)))  h75 n0 SZ75 A75 F_value_b75 g_b75) hZ (ww hw 6 rfl) (ww hw 3 rfl) (by decide) (by decide)) (g := (mkF m 112 #[.val (.int p0), .val (.int p1), .val (.int (p1 &&& (3 : Int32))), .val (.int (1 : Int32)), .val (.double (FP.dneg (FP.ddiv (FP.i2d p0) (4613937818241073152 : UInt64)))), .second, .val (.int (-1 : Int32))] [(.double (FP.dneg (FP.ddiv (FP.i2d p0) (4613937818241073152 : UInt64)))), (.ref b75), (.ref b75)])) rfl (by rw [hml]; rfl) (Steps.refl _) (a := b75) (argsL := [(.double (FP.dneg (FP.ddiv (FP.i2d p0) (4613937818241073152 : UInt64))))]) (rest := [(.ref b75)]) (lenOf pd_1 rfl) rfl (Nat.le_refl _) (dd at_112) (fun _ _ => ⟨rfl, e75, (by decide : 1 + 0 ≤ _), (by decide : 1 + 0 ≤ _)⟩)
            dsimp only [Pt.U, Pt.locs, Pt.cells, Pt.slots, Q_rm1] at X76 l76 y76 z76 st76 hQ76
            subst l76 y76 z76
            obtain ⟨rfl, N76q, K76q, QE76_0, QF76_0⟩ := hQ76
            have N76 := Fr.app N0 N76q
            have f76_Eb75 := Exa.keep A75 K76q
            have SZ76 := Nat.le_trans SZ75 K76q.1
            refine Gz.tr st76 ?_
            obtain ⟨cq77, kq77, q77a, q77b, q77c⟩ := isOf hZ rfl QE76_0
            obtain ⟨_, _, ⟨T77, L77, k77, n77⟩, -, X77, ⟨Lc77, hQ77, l77, y77, z77⟩, st77⟩ := X76.virtualBack hx (y := ym3) (z := ym3) hown (mvT hZ (ww hw 22 rfl)) (mvT hZ (ww hw 23 rfl)) (notFace_of_selects (args := #[]) (mvT hZ (ww hw 25 rfl))) (mvT hZ (ww hw 25 rfl)) (mvT hZ (ww hw 24 rfl)) (by decide) (backOf (W := 0) (rm5 l Z av0 hw [] b75 (FP.dneg (FP.ddiv (FP.i2d p0) (4613937818241073152 : UInt64))) T76.heap n0 SZ76 QF76_0) hZ (ww hw 26 rfl) (ww hw 3 rfl) (by decide) (by decide)) q77a q77c (g := (mkF m 115 #[.val (.int p0), .val (.int p1), .val (.int (p1 &&& (3 : Int32))), .val (.int (1 : Int32)), .val (.double (FP.dneg (FP.ddiv (FP.i2d p0) (4613937818241073152 : UInt64)))), .second, .val (.int (-1 : Int32))] [(.ref b75)])) rfl (by rw [hml]; rfl) (Steps.refl _) (argsL := []) (rest := []) (lenOf pd_2 rfl) rfl (Nat.le_refl _) (dd at_115) (fun _ _ => ⟨rfl, rfl, (by decide : 1 + 0 ≤ _), (by decide : 1 + 0 ≤ _)⟩)
            dsimp only [Pt.U, Pt.locs, Pt.cells, Pt.slots, Q_rm5] at X77 l77 y77 z77 st77 hQ77
            subst l77 y77 z77
            obtain ⟨rfl, N77q, e77⟩ := hQ77
            have N77 := Fr.app N76 N77q
            refine Gz.tr st77 ?_
            refine Gz.iload 120 X77 hx (dd at_118) rfl rfl ?_
            refine Gz.icmpNo 123 X77 hx (dd at_120) (teq (own_n (own_dn (own_k3 p0)) ((by have := own_g1 hc74; omega)) : (fSig b75 (FP.dneg (FP.ddiv (FP.i2d p0) (4613937818241073152 : UInt64)))) = (-1 : Int32))).2 rfl ?_
            refine Gz.iconst 124 (1 : Int32) X77 hx (dd at_123) rfl rfl ?_
            refine Gz.goto 128 X77 hx (dd at_124) (by decide) (by decide) ?_
            refine Gz.fin X77 (v := some (.int (1 : Int32))) (fun h => by rw [hret] at h; cases h) hlk (by decide) (by decide) (fun fs hr => retN X77 hx (t := .boolean) hret (by simp) (dd at_128) hr) ?_
            exact ⟨rfl, N77⟩
          · refine Gz.ifYes 86 X0 hx (dd at_79) ((if0 _ _).trans (flt hc74).2.2.2) (by decide) (by decide) ?_
            refine Gz.iloadN 87 X0 hx (dd at_86) rfl rfl ?_
            by_cases hc78 : p0 < (0 : Int32)
            · refine Gz.ifNo 90 X0 hx (dd at_87) ((if0 _ _).trans (tlt hc78).2.1) rfl ?_
              refine Gz.iconst 91 (-1 : Int32) X0 hx (dd at_90) rfl rfl ?_
              refine Gz.goto 95 X0 hx (dd at_91) (by decide) (by decide) ?_
              refine Gz.istore 97 #[.val (.int p0), .val (.int p1), .val (.int (p1 &&& (3 : Int32))), .val (.int (1 : Int32)), .val (.double (FP.dneg (FP.ddiv (FP.i2d p0) (4613937818241073152 : UInt64)))), .second, .val (.int (-1 : Int32))] X0 hx (dd at_95) rfl rfl ?_
              refine Gz.iloadN 98 X0 hx (dd at_97) rfl rfl ?_
              refine Gz.ifNo 101 X0 hx (dd at_98) ((if0 _ _).trans (feq (by decide : ¬ ((1 : Int32) = (0 : Int32)))).1) rfl ?_
              refine Gz.iload 103 X0 hx (dd at_101) rfl rfl ?_
              refine Gz.inegV 104 (1 : Int32) X0 hx (dd at_103) rfl rfl ?_
              refine Gz.istore 106 #[.val (.int p0), .val (.int p1), .val (.int (p1 &&& (3 : Int32))), .val (.int (1 : Int32)), .val (.double (FP.dneg (FP.ddiv (FP.i2d p0) (4613937818241073152 : UInt64)))), .second, .val (.int (1 : Int32))] X0 hx (dd at_104) rfl rfl ?_
              obtain ⟨T79, h79, X79, e79, E79, A79, D79, -, st79⟩ := newO X0 hx hZ hown (ww hw 1 rfl) (ww hw 2 rfl) (ww hw 3 rfl) e0 (g := (mkF m 106 #[.val (.int p0), .val (.int p1), .val (.int (p1 &&& (3 : Int32))), .val (.int (1 : Int32)), .val (.double (FP.dneg (FP.ddiv (FP.i2d p0) (4613937818241073152 : UInt64)))), .second, .val (.int (1 : Int32))] [])) rfl (dd at_106) (by decide) (by decide)
              obtain ⟨b79, g79⟩ : ∃ z, z = h0.size := ⟨_, rfl⟩
              rw [← g79] at A79 D79 st79
              have g_b79 : n0 ≤ b79 := Nat.le_trans Z0 (Nat.le_of_eq g79.symm)
              have SZ79 : n0 ≤ h79.size := Nat.le_trans Z0 E79.1
              have F_value_b79 : Fld Z h79 b79 "com/example/arhe/arhe/DoubleValue" "value" "D" (.double 0) := D79 (Or.inr (ww hw 21 rfl)) (ty := .double) (by decide)
              refine Gz.st st79 ?_
              refine Gz.dup 110 X79 hx (dd at_109) rfl rfl ?_
              refine Gz.dload 112 X79 hx (dd at_110) rfl rfl ?_
              obtain ⟨_, _, ⟨T80, L80, k80, n80⟩, -, X80, ⟨Lc80, hQ80, l80, y80, z80⟩, st80⟩ := X79.specialBack hx (y := ym2) rfl hown (mvT hZ (ww hw 4 rfl)) (mvT hZ (ww hw 5 rfl)) (mvT hZ (ww hw 6 rfl)) (by decide) (backOf (W := 1) (rm1 l Z av0 hw [] b79 (FP.dneg (FP.ddiv (FP.i2d p0) (4613937818241073152 : UInt64)))  h79 n0 SZ79 A79 F_value_b79 g_b79) hZ (ww hw 6 rfl) (ww hw 3 rfl) (by decide) (by decide)) (g := (mkF m 112 #[.val (.int p0), .val (.int p1), .val (.int (p1 &&& (3 : Int32))), .val (.int (1 : Int32)), .val (.double (FP.dneg (FP.ddiv (FP.i2d p0) (4613937818241073152 : UInt64)))), .second, .val (.int (1 : Int32))] [(.double (FP.dneg (FP.ddiv (FP.i2d p0) (4613937818241073152 : UInt64)))), (.ref b79), (.ref b79)])) rfl (by rw [hml]; rfl) (Steps.refl _) (a := b79) (argsL := [(.double (FP.dneg (FP.ddiv (FP.i2d p0) (4613937818241073152 : UInt64))))]) (rest := [(.ref b79)]) (lenOf pd_1 rfl) rfl (Nat.le_refl _) (dd at_112) (fun _ _ => ⟨rfl, e79, (by decide : 1 + 0 ≤ _), (by decide : 1 + 0 ≤ _)⟩)
              dsimp only [Pt.U, Pt.locs, Pt.cells, Pt.slots, Q_rm1] at X80 l80 y80 z80 st80 hQ80
              subst l80 y80 z80
              obtain ⟨rfl, N80q, K80q, QE80_0, QF80_0⟩ := hQ80
              have N80 := Fr.app N0 N80q
              have f80_Eb79 := Exa.keep A79 K80q
              have SZ80 := Nat.le_trans SZ79 K80q.1
              refine Gz.tr st80 ?_
              obtain ⟨cq81, kq81, q81a, q81b, q81c⟩ := isOf hZ rfl QE80_0
              obtain ⟨_, _, ⟨T81, L81, k81, n81⟩, -, X81, ⟨Lc81, hQ81, l81, y81, z81⟩, st81⟩ := X80.virtualBack hx (y := ym3) (z := ym3) hown (mvT hZ (ww hw 22 rfl)) (mvT hZ (ww hw 23 rfl)) (notFace_of_selects (args := #[]) (mvT hZ (ww hw 25 rfl))) (mvT hZ (ww hw 25 rfl)) (mvT hZ (ww hw 24 rfl)) (by decide) (backOf (W := 0) (rm5 l Z av0 hw [] b79 (FP.dneg (FP.ddiv (FP.i2d p0) (4613937818241073152 : UInt64))) T80.heap n0 SZ80 QF80_0) hZ (ww hw 26 rfl) (ww hw 3 rfl) (by decide) (by decide)) q81a q81c (g := (mkF m 115 #[.val (.int p0), .val (.int p1), .val (.int (p1 &&& (3 : Int32))), .val (.int (1 : Int32)), .val (.double (FP.dneg (FP.ddiv (FP.i2d p0) (4613937818241073152 : UInt64)))), .second, .val (.int (1 : Int32))] [(.ref b79)])) rfl (by rw [hml]; rfl) (Steps.refl _) (argsL := []) (rest := []) (lenOf pd_2 rfl) rfl (Nat.le_refl _) (dd at_115) (fun _ _ => ⟨rfl, rfl, (by decide : 1 + 0 ≤ _), (by decide : 1 + 0 ≤ _)⟩)
              dsimp only [Pt.U, Pt.locs, Pt.cells, Pt.slots, Q_rm5] at X81 l81 y81 z81 st81 hQ81
              subst l81 y81 z81
              obtain ⟨rfl, N81q, e81⟩ := hQ81
              have N81 := Fr.app N80 N81q
              refine Gz.tr st81 ?_
              refine Gz.iload 120 X81 hx (dd at_118) rfl rfl ?_
              refine Gz.icmpNo 123 X81 hx (dd at_120) (teq (own_p (own_dn (own_k3 p0)) ((by have := own_l1 hc78; omega)) : (fSig b79 (FP.dneg (FP.ddiv (FP.i2d p0) (4613937818241073152 : UInt64)))) = (1 : Int32))).2 rfl ?_
              refine Gz.iconst 124 (1 : Int32) X81 hx (dd at_123) rfl rfl ?_
              refine Gz.goto 128 X81 hx (dd at_124) (by decide) (by decide) ?_
              refine Gz.fin X81 (v := some (.int (1 : Int32))) (fun h => by rw [hret] at h; cases h) hlk (by decide) (by decide) (fun fs hr => retN X81 hx (t := .boolean) hret (by simp) (dd at_128) hr) ?_
              exact ⟨rfl, N81⟩
            · refine Gz.ifYes 94 X0 hx (dd at_87) ((if0 _ _).trans (flt hc78).2.1) (by decide) (by decide) ?_
              refine Gz.iconst 95 (0 : Int32) X0 hx (dd at_94) rfl rfl ?_
              refine Gz.istore 97 #[.val (.int p0), .val (.int p1), .val (.int (p1 &&& (3 : Int32))), .val (.int (1 : Int32)), .val (.double (FP.dneg (FP.ddiv (FP.i2d p0) (4613937818241073152 : UInt64)))), .second, .val (.int (0 : Int32))] X0 hx (dd at_95) rfl rfl ?_
              refine Gz.iloadN 98 X0 hx (dd at_97) rfl rfl ?_
              refine Gz.ifNo 101 X0 hx (dd at_98) ((if0 _ _).trans (feq (by decide : ¬ ((1 : Int32) = (0 : Int32)))).1) rfl ?_
              refine Gz.iload 103 X0 hx (dd at_101) rfl rfl ?_
              refine Gz.inegV 104 (0 : Int32) X0 hx (dd at_103) rfl rfl ?_
              refine Gz.istore 106 #[.val (.int p0), .val (.int p1), .val (.int (p1 &&& (3 : Int32))), .val (.int (1 : Int32)), .val (.double (FP.dneg (FP.ddiv (FP.i2d p0) (4613937818241073152 : UInt64)))), .second, .val (.int (0 : Int32))] X0 hx (dd at_104) rfl rfl ?_
              obtain ⟨T82, h82, X82, e82, E82, A82, D82, -, st82⟩ := newO X0 hx hZ hown (ww hw 1 rfl) (ww hw 2 rfl) (ww hw 3 rfl) e0 (g := (mkF m 106 #[.val (.int p0), .val (.int p1), .val (.int (p1 &&& (3 : Int32))), .val (.int (1 : Int32)), .val (.double (FP.dneg (FP.ddiv (FP.i2d p0) (4613937818241073152 : UInt64)))), .second, .val (.int (0 : Int32))] [])) rfl (dd at_106) (by decide) (by decide)
              obtain ⟨b82, g82⟩ : ∃ z, z = h0.size := ⟨_, rfl⟩
              rw [← g82] at A82 D82 st82
              have g_b82 : n0 ≤ b82 := Nat.le_trans Z0 (Nat.le_of_eq g82.symm)
              have SZ82 : n0 ≤ h82.size := Nat.le_trans Z0 E82.1
              have F_value_b82 : Fld Z h82 b82 "com/example/arhe/arhe/DoubleValue" "value" "D" (.double 0) := D82 (Or.inr (ww hw 21 rfl)) (ty := .double) (by decide)
              refine Gz.st st82 ?_
              refine Gz.dup 110 X82 hx (dd at_109) rfl rfl ?_
              refine Gz.dload 112 X82 hx (dd at_110) rfl rfl ?_
              obtain ⟨_, _, ⟨T83, L83, k83, n83⟩, -, X83, ⟨Lc83, hQ83, l83, y83, z83⟩, st83⟩ := X82.specialBack hx (y := ym2) rfl hown (mvT hZ (ww hw 4 rfl)) (mvT hZ (ww hw 5 rfl)) (mvT hZ (ww hw 6 rfl)) (by decide) (backOf (W := 1) (rm1 l Z av0 hw [] b82 (FP.dneg (FP.ddiv (FP.i2d p0) (4613937818241073152 : UInt64)))  h82 n0 SZ82 A82 F_value_b82 g_b82) hZ (ww hw 6 rfl) (ww hw 3 rfl) (by decide) (by decide)) (g := (mkF m 112 #[.val (.int p0), .val (.int p1), .val (.int (p1 &&& (3 : Int32))), .val (.int (1 : Int32)), .val (.double (FP.dneg (FP.ddiv (FP.i2d p0) (4613937818241073152 : UInt64)))), .second, .val (.int (0 : Int32))] [(.double (FP.dneg (FP.ddiv (FP.i2d p0) (4613937818241073152 : UInt64)))), (.ref b82), (.ref b82)])) rfl (by rw [hml]; rfl) (Steps.refl _) (a := b82) (argsL := [(.double (FP.dneg (FP.ddiv (FP.i2d p0) (4613937818241073152 : UInt64))))]) (rest := [(.ref b82)]) (lenOf pd_1 rfl) rfl (Nat.le_refl _) (dd at_112) (fun _ _ => ⟨rfl, e82, (by decide : 1 + 0 ≤ _), (by decide : 1 + 0 ≤ _)⟩)
              dsimp only [Pt.U, Pt.locs, Pt.cells, Pt.slots, Q_rm1] at X83 l83 y83 z83 st83 hQ83
              subst l83 y83 z83
              obtain ⟨rfl, N83q, K83q, QE83_0, QF83_0⟩ := hQ83
              have N83 := Fr.app N0 N83q
              have f83_Eb82 := Exa.keep A82 K83q
              have SZ83 := Nat.le_trans SZ82 K83q.1
              refine Gz.tr st83 ?_
              obtain ⟨cq84, kq84, q84a, q84b, q84c⟩ := isOf hZ rfl QE83_0
              obtain ⟨_, _, ⟨T84, L84, k84, n84⟩, -, X84, ⟨Lc84, hQ84, l84, y84, z84⟩, st84⟩ := X83.virtualBack hx (y := ym3) (z := ym3) hown (mvT hZ (ww hw 22 rfl)) (mvT hZ (ww hw 23 rfl)) (notFace_of_selects (args := #[]) (mvT hZ (ww hw 25 rfl))) (mvT hZ (ww hw 25 rfl)) (mvT hZ (ww hw 24 rfl)) (by decide) (backOf (W := 0) (rm5 l Z av0 hw [] b82 (FP.dneg (FP.ddiv (FP.i2d p0) (4613937818241073152 : UInt64))) T83.heap n0 SZ83 QF83_0) hZ (ww hw 26 rfl) (ww hw 3 rfl) (by decide) (by decide)) q84a q84c (g := (mkF m 115 #[.val (.int p0), .val (.int p1), .val (.int (p1 &&& (3 : Int32))), .val (.int (1 : Int32)), .val (.double (FP.dneg (FP.ddiv (FP.i2d p0) (4613937818241073152 : UInt64)))), .second, .val (.int (0 : Int32))] [(.ref b82)])) rfl (by rw [hml]; rfl) (Steps.refl _) (argsL := []) (rest := []) (lenOf pd_2 rfl) rfl (Nat.le_refl _) (dd at_115) (fun _ _ => ⟨rfl, rfl, (by decide : 1 + 0 ≤ _), (by decide : 1 + 0 ≤ _)⟩)
              dsimp only [Pt.U, Pt.locs, Pt.cells, Pt.slots, Q_rm5] at X84 l84 y84 z84 st84 hQ84
              subst l84 y84 z84
              obtain ⟨rfl, N84q, e84⟩ := hQ84
              have N84 := Fr.app N83 N84q
              refine Gz.tr st84 ?_
              refine Gz.iload 120 X84 hx (dd at_118) rfl rfl ?_
              refine Gz.icmpNo 123 X84 hx (dd at_120) (teq (own_z (own_dn (own_k3 p0)) ((by have := own_z1 hc74 hc78; omega)) : (fSig b82 (FP.dneg (FP.ddiv (FP.i2d p0) (4613937818241073152 : UInt64)))) = (0 : Int32))).2 rfl ?_
              refine Gz.iconst 124 (1 : Int32) X84 hx (dd at_123) rfl rfl ?_
              refine Gz.goto 128 X84 hx (dd at_124) (by decide) (by decide) ?_
              refine Gz.fin X84 (v := some (.int (1 : Int32))) (fun h => by rw [hret] at h; cases h) hlk (by decide) (by decide) (fun fs hr => retN X84 hx (t := .boolean) hret (by simp) (dd at_128) hr) ?_
              exact ⟨rfl, N84⟩
        · refine Gz.icmpYes 69 X0 hx (dd at_58) (feq hc73).2 (by decide) (by decide) ?_
          refine Gz.iloadN 70 X0 hx (dd at_69) rfl rfl ?_
          refine Gz.ifNo 73 X0 hx (dd at_70) ((if0 _ _).trans (feq (by decide : ¬ ((1 : Int32) = (0 : Int32)))).1) rfl ?_
          refine Gz.dload 75 X0 hx (dd at_73) rfl rfl ?_
          refine Gz.dneg 76 X0 hx (dd at_75) rfl ?_
          refine Gz.dstore 78 #[.val (.int p0), .val (.int p1), .val (.int (p1 &&& (3 : Int32))), .val (.int (1 : Int32)), .val (.double (FP.dneg (FP.i2d p0))), .second, .unset] X0 hx (dd at_76) rfl rfl ?_
          refine Gz.iloadN 79 X0 hx (dd at_78) rfl rfl ?_
          by_cases hc85 : (0 : Int32) < p0
          · refine Gz.ifNo 82 X0 hx (dd at_79) ((if0 _ _).trans (tlt hc85).2.2.2) rfl ?_
            refine Gz.iconst 83 (1 : Int32) X0 hx (dd at_82) rfl rfl ?_
            refine Gz.goto 95 X0 hx (dd at_83) (by decide) (by decide) ?_
            refine Gz.istore 97 #[.val (.int p0), .val (.int p1), .val (.int (p1 &&& (3 : Int32))), .val (.int (1 : Int32)), .val (.double (FP.dneg (FP.i2d p0))), .second, .val (.int (1 : Int32))] X0 hx (dd at_95) rfl rfl ?_
            refine Gz.iloadN 98 X0 hx (dd at_97) rfl rfl ?_
            refine Gz.ifNo 101 X0 hx (dd at_98) ((if0 _ _).trans (feq (by decide : ¬ ((1 : Int32) = (0 : Int32)))).1) rfl ?_
            refine Gz.iload 103 X0 hx (dd at_101) rfl rfl ?_
            refine Gz.inegV 104 (-1 : Int32) X0 hx (dd at_103) rfl rfl ?_
            refine Gz.istore 106 #[.val (.int p0), .val (.int p1), .val (.int (p1 &&& (3 : Int32))), .val (.int (1 : Int32)), .val (.double (FP.dneg (FP.i2d p0))), .second, .val (.int (-1 : Int32))] X0 hx (dd at_104) rfl rfl ?_
            obtain ⟨T86, h86, X86, e86, E86, A86, D86, -, st86⟩ := newO X0 hx hZ hown (ww hw 1 rfl) (ww hw 2 rfl) (ww hw 3 rfl) e0 (g := (mkF m 106 #[.val (.int p0), .val (.int p1), .val (.int (p1 &&& (3 : Int32))), .val (.int (1 : Int32)), .val (.double (FP.dneg (FP.i2d p0))), .second, .val (.int (-1 : Int32))] [])) rfl (dd at_106) (by decide) (by decide)
            obtain ⟨b86, g86⟩ : ∃ z, z = h0.size := ⟨_, rfl⟩
            rw [← g86] at A86 D86 st86
            have g_b86 : n0 ≤ b86 := Nat.le_trans Z0 (Nat.le_of_eq g86.symm)
            have SZ86 : n0 ≤ h86.size := Nat.le_trans Z0 E86.1
            have F_value_b86 : Fld Z h86 b86 "com/example/arhe/arhe/DoubleValue" "value" "D" (.double 0) := D86 (Or.inr (ww hw 21 rfl)) (ty := .double) (by decide)
            refine Gz.st st86 ?_
            refine Gz.dup 110 X86 hx (dd at_109) rfl rfl ?_
            refine Gz.dload 112 X86 hx (dd at_110) rfl rfl ?_
            obtain ⟨_, _, ⟨T87, L87, k87, n87⟩, -, X87, ⟨Lc87, hQ87, l87, y87, z87⟩, st87⟩ := X86.specialBack hx (y := ym2) rfl hown (mvT hZ (ww hw 4 rfl)) (mvT hZ (ww hw 5 rfl)) (mvT hZ (ww hw 6 rfl)) (by decide) (backOf (W := 1) (rm1 l Z av0 hw [] b86 (FP.dneg (FP.i2d p0))  h86 n0 SZ86 A86 F_value_b86 g_b86) hZ (ww hw 6 rfl) (ww hw 3 rfl) (by decide) (by decide)) (g := (mkF m 112 #[.val (.int p0), .val (.int p1), .val (.int (p1 &&& (3 : Int32))), .val (.int (1 : Int32)), .val (.double (FP.dneg (FP.i2d p0))), .second, .val (.int (-1 : Int32))] [(.double (FP.dneg (FP.i2d p0))), (.ref b86), (.ref b86)])) rfl (by rw [hml]; rfl) (Steps.refl _) (a := b86) (argsL := [(.double (FP.dneg (FP.i2d p0)))]) (rest := [(.ref b86)]) (lenOf pd_1 rfl) rfl (Nat.le_refl _) (dd at_112) (fun _ _ => ⟨rfl, e86, (by decide : 1 + 0 ≤ _), (by decide : 1 + 0 ≤ _)⟩)
            dsimp only [Pt.U, Pt.locs, Pt.cells, Pt.slots, Q_rm1] at X87 l87 y87 z87 st87 hQ87
            subst l87 y87 z87
            obtain ⟨rfl, N87q, K87q, QE87_0, QF87_0⟩ := hQ87
            have N87 := Fr.app N0 N87q
            have f87_Eb86 := Exa.keep A86 K87q
            have SZ87 := Nat.le_trans SZ86 K87q.1
            refine Gz.tr st87 ?_
            obtain ⟨cq88, kq88, q88a, q88b, q88c⟩ := isOf hZ rfl QE87_0
            obtain ⟨_, _, ⟨T88, L88, k88, n88⟩, -, X88, ⟨Lc88, hQ88, l88, y88, z88⟩, st88⟩ := X87.virtualBack hx (y := ym3) (z := ym3) hown (mvT hZ (ww hw 22 rfl)) (mvT hZ (ww hw 23 rfl)) (notFace_of_selects (args := #[]) (mvT hZ (ww hw 25 rfl))) (mvT hZ (ww hw 25 rfl)) (mvT hZ (ww hw 24 rfl)) (by decide) (backOf (W := 0) (rm5 l Z av0 hw [] b86 (FP.dneg (FP.i2d p0)) T87.heap n0 SZ87 QF87_0) hZ (ww hw 26 rfl) (ww hw 3 rfl) (by decide) (by decide)) q88a q88c (g := (mkF m 115 #[.val (.int p0), .val (.int p1), .val (.int (p1 &&& (3 : Int32))), .val (.int (1 : Int32)), .val (.double (FP.dneg (FP.i2d p0))), .second, .val (.int (-1 : Int32))] [(.ref b86)])) rfl (by rw [hml]; rfl) (Steps.refl _) (argsL := []) (rest := []) (lenOf pd_2 rfl) rfl (Nat.le_refl _) (dd at_115) (fun _ _ => ⟨rfl, rfl, (by decide : 1 + 0 ≤ _), (by decide : 1 + 0 ≤ _)⟩)
            dsimp only [Pt.U, Pt.locs, Pt.cells, Pt.slots, Q_rm5] at X88 l88 y88 z88 st88 hQ88
            subst l88 y88 z88
            obtain ⟨rfl, N88q, e88⟩ := hQ88
            have N88 := Fr.app N87 N88q
            refine Gz.tr st88 ?_
            refine Gz.iload 120 X88 hx (dd at_118) rfl rfl ?_
            refine Gz.icmpNo 123 X88 hx (dd at_120) (teq (own_n (own_dn (own_i2d p0)) ((by have := own_g1 hc85; omega)) : (fSig b86 (FP.dneg (FP.i2d p0))) = (-1 : Int32))).2 rfl ?_
            refine Gz.iconst 124 (1 : Int32) X88 hx (dd at_123) rfl rfl ?_
            refine Gz.goto 128 X88 hx (dd at_124) (by decide) (by decide) ?_
            refine Gz.fin X88 (v := some (.int (1 : Int32))) (fun h => by rw [hret] at h; cases h) hlk (by decide) (by decide) (fun fs hr => retN X88 hx (t := .boolean) hret (by simp) (dd at_128) hr) ?_
            exact ⟨rfl, N88⟩
          · refine Gz.ifYes 86 X0 hx (dd at_79) ((if0 _ _).trans (flt hc85).2.2.2) (by decide) (by decide) ?_
            refine Gz.iloadN 87 X0 hx (dd at_86) rfl rfl ?_
            by_cases hc89 : p0 < (0 : Int32)
            · refine Gz.ifNo 90 X0 hx (dd at_87) ((if0 _ _).trans (tlt hc89).2.1) rfl ?_
              refine Gz.iconst 91 (-1 : Int32) X0 hx (dd at_90) rfl rfl ?_
              refine Gz.goto 95 X0 hx (dd at_91) (by decide) (by decide) ?_
              refine Gz.istore 97 #[.val (.int p0), .val (.int p1), .val (.int (p1 &&& (3 : Int32))), .val (.int (1 : Int32)), .val (.double (FP.dneg (FP.i2d p0))), .second, .val (.int (-1 : Int32))] X0 hx (dd at_95) rfl rfl ?_
              refine Gz.iloadN 98 X0 hx (dd at_97) rfl rfl ?_
              refine Gz.ifNo 101 X0 hx (dd at_98) ((if0 _ _).trans (feq (by decide : ¬ ((1 : Int32) = (0 : Int32)))).1) rfl ?_
              refine Gz.iload 103 X0 hx (dd at_101) rfl rfl ?_
              refine Gz.inegV 104 (1 : Int32) X0 hx (dd at_103) rfl rfl ?_
              refine Gz.istore 106 #[.val (.int p0), .val (.int p1), .val (.int (p1 &&& (3 : Int32))), .val (.int (1 : Int32)), .val (.double (FP.dneg (FP.i2d p0))), .second, .val (.int (1 : Int32))] X0 hx (dd at_104) rfl rfl ?_
              obtain ⟨T90, h90, X90, e90, E90, A90, D90, -, st90⟩ := newO X0 hx hZ hown (ww hw 1 rfl) (ww hw 2 rfl) (ww hw 3 rfl) e0 (g := (mkF m 106 #[.val (.int p0), .val (.int p1), .val (.int (p1 &&& (3 : Int32))), .val (.int (1 : Int32)), .val (.double (FP.dneg (FP.i2d p0))), .second, .val (.int (1 : Int32))] [])) rfl (dd at_106) (by decide) (by decide)
              obtain ⟨b90, g90⟩ : ∃ z, z = h0.size := ⟨_, rfl⟩
              rw [← g90] at A90 D90 st90
              have g_b90 : n0 ≤ b90 := Nat.le_trans Z0 (Nat.le_of_eq g90.symm)
              have SZ90 : n0 ≤ h90.size := Nat.le_trans Z0 E90.1
              have F_value_b90 : Fld Z h90 b90 "com/example/arhe/arhe/DoubleValue" "value" "D" (.double 0) := D90 (Or.inr (ww hw 21 rfl)) (ty := .double) (by decide)
              refine Gz.st st90 ?_
              refine Gz.dup 110 X90 hx (dd at_109) rfl rfl ?_
              refine Gz.dload 112 X90 hx (dd at_110) rfl rfl ?_
              obtain ⟨_, _, ⟨T91, L91, k91, n91⟩, -, X91, ⟨Lc91, hQ91, l91, y91, z91⟩, st91⟩ := X90.specialBack hx (y := ym2) rfl hown (mvT hZ (ww hw 4 rfl)) (mvT hZ (ww hw 5 rfl)) (mvT hZ (ww hw 6 rfl)) (by decide) (backOf (W := 1) (rm1 l Z av0 hw [] b90 (FP.dneg (FP.i2d p0))  h90 n0 SZ90 A90 F_value_b90 g_b90) hZ (ww hw 6 rfl) (ww hw 3 rfl) (by decide) (by decide)) (g := (mkF m 112 #[.val (.int p0), .val (.int p1), .val (.int (p1 &&& (3 : Int32))), .val (.int (1 : Int32)), .val (.double (FP.dneg (FP.i2d p0))), .second, .val (.int (1 : Int32))] [(.double (FP.dneg (FP.i2d p0))), (.ref b90), (.ref b90)])) rfl (by rw [hml]; rfl) (Steps.refl _) (a := b90) (argsL := [(.double (FP.dneg (FP.i2d p0)))]) (rest := [(.ref b90)]) (lenOf pd_1 rfl) rfl (Nat.le_refl _) (dd at_112) (fun _ _ => ⟨rfl, e90, (by decide : 1 + 0 ≤ _), (by decide : 1 + 0 ≤ _)⟩)
              dsimp only [Pt.U, Pt.locs, Pt.cells, Pt.slots, Q_rm1] at X91 l91 y91 z91 st91 hQ91
              subst l91 y91 z91
              obtain ⟨rfl, N91q, K91q, QE91_0, QF91_0⟩ := hQ91
              have N91 := Fr.app N0 N91q
              have f91_Eb90 := Exa.keep A90 K91q
              have SZ91 := Nat.le_trans SZ90 K91q.1
              refine Gz.tr st91 ?_
              obtain ⟨cq92, kq92, q92a, q92b, q92c⟩ := isOf hZ rfl QE91_0
              obtain ⟨_, _, ⟨T92, L92, k92, n92⟩, -, X92, ⟨Lc92, hQ92, l92, y92, z92⟩, st92⟩ := X91.virtualBack hx (y := ym3) (z := ym3) hown (mvT hZ (ww hw 22 rfl)) (mvT hZ (ww hw 23 rfl)) (notFace_of_selects (args := #[]) (mvT hZ (ww hw 25 rfl))) (mvT hZ (ww hw 25 rfl)) (mvT hZ (ww hw 24 rfl)) (by decide) (backOf (W := 0) (rm5 l Z av0 hw [] b90 (FP.dneg (FP.i2d p0)) T91.heap n0 SZ91 QF91_0) hZ (ww hw 26 rfl) (ww hw 3 rfl) (by decide) (by decide)) q92a q92c (g := (mkF m 115 #[.val (.int p0), .val (.int p1), .val (.int (p1 &&& (3 : Int32))), .val (.int (1 : Int32)), .val (.double (FP.dneg (FP.i2d p0))), .second, .val (.int (1 : Int32))] [(.ref b90)])) rfl (by rw [hml]; rfl) (Steps.refl _) (argsL := []) (rest := []) (lenOf pd_2 rfl) rfl (Nat.le_refl _) (dd at_115) (fun _ _ => ⟨rfl, rfl, (by decide : 1 + 0 ≤ _), (by decide : 1 + 0 ≤ _)⟩)
              dsimp only [Pt.U, Pt.locs, Pt.cells, Pt.slots, Q_rm5] at X92 l92 y92 z92 st92 hQ92
              subst l92 y92 z92
              obtain ⟨rfl, N92q, e92⟩ := hQ92
              have N92 := Fr.app N91 N92q
              refine Gz.tr st92 ?_
              refine Gz.iload 120 X92 hx (dd at_118) rfl rfl ?_
              refine Gz.icmpNo 123 X92 hx (dd at_120) (teq (own_p (own_dn (own_i2d p0)) ((by have := own_l1 hc89; omega)) : (fSig b90 (FP.dneg (FP.i2d p0))) = (1 : Int32))).2 rfl ?_
              refine Gz.iconst 124 (1 : Int32) X92 hx (dd at_123) rfl rfl ?_
              refine Gz.goto 128 X92 hx (dd at_124) (by decide) (by decide) ?_
              refine Gz.fin X92 (v := some (.int (1 : Int32))) (fun h => by rw [hret] at h; cases h) hlk (by decide) (by decide) (fun fs hr => retN X92 hx (t := .boolean) hret (by simp) (dd at_128) hr) ?_
              exact ⟨rfl, N92⟩
            · refine Gz.ifYes 94 X0 hx (dd at_87) ((if0 _ _).trans (flt hc89).2.1) (by decide) (by decide) ?_
              refine Gz.iconst 95 (0 : Int32) X0 hx (dd at_94) rfl rfl ?_
              refine Gz.istore 97 #[.val (.int p0), .val (.int p1), .val (.int (p1 &&& (3 : Int32))), .val (.int (1 : Int32)), .val (.double (FP.dneg (FP.i2d p0))), .second, .val (.int (0 : Int32))] X0 hx (dd at_95) rfl rfl ?_
              refine Gz.iloadN 98 X0 hx (dd at_97) rfl rfl ?_
              refine Gz.ifNo 101 X0 hx (dd at_98) ((if0 _ _).trans (feq (by decide : ¬ ((1 : Int32) = (0 : Int32)))).1) rfl ?_
              refine Gz.iload 103 X0 hx (dd at_101) rfl rfl ?_
              refine Gz.inegV 104 (0 : Int32) X0 hx (dd at_103) rfl rfl ?_
              refine Gz.istore 106 #[.val (.int p0), .val (.int p1), .val (.int (p1 &&& (3 : Int32))), .val (.int (1 : Int32)), .val (.double (FP.dneg (FP.i2d p0))), .second, .val (.int (0 : Int32))] X0 hx (dd at_104) rfl rfl ?_
              obtain ⟨T93, h93, X93, e93, E93, A93, D93, -, st93⟩ := newO X0 hx hZ hown (ww hw 1 rfl) (ww hw 2 rfl) (ww hw 3 rfl) e0 (g := (mkF m 106 #[.val (.int p0), .val (.int p1), .val (.int (p1 &&& (3 : Int32))), .val (.int (1 : Int32)), .val (.double (FP.dneg (FP.i2d p0))), .second, .val (.int (0 : Int32))] [])) rfl (dd at_106) (by decide) (by decide)
              obtain ⟨b93, g93⟩ : ∃ z, z = h0.size := ⟨_, rfl⟩
              rw [← g93] at A93 D93 st93
              have g_b93 : n0 ≤ b93 := Nat.le_trans Z0 (Nat.le_of_eq g93.symm)
              have SZ93 : n0 ≤ h93.size := Nat.le_trans Z0 E93.1
              have F_value_b93 : Fld Z h93 b93 "com/example/arhe/arhe/DoubleValue" "value" "D" (.double 0) := D93 (Or.inr (ww hw 21 rfl)) (ty := .double) (by decide)
              refine Gz.st st93 ?_
              refine Gz.dup 110 X93 hx (dd at_109) rfl rfl ?_
              refine Gz.dload 112 X93 hx (dd at_110) rfl rfl ?_
              obtain ⟨_, _, ⟨T94, L94, k94, n94⟩, -, X94, ⟨Lc94, hQ94, l94, y94, z94⟩, st94⟩ := X93.specialBack hx (y := ym2) rfl hown (mvT hZ (ww hw 4 rfl)) (mvT hZ (ww hw 5 rfl)) (mvT hZ (ww hw 6 rfl)) (by decide) (backOf (W := 1) (rm1 l Z av0 hw [] b93 (FP.dneg (FP.i2d p0))  h93 n0 SZ93 A93 F_value_b93 g_b93) hZ (ww hw 6 rfl) (ww hw 3 rfl) (by decide) (by decide)) (g := (mkF m 112 #[.val (.int p0), .val (.int p1), .val (.int (p1 &&& (3 : Int32))), .val (.int (1 : Int32)), .val (.double (FP.dneg (FP.i2d p0))), .second, .val (.int (0 : Int32))] [(.double (FP.dneg (FP.i2d p0))), (.ref b93), (.ref b93)])) rfl (by rw [hml]; rfl) (Steps.refl _) (a := b93) (argsL := [(.double (FP.dneg (FP.i2d p0)))]) (rest := [(.ref b93)]) (lenOf pd_1 rfl) rfl (Nat.le_refl _) (dd at_112) (fun _ _ => ⟨rfl, e93, (by decide : 1 + 0 ≤ _), (by decide : 1 + 0 ≤ _)⟩)
              dsimp only [Pt.U, Pt.locs, Pt.cells, Pt.slots, Q_rm1] at X94 l94 y94 z94 st94 hQ94
              subst l94 y94 z94
              obtain ⟨rfl, N94q, K94q, QE94_0, QF94_0⟩ := hQ94
              have N94 := Fr.app N0 N94q
              have f94_Eb93 := Exa.keep A93 K94q
              have SZ94 := Nat.le_trans SZ93 K94q.1
              refine Gz.tr st94 ?_
              obtain ⟨cq95, kq95, q95a, q95b, q95c⟩ := isOf hZ rfl QE94_0
              obtain ⟨_, _, ⟨T95, L95, k95, n95⟩, -, X95, ⟨Lc95, hQ95, l95, y95, z95⟩, st95⟩ := X94.virtualBack hx (y := ym3) (z := ym3) hown (mvT hZ (ww hw 22 rfl)) (mvT hZ (ww hw 23 rfl)) (notFace_of_selects (args := #[]) (mvT hZ (ww hw 25 rfl))) (mvT hZ (ww hw 25 rfl)) (mvT hZ (ww hw 24 rfl)) (by decide) (backOf (W := 0) (rm5 l Z av0 hw [] b93 (FP.dneg (FP.i2d p0)) T94.heap n0 SZ94 QF94_0) hZ (ww hw 26 rfl) (ww hw 3 rfl) (by decide) (by decide)) q95a q95c (g := (mkF m 115 #[.val (.int p0), .val (.int p1), .val (.int (p1 &&& (3 : Int32))), .val (.int (1 : Int32)), .val (.double (FP.dneg (FP.i2d p0))), .second, .val (.int (0 : Int32))] [(.ref b93)])) rfl (by rw [hml]; rfl) (Steps.refl _) (argsL := []) (rest := []) (lenOf pd_2 rfl) rfl (Nat.le_refl _) (dd at_115) (fun _ _ => ⟨rfl, rfl, (by decide : 1 + 0 ≤ _), (by decide : 1 + 0 ≤ _)⟩)
              dsimp only [Pt.U, Pt.locs, Pt.cells, Pt.slots, Q_rm5] at X95 l95 y95 z95 st95 hQ95
              subst l95 y95 z95
              obtain ⟨rfl, N95q, e95⟩ := hQ95
              have N95 := Fr.app N94 N95q
              refine Gz.tr st95 ?_
              refine Gz.iload 120 X95 hx (dd at_118) rfl rfl ?_
              refine Gz.icmpNo 123 X95 hx (dd at_120) (teq (own_z (own_dn (own_i2d p0)) ((by have := own_z1 hc85 hc89; omega)) : (fSig b93 (FP.dneg (FP.i2d p0))) = (0 : Int32))).2 rfl ?_
              refine Gz.iconst 124 (1 : Int32) X95 hx (dd at_123) rfl rfl ?_
              refine Gz.goto 128 X95 hx (dd at_124) (by decide) (by decide) ?_
              refine Gz.fin X95 (v := some (.int (1 : Int32))) (fun h => by rw [hret] at h; cases h) hlk (by decide) (by decide) (fun fs hr => retN X95 hx (t := .boolean) hret (by simp) (dd at_128) hr) ?_
              exact ⟨rfl, N95⟩
set_option maxRecDepth 65536 in
set_option maxHeartbeats 40000000 in
theorem comes_1 {Post : Tables → Env → Array Value → State → Outcome → State → Prop} (hpost : ∀ tb e args s v u, (limb_1_1.after args s (.returned v) u = true ∧ limb_1_2.after args s (.returned v) u = true ∧ True) → FrameEnd s (.returned v) u (Jvm.fieldLocs frame_1_writes args s ++ Jvm.arrayLocs frame_1_arrays args s ++ Jvm.staticLocs frame_1_statics s) 16 128 → Post tb e args s (.returned v) u) :
    ArmFor flags0 classFile x code maxLocals ret World_1 tables_1 room_1 Calls_1 rest_1 Pre_1 Post := by
  intro l hfl _ _ p e ha hc hk s m args below hf hA hF happ hP
  obtain ⟨hcalls, hrest, hpre⟩ := hP
  obtain ⟨-, -, -, hnamed, -, -, -, hat⟩ := (Spec.applies_iff hf).mp happ
  obtain ⟨hg, hn⟩ := and_e (Cond.before_iff.mp (show (Jvm.Cond.and given_1 narrow_1).before args s = true from hpre))
  obtain ⟨hcnt, hg0⟩ := and_e hg
  obtain ⟨ha0, hg1⟩ := and_e hg0
  have ha1 := hg1
  obtain ⟨w0, w1, rfl⟩ : ∃ w0 w1 : Value, args = #[w0, w1] := by
    have hs : args.size = 2 := by simpa [Cond.value, given_1] using hcnt
    obtain ⟨L⟩ := args
    match L, hs with
    | [w0, w1], _ => exact ⟨w0, w1, rfl⟩
  have hw := fun d (hd : d ∈ tables_1) => atoms_spec (ws := Jvm.Cond.code x code maxLocals ret :: tables_1) hat d (List.mem_cons_of_mem _ hd)
  have hfit : Fit s := fun {y c} hc i hi => by
    obtain ⟨ha, rfl⟩ := Array.getElem?_eq_some_iff.mp hc
    have q := List.all_eq_true.mp ((Array.all_eq_true_iff_forall_mem.mp hF) _ (Array.getElem_mem ha)) i (List.mem_range.mpr hi)
    simpa [Array.getElem?_eq_getElem hi] using q
  obtain ⟨i0, ei0⟩ := is_v ha0
  obtain rfl : w0 = (.int i0) := Option.some.inj ei0
  obtain ⟨i1, ei1⟩ := is_v ha1
  obtain rfl : w1 = (.int i1) := Option.some.inj ei1
  obtain ⟨n, o, h1, h2, h3, _, L, rfl, ⟨rfl, N⟩, hq⟩ := rm0 l s _ hw tables_1 i0 i1  s.heap s.heap.size (Nat.le_refl _)  p e ha hc hk s m _ below hf ((Spec.applies_iff_loose hf).mp happ).1 ⟨rfl, State.Warmed39.refl s, rfl⟩ trivial
  refine ⟨n, _, h1, h2, h3, hpost _ _ _ _ _ _ ⟨Cond.after_iff.mpr rfl, Cond.after_iff.mpr (eq_i res_at (Term.int_eval (1)) rfl), trivial⟩ ⟨hq.1, hq.2.1, (hq.2.2.sift fun y hy => Or.inr (N y hy)).mono (by decide) (by decide)⟩⟩
theorem main_1_1 : Claimed_1_1 := comes_1 fun _ _ _ _ _ _ h hF => ⟨h.1, hF⟩
theorem main_1_2 : Claimed_1_2 := comes_1 fun _ _ _ _ _ _ h hF => ⟨h.2.1, hF⟩
end Jvm.Pilot.@@N@@
namespace Jvm.Pilot.@@N@@
open Jvm Jvm.ClassFile Sem Op Lib Jvm.Free Jvm.Stand Jvm.Pilot.@@N@@.Jvm.D
/-! MADE BY PROGRAM (witnessworld.py) out of the Statement's table words and the real class files: 12 classes; the members and pool entries that the words name. The judged class is class 1, her method 1. -/
namespace start1
open Jvm.ClassFile
def u (s : String) : CpInfo := .utf8 (stringToUtf16 s)
/-- a pool by its gaps: so many unusable entries, then the entry; so many at the end -/
def gap : Nat → List CpInfo → List CpInfo
  | 0, r => r
  | n + 1, r => .unusable :: gap n r
def poolList (es : List (Nat × CpInfo)) (last : Nat) : List CpInfo := es.foldr (fun e r => gap e.1 (e.2 :: r)) (gap last [])
def pool (es : List (Nat × CpInfo)) (last : Nat) : Array CpInfo := ⟨poolList es last⟩
def fileOf (pool : Array CpInfo) (this : Nat) (attrs : Array Attribute := #[]) (ms : Array MethodInfo := #[]) (fl : Nat := 33) (sup : Nat := 0) (ifs : Array Nat := #[]) (fds : Array FieldInfo := #[]) : ClassFile where
  minorVersion := 0
  majorVersion := 65
  constantPool := pool
  accessFlags := fl
  thisClass := this
  superClass := sup
  interfaces := ifs
  fields := fds
  methods := ms
  attributes := attrs
def plain (name : String) (sup : Option ClassId) : Class where
  name := name
  kind := .ordinary
  loader := none
  accessFlags := 33
  super := sup
  interfaces := #[]
  cf := none
  fields := #[]
  methods := #[]
  instanceTypes := #[]
  staticTypes := #[]
  resolved := #[]
  callSites := []
  init := .initialized
  statics := none
  mirror := none

def pool0 : Array CpInfo := pool [(5, u "<init>"), (0, u "()V"), (1, .class_ 10), (1, u "java/lang/Object")] 113

def k0c0 : Code := { maxStack := 0, maxLocals := 1, code := object_method_1_code, exceptionTable := #[], attributes := #[] }
def k0m0 : Method := { name := "<init>", desc := "()V", sig := { parameters := [], returnType := none }, accessFlags := 1, code := some k0c0 }
/-- java/lang/Object -/
def k0 : Class := { plain "java/lang/Object" none with
  accessFlags := 33
  interfaces := #[]
  cf := some (fileOf pool0 8 #[] #[{ accessFlags := 1, nameIndex := 5, descriptorIndex := 6, attributes := #[] }] 33 0 #[] #[])
  fields := #[]
  methods := #[k0m0]
  instanceTypes := #[]
  staticTypes := #[]
  resolved := Array.replicate 124 none
  statics := none }

def pool1 : Array CpInfo := pool [(2, .class_ 4), (1, u "java/lang/Object"), (0, u "<init>"), (0, u "()V"), (0, .double 9094988921128908188), (1, .double 1), (1, .double 4613937818241073152), (1, .class_ 14), (0, u "com/example/arhe/arhe/DoubleValue"), (0, .methodref 13 16), (0, .nameAndType 5 17), (0, u "(D)V"), (0, .methodref 13 19), (0, .nameAndType 20 21), (0, u "signum"), (0, u "()I"), (0, .class_ 23), (0, u "com/example/arhe/arhe/DoubleValueSignumPinLaw"), (2, u "law"), (0, u "(II)Z")] 3

def k1m0 : Method := { name := "<init>", desc := "()V", sig := { parameters := [], returnType := none }, accessFlags := 2, code := none }
def k1c1 : Code := { maxStack := 4, maxLocals := 7, code := code, exceptionTable := #[], attributes := #[] }
def k1m1 : Method := { name := "law", desc := "(II)Z", sig := { parameters := [.int, .int], returnType := some .boolean }, accessFlags := 9, code := some k1c1 }
/-- com/example/arhe/arhe/DoubleValueSignumPinLaw -/
def k1 : Class := { plain "com/example/arhe/arhe/DoubleValueSignumPinLaw" (some 0) with
  accessFlags := 49
  interfaces := #[]
  cf := some (fileOf pool1 22 #[] #[{ accessFlags := 2, nameIndex := 5, descriptorIndex := 6, attributes := #[] }, { accessFlags := 9, nameIndex := 26, descriptorIndex := 27, attributes := #[] }] 49 2 #[] #[])
  fields := #[]
  methods := #[k1m0, k1m1]
  instanceTypes := #[]
  staticTypes := #[]
  resolved := Array.replicate 31 none
  statics := none }

def pool2 : Array CpInfo := pool [(9, .class_ 10), (0, u "com/example/arhe/arhe/Item"), (76, .class_ 89), (1, u "java/lang/Object")] 63

/-- com/example/arhe/arhe/Item -/
def k2 : Class := { plain "com/example/arhe/arhe/Item" (some 0) with
  accessFlags := 1537
  interfaces := #[]
  cf := some (fileOf pool2 9 #[] #[] 1537 87 #[] #[])
  fields := #[]
  methods := #[]
  instanceTypes := #[]
  staticTypes := #[]
  resolved := Array.replicate 153 none
  statics := none }

def pool3 : Array CpInfo := pool [(1, .methodref 2 3), (0, .class_ 4), (0, .nameAndType 5 6), (0, u "java/lang/Object"), (0, u "<init>"), (0, u "()V"), (0, .class_ 8), (0, u "com/example/arhe/arhe/AtomicValue"), (0, .class_ 10), (0, u "com/example/arhe/arhe/Item")] 6

def k3c0 : Code := { maxStack := 1, maxLocals := 1, code := prog_16_method_1_code, exceptionTable := #[], attributes := #[] }
def k3m0 : Method := { name := "<init>", desc := "()V", sig := { parameters := [], returnType := none }, accessFlags := 0, code := some k3c0 }
/-- com/example/arhe/arhe/AtomicValue -/
def k3 : Class := { plain "com/example/arhe/arhe/AtomicValue" (some 0) with
  accessFlags := 1056
  interfaces := #[2]
  cf := some (fileOf pool3 7 #[] #[{ accessFlags := 0, nameIndex := 5, descriptorIndex := 6, attributes := #[] }] 1056 2 #[9] #[])
  fields := #[]
  methods := #[k3m0]
  instanceTypes := #[]
  staticTypes := #[]
  resolved := Array.replicate 17 none
  statics := none }

def pool4 : Array CpInfo := pool [(1, .methodref 2 3), (0, .class_ 4), (0, .nameAndType 5 6), (0, u "com/example/arhe/arhe/AtomicValue"), (0, u "<init>"), (0, u "()V"), (1, .class_ 10), (1, u "com/example/arhe/arhe/NumericValue"), (3, .class_ 16), (1, u "com/example/arhe/arhe/NumericValue$BasicType"), (110, u "MOST_DIGITS"), (0, u "I")] 27

def k4c0 : Code := { maxStack := 1, maxLocals := 1, code := prog_101_method_1_code, exceptionTable := #[], attributes := #[] }
def k4m0 : Method := { name := "<init>", desc := "()V", sig := { parameters := [], returnType := none }, accessFlags := 0, code := some k4c0 }
/-- com/example/arhe/arhe/NumericValue -/
def k4 : Class := { plain "com/example/arhe/arhe/NumericValue" (some 3) with
  accessFlags := 1056
  interfaces := #[]
  cf := some (fileOf pool4 8 #[.nestMembers #[14]] #[{ accessFlags := 0, nameIndex := 5, descriptorIndex := 6, attributes := #[] }] 1056 2 #[] #[{ accessFlags := 24, nameIndex := 127, descriptorIndex := 128, attributes := #[] }])
  fields := #[{ name := "MOST_DIGITS", type := .int, accessFlags := 24, slot := 0, constantValue := 0 }]
  methods := #[k4m0]
  instanceTypes := #[]
  staticTypes := #[.int]
  resolved := Array.replicate 156 none
  statics := none }

def pool5 : Array CpInfo := pool [(1, .methodref 2 3), (0, .class_ 4), (0, .nameAndType 5 6), (0, u "com/example/arhe/arhe/NumericValue"), (0, u "<init>"), (0, u "()V"), (0, .fieldref 8 9), (0, .class_ 10), (0, .nameAndType 11 12), (0, u "com/example/arhe/arhe/DoubleValue"), (0, u "value"), (0, u "D"), (16, u "(D)V"), (47, u "signum"), (0, u "()I")] 7

def k5c0 : Code := { maxStack := 3, maxLocals := 3, code := prog_53_method_1_code, exceptionTable := #[], attributes := #[] }
def k5m0 : Method := { name := "<init>", desc := "(D)V", sig := { parameters := [.double], returnType := none }, accessFlags := 0, code := some k5c0 }
def k5c1 : Code := { maxStack := 4, maxLocals := 1, code := prog_53_method_13_code, exceptionTable := #[], attributes := #[] }
def k5m1 : Method := { name := "signum", desc := "()I", sig := { parameters := [], returnType := some .int }, accessFlags := 0, code := some k5c1 }
/-- com/example/arhe/arhe/DoubleValue -/
def k5 : Class := { plain "com/example/arhe/arhe/DoubleValue" (some 4) with
  accessFlags := 48
  interfaces := #[]
  cf := some (fileOf pool5 8 #[] #[{ accessFlags := 0, nameIndex := 5, descriptorIndex := 29, attributes := #[] }, { accessFlags := 0, nameIndex := 77, descriptorIndex := 78, attributes := #[] }] 48 2 #[] #[{ accessFlags := 18, nameIndex := 11, descriptorIndex := 12, attributes := #[] }])
  fields := #[{ name := "value", type := .double, accessFlags := 18, slot := 0, constantValue := 0 }]
  methods := #[k5m0, k5m1]
  instanceTypes := #[.double]
  staticTypes := #[]
  resolved := Array.replicate 86 none
  statics := none }

def pool6 : Array CpInfo := pool [(1, u "java/lang/Cloneable"), (0, .class_ 1), (0, u "java/lang/Object"), (0, .class_ 3)] 3

/-- java/lang/Cloneable -/
def k6 : Class := { plain "java/lang/Cloneable" (some 0) with
  accessFlags := 1537
  interfaces := #[]
  cf := some (fileOf pool6 2 #[] #[] 1537 4 #[] #[])
  fields := #[]
  methods := #[]
  instanceTypes := #[]
  staticTypes := #[]
  resolved := Array.replicate 8 none
  statics := none }

def pool7 : Array CpInfo := pool [(1, u "java/io/Serializable"), (0, .class_ 1), (0, u "java/lang/Object"), (0, .class_ 3)] 3

/-- java/io/Serializable -/
def k7 : Class := { plain "java/io/Serializable" (some 0) with
  accessFlags := 1537
  interfaces := #[]
  cf := some (fileOf pool7 2 #[] #[] 1537 4 #[] #[])
  fields := #[]
  methods := #[]
  instanceTypes := #[]
  staticTypes := #[]
  resolved := Array.replicate 8 none
  statics := none }

/-- the primitive byte -/
def k8 : Class := { plain "byte" none with kind := .primitive 'B', accessFlags := 0x411 }
/-- [B -/
def k9 : Class := { plain "[B" (some 0) with kind := .array 8 .byte, interfaces := #[6, 7], accessFlags := 1041 }

/-- the primitive int -/
def k10 : Class := { plain "int" none with kind := .primitive 'I', accessFlags := 0x411 }
/-- [I -/
def k11 : Class := { plain "[I" (some 0) with kind := .array 10 .int, interfaces := #[6, 7], accessFlags := 1041 }

def heap : Heap := #[]
def classes : Array Class := #[k0, k1, k2, k3, k4, k5, k6, k7, k8, k9, k10, k11]
def interned : List (Array UInt16 × Addr) := []
def slotsUsed : Nat := 0
def theMethod : MethodId := ⟨1, 1⟩
def args0 : Array Value := #[.int 5, .int 1]
def aboutOver (below : List Frame) : State where
  vm := { classes := classes, interned := interned.toArray }
  heap := heap
  slotsUsed := slotsUsed
  threads := #[{ frames := .invoking theMethod args0 :: below }]
def below0 : List Frame := [.native { method := ⟨0, 0⟩, args := #[] }]
def about1 : State := aboutOver below0
def p0 : Program := .bare "" "" ""
def e0 : Env := launch0.env 0 0 0
theorem w_frames : about1.frames = Frame.invoking theMethod args0 :: below0 := rfl
set_option maxRecDepth 65536 in
theorem w_args : argsFit about1.vm theMethod args0 = true := by decide +kernel
set_option maxRecDepth 65536 in
theorem w_heap : heapFits about1 = true := by decide +kernel
set_option maxRecDepth 65536 in
theorem w_runnable : about1.curStatus? = some .runnable := by decide +kernel
set_option maxRecDepth 65536 in
theorem w_alone : about1.alone = true := by decide +kernel
set_option maxRecDepth 65536 in
theorem w_named : about1.methodNamed? x = some theMethod := by decide +kernel
set_option maxRecDepth 65536 in
theorem w_hears : about1.hears theMethod below0 = true := by decide +kernel
set_option maxRecDepth 65536 in
theorem w_ripe : about1.ripe theMethod args0 below0 = true := by decide +kernel
theorem w_running : about1.status = .running := rfl
set_option maxRecDepth 65536 in
theorem w_room : about1.hasRoom e0.platform room_1 = true :=
  launch0.hasRoom_least _ room_1 (by decide +kernel) (by decide +kernel) (by decide +kernel) (by decide +kernel) (by decide +kernel) (by decide +kernel)
theorem allAtoms_all (ts : List Jvm.Cond) (a : Array Jvm.Value) (st : Jvm.State) : (allAtoms ts).before a st = ts.all (fun c => c.before a st) := by
  induction ts with
  | nil => rfl
  | cons c t ih =>
    show (Jvm.Cond.and c (allAtoms t)).before a st = _
    rw [Jvm.Cond.before_and, ih, List.all_cons]
def words1 : List Jvm.Cond := Jvm.Cond.code x code maxLocals ret :: tables_1
/-- a 'code' word, met by the world's own term for the bytes: nothing is compared byte by byte -/
theorem code_word {y : MethodName} {bytes : ByteArray} {mx : Nat} {rt : Option FieldType} {a : Array Value} {s : State} {m : MethodId} {meth : Method} {c : Code} (h1 : s.methodNamed? y = some m) (h2 : s.vm.method? m = some meth) (h3 : meth.code = some c) (h4 : c.code = bytes)
    (h5 : (c.maxLocals == mx && c.exceptionTable.isEmpty && decide (c.maxStack ≤ mostOperands) && decide (meth.sig.returnType = rt) && !meth.locks && decide (parseMethodDescriptor y.desc = some meth.sig)) = true) : (Jvm.Cond.code y bytes mx rt).before a s = true := by
  simp only [Bool.and_eq_true, beq_iff_eq, Bool.not_eq_true', decide_eq_true_eq] at h5
  obtain ⟨⟨⟨⟨⟨g1, g2⟩, g3⟩, g4⟩, g5⟩, g6⟩ := h5
  simp [Cond.before, Cond.holds, Cond.value, h1, h2, h3, h4, g1, g2, g3, g4, g5, g6]
def isCode : Jvm.Cond → Bool
  | .code _ _ _ _ => true
  | _ => false
theorem all_split {L : List Jvm.Cond} {P : Jvm.Cond → Bool} (h1 : L.all (fun c => isCode c || P c) = true) (h2 : ∀ c ∈ L.filter isCode, P c = true) : L.all P = true := by
  refine List.all_eq_true.mpr fun c hc => ?_
  have h := List.all_eq_true.mp h1 c hc
  rcases Bool.eq_false_or_eq_true (isCode c) with hi | hi
  · exact h2 c (List.mem_filter.mpr ⟨hc, hi⟩)
  · simpa [hi] using h
set_option maxRecDepth 65536 in
theorem w_c0 : (Jvm.Cond.code x code maxLocals ret).before args0 about1 = true := code_word (m := ⟨1, 1⟩) (meth := k1m1) (c := k1c1) (by decide +kernel) rfl rfl rfl (by decide +kernel)
set_option maxRecDepth 65536 in
theorem w_c1 : (Jvm.Cond.code ({ cls := "com/example/arhe/arhe/DoubleValue", name := "<init>", desc := "(D)V" } : Jvm.MethodName) prog_53_method_1_code (3 : Nat) (Option.none : Option Jvm.ClassFile.FieldType)).before args0 about1 = true := code_word (m := ⟨5, 0⟩) (meth := k5m0) (c := k5c0) (by decide +kernel) rfl rfl rfl (by decide +kernel)
set_option maxRecDepth 65536 in
theorem w_c2 : (Jvm.Cond.code ({ cls := "com/example/arhe/arhe/NumericValue", name := "<init>", desc := "()V" } : Jvm.MethodName) prog_101_method_1_code (1 : Nat) (Option.none : Option Jvm.ClassFile.FieldType)).before args0 about1 = true := code_word (m := ⟨4, 0⟩) (meth := k4m0) (c := k4c0) (by decide +kernel) rfl rfl rfl (by decide +kernel)
set_option maxRecDepth 65536 in
theorem w_c3 : (Jvm.Cond.code ({ cls := "com/example/arhe/arhe/AtomicValue", name := "<init>", desc := "()V" } : Jvm.MethodName) prog_16_method_1_code (1 : Nat) (Option.none : Option Jvm.ClassFile.FieldType)).before args0 about1 = true := code_word (m := ⟨3, 0⟩) (meth := k3m0) (c := k3c0) (by decide +kernel) rfl rfl rfl (by decide +kernel)
set_option maxRecDepth 65536 in
theorem w_c4 : (Jvm.Cond.code ({ cls := "java/lang/Object", name := "<init>", desc := "()V" } : Jvm.MethodName) object_method_1_code (1 : Nat) (Option.none : Option Jvm.ClassFile.FieldType)).before args0 about1 = true := code_word (m := ⟨0, 0⟩) (meth := k0m0) (c := k0c0) (by decide +kernel) rfl rfl rfl (by decide +kernel)
set_option maxRecDepth 65536 in
theorem w_c5 : (Jvm.Cond.code ({ cls := "com/example/arhe/arhe/DoubleValue", name := "signum", desc := "()I" } : Jvm.MethodName) prog_53_method_13_code (1 : Nat) (Option.some Jvm.ClassFile.FieldType.int)).before args0 about1 = true := code_word (m := ⟨5, 1⟩) (meth := k5m1) (c := k5c1) (by decide +kernel) rfl rfl rfl (by decide +kernel)
def codes1 : List Jvm.Cond := [Jvm.Cond.code x code maxLocals ret, Jvm.Cond.code ({ cls := "com/example/arhe/arhe/DoubleValue", name := "<init>", desc := "(D)V" } : Jvm.MethodName) prog_53_method_1_code (3 : Nat) (Option.none : Option Jvm.ClassFile.FieldType), Jvm.Cond.code ({ cls := "com/example/arhe/arhe/NumericValue", name := "<init>", desc := "()V" } : Jvm.MethodName) prog_101_method_1_code (1 : Nat) (Option.none : Option Jvm.ClassFile.FieldType), Jvm.Cond.code ({ cls := "com/example/arhe/arhe/AtomicValue", name := "<init>", desc := "()V" } : Jvm.MethodName) prog_16_method_1_code (1 : Nat) (Option.none : Option Jvm.ClassFile.FieldType), Jvm.Cond.code ({ cls := "java/lang/Object", name := "<init>", desc := "()V" } : Jvm.MethodName) object_method_1_code (1 : Nat) (Option.none : Option Jvm.ClassFile.FieldType), Jvm.Cond.code ({ cls := "com/example/arhe/arhe/DoubleValue", name := "signum", desc := "()I" } : Jvm.MethodName) prog_53_method_13_code (1 : Nat) (Option.some Jvm.ClassFile.FieldType.int)]
set_option maxRecDepth 65536 in
theorem codes_eq : words1.filter isCode = codes1 := rfl
theorem w_codes : ∀ c ∈ words1.filter isCode, c.before args0 about1 = true := by
  rw [codes_eq]
  intro c hc
  simp only [codes1, List.mem_cons, List.not_mem_nil, or_false] at hc
  rcases hc with rfl | rfl | rfl | rfl | rfl | rfl
  · exact w_c0
  · exact w_c1
  · exact w_c2
  · exact w_c3
  · exact w_c4
  · exact w_c5
set_option maxRecDepth 65536 in
theorem w_t1 : (words1.take 24).all (fun c => isCode c || c.before args0 about1) = true := by decide +kernel
set_option maxRecDepth 65536 in
theorem w_t2 : (words1.drop 24).all (fun c => isCode c || c.before args0 about1) = true := by decide +kernel
theorem w_tables : (allAtoms (Jvm.Cond.code x code maxLocals ret :: tables_1)).before args0 about1 = true := by
  rw [allAtoms_all]
  show words1.all (fun c => c.before args0 about1) = true
  refine all_split ?_ w_codes
  rw [← List.take_append_drop 24 words1, List.all_append, w_t1, w_t2]
  rfl
set_option maxRecDepth 65536 in
theorem w_case : (Jvm.Cond.and given_1 narrow_1).before args0 about1 = true := by decide +kernel
theorem w_applies : (headSpec (Jvm.Cond.code x code maxLocals ret :: tables_1) room_1).applies x e0.platform about1 = true :=
  (Spec.applies_iff w_frames).mpr ⟨w_running, w_runnable, w_alone, w_named, w_hears, w_ripe, w_room, w_tables⟩
theorem atStart : AtStart classFile x code maxLocals ret World_1 tables_1 room_1 Calls_1 rest_1 Pre_1 launch0 p0 e0 about1 theMethod args0 below0 :=
  ⟨lists_1, trivial, launch0.admits_env _ _ _, launch0.least_env, fairChoices_fair.cas, fairChoices_fair.clock, w_frames, w_args, w_heap, w_applies, trivial, trivial, w_case⟩
end start1
theorem witness_1 : WitnessClaimed_1 := ⟨start1.p0, start1.e0, start1.about1, start1.theMethod, start1.args0, start1.below0, start1.atStart⟩
end Jvm.Pilot.@@N@@
