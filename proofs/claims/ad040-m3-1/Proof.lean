import JvmDerived
import JvmDerived.Pilot.@@N@@Statement
import JvmDerived.Pilot.@@N@@Code
set_option linter.unusedVariables false
set_option linter.unusedSimpArgs false
namespace Jvm.RoadKit
open Sem ClassFile Op Lib Jvm.Stand Jvm.Free Jvm.LawKit
section New
variable {p : Program} {l : Launch} {e : Env} {R : Room} {s : State} {m : MethodId} {args : Array Value} {below : List Frame} {meth : Method} {c : Code} {T : State} {locs : List Loc} {cells slots : Nat}
theorem retI (X : Stand p l e R s m args below meth c T locs cells slots) (hx : p.tables.exec = Jvm.exec) {pc : Nat} {Ls : Array Slot} {z : Int32} {rest : List Value} (hret : meth.sig.returnType = some .int) (hd : decode c.code pc = .ok (.ireturn, 1)) {fs : List Frame}
    (hl : ∀ (f : JFrame) (acts : List Action), f.method = m → f.locked = none → f.entered = [] → (doReturn e (T.setTop f) acts (some (.int z))).1 = T.setFrames fs) : Steps p.tables e below (T.setTop (mkF m pc Ls (.int z :: rest))) (T.setFrames fs) :=
  retOut X hx hret rfl (Or.inl ⟨rfl, Or.inl rfl, z, rfl⟩) hd hl
theorem retJ (X : Stand p l e R s m args below meth c T locs cells slots) (hx : p.tables.exec = Jvm.exec) {pc : Nat} {Ls : Array Slot} {z : Int64} {rest : List Value} (hret : meth.sig.returnType = some .long) (hd : decode c.code pc = .ok (.lreturn, 1)) {fs : List Frame}
    (hl : ∀ (f : JFrame) (acts : List Action), f.method = m → f.locked = none → f.entered = [] → (doReturn e (T.setTop f) acts (some (.long z))).1 = T.setFrames fs) : Steps p.tables e below (T.setTop (mkF m pc Ls (.long z :: rest))) (T.setFrames fs) :=
  retOut X hx hret rfl (Or.inr (Or.inl ⟨rfl, rfl, z, rfl⟩)) hd hl
theorem retA (X : Stand p l e R s m args below meth c T locs cells slots) (hx : p.tables.exec = Jvm.exec) {pc : Nat} {Ls : Array Slot} {w : Value} {t : FieldType} {rest : List Value} (hret : meth.sig.returnType = some t) (hd : decode c.code pc = .ok (.areturn, 1)) {fs : List Frame}
    (hl : ∀ (f : JFrame) (acts : List Action), f.method = m → f.locked = none → f.entered = [] → (doReturn e (T.setTop f) acts (some w)).1 = T.setFrames fs) (ht : t.isReference = true) (hw : w.isRef = true) : Steps p.tables e below (T.setTop (mkF m pc Ls (w :: rest))) (T.setFrames fs) :=
  retOut X hx hret (by cases t <;> first | rfl | (cases ht; done)) (Or.inr (Or.inr (Or.inr (Or.inr ⟨rfl, ht, hw⟩)))) hd hl
/-- from the state S on, the body runs to its end and leaves what Q says -/
def Gz (p : Program) (e : Env) (below : List Frame) (s : State) (C N : Nat) (Q : Option Value → Heap → List Loc → Prop) (S : State) : Prop :=
  ∃ s₂ o, Steps p.tables e below S s₂ ∧ s₂.status = .running ∧ Ended s₂ below o ∧ ∃ v L, o = .returned v ∧ Q v s₂.heap L ∧ FrameEnd s o s₂ L C N
variable {C N : Nat} {Q : Option Value → Heap → List Loc → Prop} {S S' : State}
theorem Gz.st (k : ∀ t, Steps p.tables e below S' t → Steps p.tables e below S t) (h : Gz p e below s C N Q S') : Gz p e below s C N Q S := by
  obtain ⟨s₂, o, h1, h2⟩ := h
  exact ⟨s₂, o, k _ h1, h2⟩
theorem Gz.tr (k : Steps p.tables e below S S') (h : Gz p e below s C N Q S') : Gz p e below s C N Q S := by
  obtain ⟨s₂, o, h1, h2⟩ := h
  exact ⟨s₂, o, k.trans h1, h2⟩
variable {pc : Nat} {Ls : Array Slot} {st : List Value} {Z : State} {a0 : Array Value} {hh : Heap}
theorem Gz.iloadN (n : Nat) {k : Fin 4} {v : Int32} (X : Stand p l e R s m args below meth c T locs cells slots) (hx : p.tables.exec = Jvm.exec) (hd : decode c.code pc = .ok (.iload_n k, 1)) (hl : Ls[k.val]? = some (.val (.int v))) (q : pc + 1 = n) (h : Gz p e below s C N Q (T.setTop (mkF m n Ls (.int v :: st)))) : Gz p e below s C N Q (T.setTop (mkF m pc Ls st)) := by subst q; exact Gz.st (fun t k => XS.iloadN X.here hx rfl hd hl k) h
theorem Gz.iload (n : Nat) {k : Nat} {v : Int32} (X : Stand p l e R s m args below meth c T locs cells slots) (hx : p.tables.exec = Jvm.exec) (hd : decode c.code pc = .ok (.iload k, 2)) (hl : Ls[k]? = some (.val (.int v))) (q : pc + 2 = n) (h : Gz p e below s C N Q (T.setTop (mkF m n Ls (.int v :: st)))) : Gz p e below s C N Q (T.setTop (mkF m pc Ls st)) := by subst q; exact Gz.st (fun t k => XS.iload X.here hx rfl hd hl k) h
theorem Gz.istoreN (n : Nat) (l' : Array Slot) {k : Fin 4} {v : Int32} (X : Stand p l e R s m args below meth c T locs cells slots) (hx : p.tables.exec = Jvm.exec) (hd : decode c.code pc = .ok (.istore_n k, 1)) (hl : storeLocals Ls k.val (.int v) = some l') (q : pc + 1 = n) (h : Gz p e below s C N Q (T.setTop (mkF m n l' st))) : Gz p e below s C N Q (T.setTop (mkF m pc Ls (.int v :: st))) := by subst q; exact Gz.st (fun t k => XS.istoreN X.here hx rfl hd rfl hl k) h
theorem Gz.istore (n : Nat) (l' : Array Slot) {k : Nat} {v : Int32} (X : Stand p l e R s m args below meth c T locs cells slots) (hx : p.tables.exec = Jvm.exec) (hd : decode c.code pc = .ok (.istore k, 2)) (hl : storeLocals Ls k (.int v) = some l') (q : pc + 2 = n) (h : Gz p e below s C N Q (T.setTop (mkF m n l' st))) : Gz p e below s C N Q (T.setTop (mkF m pc Ls (.int v :: st))) := by subst q; exact Gz.st (fun t k => XS.istore X.here hx rfl hd rfl hl k) h
theorem Gz.lloadN (n : Nat) {k : Fin 4} {v : Int64} (X : Stand p l e R s m args below meth c T locs cells slots) (hx : p.tables.exec = Jvm.exec) (hd : decode c.code pc = .ok (.lload_n k, 1)) (hl : Ls[k.val]? = some (.val (.long v))) (q : pc + 1 = n) (h : Gz p e below s C N Q (T.setTop (mkF m n Ls (.long v :: st)))) : Gz p e below s C N Q (T.setTop (mkF m pc Ls st)) := by subst q; exact Gz.st (fun t k => XS.lloadN X.here hx rfl hd hl k) h
theorem Gz.lstoreN (n : Nat) (l' : Array Slot) {k : Fin 4} {v : Int64} (X : Stand p l e R s m args below meth c T locs cells slots) (hx : p.tables.exec = Jvm.exec) (hd : decode c.code pc = .ok (.lstore_n k, 1)) (hl : storeLocals Ls k.val (.long v) = some l') (q : pc + 1 = n) (h : Gz p e below s C N Q (T.setTop (mkF m n l' st))) : Gz p e below s C N Q (T.setTop (mkF m pc Ls (.long v :: st))) := by subst q; exact Gz.st (fun t k => XS.lstoreN X.here hx rfl hd rfl hl k) h
theorem Gz.aloadN (n : Nat) {k : Fin 4} {v : Value} (X : Stand p l e R s m args below meth c T locs cells slots) (hx : p.tables.exec = Jvm.exec) (hd : decode c.code pc = .ok (.aload_n k, 1)) (hl : Ls[k.val]? = some (.val v)) (hv : v.isRef = true) (q : pc + 1 = n) (h : Gz p e below s C N Q (T.setTop (mkF m n Ls (v :: st)))) : Gz p e below s C N Q (T.setTop (mkF m pc Ls st)) := by subst q; exact Gz.st (fun t k => XS.aloadN X.here hx rfl hd hl hv k) h
theorem Gz.aload (n : Nat) {k : Nat} {v : Value} (X : Stand p l e R s m args below meth c T locs cells slots) (hx : p.tables.exec = Jvm.exec) (hd : decode c.code pc = .ok (.aload k, 2)) (hl : Ls[k]? = some (.val v)) (hv : v.isRef = true) (q : pc + 2 = n) (h : Gz p e below s C N Q (T.setTop (mkF m n Ls (v :: st)))) : Gz p e below s C N Q (T.setTop (mkF m pc Ls st)) := by subst q; exact Gz.st (fun t k => XS.aload X.here hx rfl hd hl hv k) h
theorem Gz.astoreN (n : Nat) (l' : Array Slot) {k : Fin 4} {v : Value} (X : Stand p l e R s m args below meth c T locs cells slots) (hx : p.tables.exec = Jvm.exec) (hd : decode c.code pc = .ok (.astore_n k, 1)) (hl : storeLocals Ls k.val v = some l') (hv : v.isRef = true) (q : pc + 1 = n) (h : Gz p e below s C N Q (T.setTop (mkF m n l' st))) : Gz p e below s C N Q (T.setTop (mkF m pc Ls (v :: st))) := by subst q; exact Gz.st (fun t k => XS.astoreN X.here hx rfl hd rfl hv hl k) h
theorem Gz.astore (n : Nat) (l' : Array Slot) {k : Nat} {v : Value} (X : Stand p l e R s m args below meth c T locs cells slots) (hx : p.tables.exec = Jvm.exec) (hd : decode c.code pc = .ok (.astore k, 2)) (hl : storeLocals Ls k v = some l') (hv : v.isRef = true) (q : pc + 2 = n) (h : Gz p e below s C N Q (T.setTop (mkF m n l' st))) : Gz p e below s C N Q (T.setTop (mkF m pc Ls (v :: st))) := by subst q; exact Gz.st (fun t k => XS.astore X.here hx rfl hd rfl hv hl k) h
theorem Gz.iconst (n : Nat) (v : Int32) (X : Stand p l e R s m args below meth c T locs cells slots) (hx : p.tables.exec = Jvm.exec) {i : Int} (hd : decode c.code pc = .ok (.iconst i, 1)) (hv : Int32.ofInt i = v) (q : pc + 1 = n) (h : Gz p e below s C N Q (T.setTop (mkF m n Ls (.int v :: st)))) : Gz p e below s C N Q (T.setTop (mkF m pc Ls st)) := by subst q hv; exact Gz.st (fun t k => XS.iconst X.here hx rfl hd k) h
theorem Gz.sipush (n : Nat) (v : Int32) (X : Stand p l e R s m args below meth c T locs cells slots) (hx : p.tables.exec = Jvm.exec) {i : Int} (hd : decode c.code pc = .ok (.sipush i, 3)) (hv : (Int16.ofInt i).toInt32 = v) (q : pc + 3 = n) (h : Gz p e below s C N Q (T.setTop (mkF m n Ls (.int v :: st)))) : Gz p e below s C N Q (T.setTop (mkF m pc Ls st)) := by subst q hv; exact Gz.st (fun t k => XS.sipush X.here hx rfl hd k) h
theorem Gz.lconst (n : Nat) (v : Int64) (X : Stand p l e R s m args below meth c T locs cells slots) (hx : p.tables.exec = Jvm.exec) {i : Fin 2} (hd : decode c.code pc = .ok (.lconst i, 1)) (hv : Int64.ofNat i = v) (q : pc + 1 = n) (h : Gz p e below s C N Q (T.setTop (mkF m n Ls (.long v :: st)))) : Gz p e below s C N Q (T.setTop (mkF m pc Ls st)) := by subst q hv; exact Gz.st (fun t k => XS.lconst X.here hx rfl hd k) h
theorem Gz.iadd (n : Nat) {x y : Int32} (X : Stand p l e R s m args below meth c T locs cells slots) (hx : p.tables.exec = Jvm.exec) (hd : decode c.code pc = .ok (.iadd, 1))  (q : pc + 1 = n) (h : Gz p e below s C N Q (T.setTop (mkF m n Ls (.int (x + y) :: st)))) : Gz p e below s C N Q (T.setTop (mkF m pc Ls (.int y :: .int x :: st))) := by subst q; exact Gz.st (fun t k => XS.iadd X.here hx rfl hd rfl k) h
theorem Gz.iaddV (n : Nat) (z : Int32) (X : Stand p l e R s m args below meth c T locs cells slots) (hx : p.tables.exec = Jvm.exec) {x y : Int32} (hd : decode c.code pc = .ok (.iadd, 1)) (hz : x + y = z) (q : pc + 1 = n) (h : Gz p e below s C N Q (T.setTop (mkF m n Ls (.int z :: st)))) : Gz p e below s C N Q (T.setTop (mkF m pc Ls (.int y :: .int x :: st))) := by subst hz; exact Gz.iadd n X hx hd q h
theorem Gz.ladd (n : Nat) {x y : Int64} (X : Stand p l e R s m args below meth c T locs cells slots) (hx : p.tables.exec = Jvm.exec) (hd : decode c.code pc = .ok (.ladd, 1))  (q : pc + 1 = n) (h : Gz p e below s C N Q (T.setTop (mkF m n Ls (.long (x + y) :: st)))) : Gz p e below s C N Q (T.setTop (mkF m pc Ls (.long y :: .long x :: st))) := by subst q; exact Gz.st (fun t k => XS.ladd X.here hx rfl hd rfl k) h
theorem Gz.isub (n : Nat) {x y : Int32} (X : Stand p l e R s m args below meth c T locs cells slots) (hx : p.tables.exec = Jvm.exec) (hd : decode c.code pc = .ok (.isub, 1))  (q : pc + 1 = n) (h : Gz p e below s C N Q (T.setTop (mkF m n Ls (.int (x - y) :: st)))) : Gz p e below s C N Q (T.setTop (mkF m pc Ls (.int y :: .int x :: st))) := by subst q; exact Gz.st (fun t k => XS.isub X.here hx rfl hd rfl k) h
theorem Gz.isubV (n : Nat) (z : Int32) (X : Stand p l e R s m args below meth c T locs cells slots) (hx : p.tables.exec = Jvm.exec) {x y : Int32} (hd : decode c.code pc = .ok (.isub, 1)) (hz : x - y = z) (q : pc + 1 = n) (h : Gz p e below s C N Q (T.setTop (mkF m n Ls (.int z :: st)))) : Gz p e below s C N Q (T.setTop (mkF m pc Ls (.int y :: .int x :: st))) := by subst hz; exact Gz.isub n X hx hd q h
theorem Gz.imul (n : Nat) {x y : Int32} (X : Stand p l e R s m args below meth c T locs cells slots) (hx : p.tables.exec = Jvm.exec) (hd : decode c.code pc = .ok (.imul, 1))  (q : pc + 1 = n) (h : Gz p e below s C N Q (T.setTop (mkF m n Ls (.int (x * y) :: st)))) : Gz p e below s C N Q (T.setTop (mkF m pc Ls (.int y :: .int x :: st))) := by subst q; exact Gz.st (fun t k => XS.imul X.here hx rfl hd rfl k) h
theorem Gz.imulV (n : Nat) (z : Int32) (X : Stand p l e R s m args below meth c T locs cells slots) (hx : p.tables.exec = Jvm.exec) {x y : Int32} (hd : decode c.code pc = .ok (.imul, 1)) (hz : x * y = z) (q : pc + 1 = n) (h : Gz p e below s C N Q (T.setTop (mkF m n Ls (.int z :: st)))) : Gz p e below s C N Q (T.setTop (mkF m pc Ls (.int y :: .int x :: st))) := by subst hz; exact Gz.imul n X hx hd q h
theorem Gz.lmul (n : Nat) {x y : Int64} (X : Stand p l e R s m args below meth c T locs cells slots) (hx : p.tables.exec = Jvm.exec) (hd : decode c.code pc = .ok (.lmul, 1))  (q : pc + 1 = n) (h : Gz p e below s C N Q (T.setTop (mkF m n Ls (.long (x * y) :: st)))) : Gz p e below s C N Q (T.setTop (mkF m pc Ls (.long y :: .long x :: st))) := by subst q; exact Gz.st (fun t k => XS.lmul X.here hx rfl hd rfl k) h
theorem Gz.iand (n : Nat) {x y : Int32} (X : Stand p l e R s m args below meth c T locs cells slots) (hx : p.tables.exec = Jvm.exec) (hd : decode c.code pc = .ok (.iand, 1))  (q : pc + 1 = n) (h : Gz p e below s C N Q (T.setTop (mkF m n Ls (.int (x &&& y) :: st)))) : Gz p e below s C N Q (T.setTop (mkF m pc Ls (.int y :: .int x :: st))) := by subst q; exact Gz.st (fun t k => XS.iand X.here hx rfl hd rfl k) h
theorem Gz.i2l (n : Nat) {x : Int32} (X : Stand p l e R s m args below meth c T locs cells slots) (hx : p.tables.exec = Jvm.exec) (hd : decode c.code pc = .ok (.i2l, 1))  (q : pc + 1 = n) (h : Gz p e below s C N Q (T.setTop (mkF m n Ls (.long (x.toInt64) :: st)))) : Gz p e below s C N Q (T.setTop (mkF m pc Ls (.int x :: st))) := by subst q; exact Gz.st (fun t k => XS.i2l X.here hx rfl hd rfl k) h
theorem Gz.lcmp (n : Nat) {x y : Int64} (X : Stand p l e R s m args below meth c T locs cells slots) (hx : p.tables.exec = Jvm.exec) (hd : decode c.code pc = .ok (.lcmp, 1))  (q : pc + 1 = n) (h : Gz p e below s C N Q (T.setTop (mkF m n Ls (.int (lcmpW x y) :: st)))) : Gz p e below s C N Q (T.setTop (mkF m pc Ls (.long y :: .long x :: st))) := by subst q; exact Gz.st (fun t k => XS.lcmp X.here hx rfl hd rfl k) h
theorem Gz.idiv (n : Nat) {x y : Int32} (X : Stand p l e R s m args below meth c T locs cells slots) (hx : p.tables.exec = Jvm.exec) (hd : decode c.code pc = .ok (.idiv, 1)) (hy : y ≠ 0) (q : pc + 1 = n) (h : Gz p e below s C N Q (T.setTop (mkF m n Ls (.int (x / y) :: st)))) : Gz p e below s C N Q (T.setTop (mkF m pc Ls (.int y :: .int x :: st))) := by subst q; exact Gz.st (fun t k => XS.idiv X.here hx rfl hd rfl hy k) h
theorem Gz.idivV (n : Nat) (z : Int32) (X : Stand p l e R s m args below meth c T locs cells slots) (hx : p.tables.exec = Jvm.exec) {x y : Int32} (hd : decode c.code pc = .ok (.idiv, 1)) (hy : y ≠ 0) (hz : (x / y) = z) (q : pc + 1 = n) (h : Gz p e below s C N Q (T.setTop (mkF m n Ls (.int z :: st)))) : Gz p e below s C N Q (T.setTop (mkF m pc Ls (.int y :: .int x :: st))) := by subst hz; exact Gz.idiv n X hx hd hy q h
theorem Gz.iinc (n : Nat) (l' : Array Slot) (X : Stand p l e R s m args below meth c T locs cells slots) (hx : p.tables.exec = Jvm.exec) {k : Nat} {i : Int} {x : Int32} (hd : decode c.code pc = .ok (.iinc k i, 3)) (hl : Ls[k]? = some (.val (.int x))) (hl' : storeLocals Ls k (.int (x + Int32.ofInt i)) = some l') (q : pc + 3 = n) (h : Gz p e below s C N Q (T.setTop (mkF m n l' st))) : Gz p e below s C N Q (T.setTop (mkF m pc Ls st)) := by subst q; exact Gz.st (fun t k => XS.iinc X.here hx rfl hd hl hl' k) h
theorem Gz.dup (n : Nat) {x : Value} (X : Stand p l e R s m args below meth c T locs cells slots) (hx : p.tables.exec = Jvm.exec) (hd : decode c.code pc = .ok (.dup, 1)) (hc : x.category = 1) (q : pc + 1 = n) (h : Gz p e below s C N Q (T.setTop (mkF m n Ls (x :: x :: st)))) : Gz p e below s C N Q (T.setTop (mkF m pc Ls (x :: st))) := by subst q; exact Gz.st (fun t k => XS.dup X.here hx rfl hd rfl hc k) h
theorem Gz.goto (n : Nat) (X : Stand p l e R s m args below meth c T locs cells slots) (hx : p.tables.exec = Jvm.exec) {o : Int} (hd : decode c.code pc = .ok (.goto o, 3)) (ho : 0 ≤ (pc : Int) + o) (q : ((pc : Int) + o).toNat = n) (h : Gz p e below s C N Q (T.setTop (mkF m n Ls st))) : Gz p e below s C N Q (T.setTop (mkF m pc Ls st)) := Gz.st (fun t k => XS.goto X.here hx rfl (pc0 := pc) (pc' := n) rfl hd ho q k) h
theorem Gz.ifYes (n : Nat) (X : Stand p l e R s m args below meth c T locs cells slots) (hx : p.tables.exec = Jvm.exec) {cd : ClassFile.Cond} {x : Int32} {o : Int} (hd : decode c.code pc = .ok (.ifCond cd o, 3)) (hc : ifCond.holds cd x = true) (ho : 0 ≤ (pc : Int) + o) (q : ((pc : Int) + o).toNat = n) (h : Gz p e below s C N Q (T.setTop (mkF m n Ls st))) : Gz p e below s C N Q (T.setTop (mkF m pc Ls (.int x :: st))) := Gz.st (fun t k => XS.ifYes X.here hx rfl (pc0 := pc) (pc' := n) rfl hd rfl hc ho q k) h
theorem Gz.ifNo (n : Nat) (X : Stand p l e R s m args below meth c T locs cells slots) (hx : p.tables.exec = Jvm.exec) {cd : ClassFile.Cond} {x : Int32} {o : Int} (hd : decode c.code pc = .ok (.ifCond cd o, 3)) (hc : ifCond.holds cd x = false) (q : pc + 3 = n) (h : Gz p e below s C N Q (T.setTop (mkF m n Ls st))) : Gz p e below s C N Q (T.setTop (mkF m pc Ls (.int x :: st))) := by subst q; exact Gz.st (fun t k => XS.ifNo X.here hx rfl hd rfl hc k) h
theorem Gz.icmpYes (n : Nat) (X : Stand p l e R s m args below meth c T locs cells slots) (hx : p.tables.exec = Jvm.exec) {cd : ClassFile.Cond} {x y : Int32} {o : Int} (hd : decode c.code pc = .ok (.if_icmp cd o, 3)) (hc : if_icmp.holds cd x y = true) (ho : 0 ≤ (pc : Int) + o) (q : ((pc : Int) + o).toNat = n) (h : Gz p e below s C N Q (T.setTop (mkF m n Ls st))) : Gz p e below s C N Q (T.setTop (mkF m pc Ls (.int y :: .int x :: st))) := Gz.st (fun t k => XS.icmpYes X.here hx rfl (pc0 := pc) (pc' := n) rfl hd rfl hc ho q k) h
theorem Gz.icmpNo (n : Nat) (X : Stand p l e R s m args below meth c T locs cells slots) (hx : p.tables.exec = Jvm.exec) {cd : ClassFile.Cond} {x y : Int32} {o : Int} (hd : decode c.code pc = .ok (.if_icmp cd o, 3)) (hc : if_icmp.holds cd x y = false) (q : pc + 3 = n) (h : Gz p e below s C N Q (T.setTop (mkF m n Ls st))) : Gz p e below s C N Q (T.setTop (mkF m pc Ls (.int y :: .int x :: st))) := by subst q; exact Gz.st (fun t k => XS.icmpNo X.here hx rfl hd rfl hc k) h
theorem Gz.ldcI (n : Nat) (X : Stand p l e R s m args below meth c T locs cells slots) (hx : p.tables.exec = Jvm.exec) {own : String} {ix : Nat} {v : Int32} (hd : decode c.code pc = .ok (.ldc ix, 2)) (hown : s.vm.findClass own = some m.cls) (w : (Cond.constant own ix v).before args s = true) (q : pc + 2 = n) (h : Gz p e below s C N Q (T.setTop (mkF m n Ls (.int v :: st)))) : Gz p e below s C N Q (T.setTop (mkF m pc Ls st)) := by subst q; exact Gz.st (X.ldcInt hx hown w (g := mkF m pc Ls st) rfl hd) h
theorem Gz.ldc2J (n : Nat) (X : Stand p l e R s m args below meth c T locs cells slots) (hx : p.tables.exec = Jvm.exec) {own : String} {ix : Nat} {v : Int64} (hd : decode c.code pc = .ok (.ldc2_w ix, 3)) (hown : s.vm.findClass own = some m.cls) (w : (Cond.constantLong own ix v).before args s = true) (q : pc + 3 = n) (h : Gz p e below s C N Q (T.setTop (mkF m n Ls (.long v :: st)))) : Gz p e below s C N Q (T.setTop (mkF m pc Ls st)) := by subst q; exact Gz.st (X.ldc2Long hx hown w (g := mkF m pc Ls st) rfl hd) h
theorem Gz.getF (n : Nat) (X : Stand p l e R s m args below meth c T locs cells slots) (hx : p.tables.exec = Jvm.exec) (hZ : Z.Warmed39 s.vm) {own : String} (hown : s.vm.findClass own = some m.cls) {R0 O nm d host : String} {ix : Nat} (hd : decode c.code pc = .ok (.getfield ix, 3)) (w : (Cond.fieldLink own ix R0 nm d).before a0 Z = true ∨ (Cond.fieldLinkNest own ix R0 nm d host).before a0 Z = true) (via : Via Z R0 O nm d) (eT : T.heap = hh) {a : Addr} {v : Value} (F : Fld Z hh a O nm d v) (q : pc + 3 = n) (h : ∀ T', Stand p l e R s m args below meth c T' (locs) (cells) (slots) → T'.heap = hh → Gz p e below s C N Q (T'.setTop (mkF m n Ls (v :: st)))) : Gz p e below s C N Q (T.setTop (mkF m pc Ls (.ref a :: st))) := by
  subst q
  obtain ⟨T', X', e', st'⟩ := Jvm.RoadKit.getF X hx hZ hown w via eT F (g := mkF m pc Ls (.ref a :: st)) rfl rfl hd
  exact Gz.st st' (h T' X' e')
theorem Gz.putF (n : Nat) (X : Stand p l e R s m args below meth c T locs cells slots) (hx : p.tables.exec = Jvm.exec) (hZ : Z.Warmed39 s.vm) {own : String} (hown : s.vm.findClass own = some m.cls) {R0 O nm d host K : String} {ix kk : Nat} (ty : FieldType) (hd : decode c.code pc = .ok (.putfield ix, 3)) (w : (Cond.fieldLink own ix R0 nm d).before a0 Z = true ∨ (Cond.fieldLinkNest own ix R0 nm d host).before a0 Z = true) (via : Via Z R0 O nm d) (eT : T.heap = hh) {a : Addr} {v old : Value} (F : Fld Z hh a O nm d old) (E : Exa Z hh a K) (L : (Cond.lays K O nm d).before a0 Z = true ∨ ((Cond.laysFinal K O nm d).before a0 Z = true ∧ own = O ∧ meth.name = "<init>")) (wi : (Cond.instantiable K kk).before a0 Z = true) (hty : parseFieldDescriptor d = some ty) (hn : narrow ty v = v) (hf : fits ty v = true) (q : pc + 3 = n) (h : ∀ T' h', Stand p l e R s m args below meth c T' (locs ++ [⟨a, slotOf Z O nm d⟩]) (cells) (slots) → T'.heap = h' → Wr hh h' a (slotOf Z O nm d) v → Gz p e below s C N Q (T'.setTop (mkF m n Ls st))) : Gz p e below s C N Q (T.setTop (mkF m pc Ls (v :: .ref a :: st))) := by
  subst q
  obtain ⟨T', h', X', e', W, st'⟩ := Jvm.RoadKit.putF X hx hZ hown w via eT F E L wi hty hn hf (g := mkF m pc Ls (v :: .ref a :: st)) rfl rfl hd
  exact Gz.st st' (h T' h' X' e' W)
theorem Gz.castY (n : Nat) (X : Stand p l e R s m args below meth c T locs cells slots) (hx : p.tables.exec = Jvm.exec) (hZ : Z.Warmed39 s.vm) {own : String} (hown : s.vm.findClass own = some m.cls) {K : String} {ix : Nat} (hd : decode c.code pc = .ok (.checkcast ix, 3)) (w : (Cond.classLink own ix K).before a0 Z = true) (eT : T.heap = hh) {a : Addr} (F : Ins Z hh a K true) (q : pc + 3 = n) (h : ∀ T', Stand p l e R s m args below meth c T' (locs) (cells) (slots) → T'.heap = hh → Gz p e below s C N Q (T'.setTop (mkF m n Ls (.ref a :: st)))) : Gz p e below s C N Q (T.setTop (mkF m pc Ls (.ref a :: st))) := by
  subst q
  obtain ⟨T', X', e', st'⟩ := Jvm.RoadKit.castY X hx hZ hown w eT F (g := mkF m pc Ls (.ref a :: st)) rfl rfl hd
  exact Gz.st st' (h T' X' e')
theorem Gz.stI (n : Nat) (X : Stand p l e R s m args below meth c T locs cells slots) (hx : p.tables.exec = Jvm.exec) (hZ : Z.Warmed39 s.vm) {a : Addr} {cl : Cell} {j : Int32} {x : Int32} (hd : decode c.code pc = .ok (.iastore, 1)) (eT : T.heap = hh) (A : Arr Z hh a cl .int) (hj : ¬ (j < 0 ∨ cl.slots.size ≤ j.toNatClampNeg)) (q : pc + 1 = n) (h : ∀ T' h', Stand p l e R s m args below meth c T' (locs ++ [⟨a, j.toNatClampNeg⟩]) (cells) (slots) → T'.heap = h' → Wr hh h' a j.toNatClampNeg (.int x) → Gz p e below s C N Q (T'.setTop (mkF m n Ls st))) : Gz p e below s C N Q (T.setTop (mkF m pc Ls (.int x :: .int j :: .ref a :: st))) := by
  subst q
  obtain ⟨T', h', X', e', W, st'⟩ := Jvm.RoadKit.stI X hx hZ eT A (j := j) hj (g := mkF m pc Ls (.int x :: .int j :: .ref a :: st)) rfl rfl hd
  exact Gz.st st' (h T' h' X' e' W)
theorem Gz.ldI (n : Nat) (X : Stand p l e R s m args below meth c T locs cells slots) (hx : p.tables.exec = Jvm.exec) (hZ : Z.Warmed39 s.vm) {a : Addr} {cl : Cell} {j : Int32} {v : Value} (hd : decode c.code pc = .ok (.iaload, 1)) (eT : T.heap = hh) (A : Arr Z hh a cl .int) (hj : ¬ (j < 0 ∨ cl.slots.size ≤ j.toNatClampNeg)) (hv : cl.slots[j.toNatClampNeg]? = some v) (q : pc + 1 = n) (h : Gz p e below s C N Q (T.setTop (mkF m n Ls (v :: st)))) : Gz p e below s C N Q (T.setTop (mkF m pc Ls (.int j :: .ref a :: st))) := by
  subst q
  exact Gz.st (X.iaload hx (j := j) (v := v) (by rw [eT]; exact A.1) (State.isArrayOf_alike hZ.alike A.2.1) A.2.2 hj hv (g := mkF m pc Ls (.int j :: .ref a :: st)) rfl rfl hd) h
theorem Gz.ldA (n : Nat) (X : Stand p l e R s m args below meth c T locs cells slots) (hx : p.tables.exec = Jvm.exec) (hZ : Z.Warmed39 s.vm) {a : Addr} {cl : Cell} {j : Int32} {v : Value} {ty : FieldType} (hr : ty.isReference = true) (hd : decode c.code pc = .ok (.aaload, 1)) (eT : T.heap = hh) (A : Arr Z hh a cl ty) (hj : ¬ (j < 0 ∨ cl.slots.size ≤ j.toNatClampNeg)) (hv : cl.slots[j.toNatClampNeg]? = some v) (q : pc + 1 = n) (h : Gz p e below s C N Q (T.setTop (mkF m n Ls (v :: st)))) : Gz p e below s C N Q (T.setTop (mkF m pc Ls (.int j :: .ref a :: st))) := by
  subst q
  exact Gz.st (X.aaload hx (j := j) (v := v) (by rw [eT]; exact A.1) (State.isArrayOf_alike hZ.alike A.2.1) hr A.2.2 hj hv (g := mkF m pc Ls (.int j :: .ref a :: st)) rfl rfl hd) h
theorem Gz.alen (n : Nat) (X : Stand p l e R s m args below meth c T locs cells slots) (hx : p.tables.exec = Jvm.exec) (hZ : Z.Warmed39 s.vm) {a : Addr} {cl : Cell} {z : Int32} {ty : FieldType} (hd : decode c.code pc = .ok (.arraylength, 1)) (eT : T.heap = hh) (A : Arr Z hh a cl ty) (hs : cl.slots.size = z.toNatClampNeg) (hz : ¬ z < 0) (q : pc + 1 = n) (h : Gz p e below s C N Q (T.setTop (mkF m n Ls (.int z :: st)))) : Gz p e below s C N Q (T.setTop (mkF m pc Ls (.ref a :: st))) := by
  subst q
  refine Gz.st (X.arraylength hx (by rw [eT]; exact A.1) (State.isArrayOf_alike hZ.alike A.2.1) (g := mkF m pc Ls (.ref a :: st)) rfl rfl hd) ?_
  rw [len_of hs hz]
  exact h
theorem Gz.enter {g g' : JFrame} (q : g = g') (h : Gz p e below s C N Q (T.setTop g')) : Gz p e below s C N Q (T.setTop g) := q ▸ h
theorem Gz.fin (X : Stand p l e R s m args below meth c T locs cells slots) {v : Option Value} (hv : meth.sig.returnType = none → v = none) (hlocks : meth.locks = false) (hc : cells ≤ C) (hn : slots ≤ N)
    (hst : ∀ fs, (∀ (f : JFrame) (acts : List Action), f.method = m → f.locked = none → f.entered = [] → (doReturn e (T.setTop f) acts v).1 = T.setFrames fs) → Steps p.tables e below S (T.setFrames fs)) (hq : Q v T.heap locs) : Gz p e below s C N Q S := by
  obtain ⟨fs, hr, hrun, hended, hW, hsame⟩ := X.leave hv hlocks
  exact ⟨_, _, hst fs hr, hrun, hended, _, _, rfl, hq, ⟨_, rfl⟩, hW, hsame.mono hc hn⟩
theorem retNV (X : Stand p l e R s m args below meth c T locs cells slots) (hx : p.tables.exec = Jvm.exec) {pc : Nat} {Ls : Array Slot} {z w : Int32} {t : FieldType} {rest : List Value} (hret : meth.sig.returnType = some t) (ht : t = .boolean ∨ t = .byte ∨ t = .char ∨ t = .short)
    (hd : decode c.code pc = .ok (.ireturn, 1)) {fs : List Frame} (hl : ∀ (f : JFrame) (acts : List Action), f.method = m → f.locked = none → f.entered = [] → (doReturn e (T.setTop f) acts (some (.int w))).1 = T.setFrames fs) (hw : nar t z = w) :
    Steps p.tables e below (T.setTop (mkF m pc Ls (.int z :: rest))) (T.setFrames fs) := by subst hw; exact retN X hx hret ht hd hl
theorem own_nb (x : Int32) : nar .byte (x.toInt8.toInt32) = x.toInt8.toInt32 := by show (x.toInt8.toInt32).toInt8.toInt32 = _; simp
theorem lt_irr (x : Int32) : ¬ x < x := Int32.lt_irrefl
theorem own_rl {a z r j : Nat} (h : a < z) (q : r = z + 1 + j) : a ≠ r := by omega
theorem own_ro {x z r j : Nat} (h : x = z) (q : r = z + 1 + j) : x ≠ r := by omega
theorem own_rr {z a b i j : Nat} (h : a = z + 1 + i) (q : b = z + 1 + j) (w : i ≠ j) : a ≠ b := by omega
theorem own_rg {n z r j : Nat} (h : n ≤ z) (q : r = z + 1 + j) : n ≤ r := by omega
theorem own_fldI {a0 : Array Value} {Z : State} {t : Term} {a : Addr} {C n d : String} {k : Int32} (ev : t.eval a0 Z none [] Z = some (.ref a)) (h : (Cond.eq (.field t C n d) (.int k)).value a0 Z none Z [] = some true) : Fld Z Z.heap a C n d (.int k) := by
  obtain ⟨x, y, e1, e2, k1, k2⟩ := cmp_v (Or.inl h)
  cases Option.some.inj (e2.symm.trans (Term.int_eval k))
  obtain ⟨z, rfl⟩ := k2
  have q := gotT (Cond.eq_ints e1 (Term.int_eval k)) h
  subst q
  rw [fld_at ev] at e1
  exact Fld.start e1
theorem own_len {a0 : Array Value} {Z : State} {t : Term} {a : Addr} {cl : Cell} {ty : FieldType} {z : Int32} (ev : t.eval a0 Z none [] Z = some (.ref a)) (A : Arr Z Z.heap a cl ty) (h : (Cond.eq (.length t) (.int z)).value a0 Z none Z [] = some true) : cl.slots.size < 2 ^ 31 ∧ cl.slots.size.toInt32 = z := by
  obtain ⟨x, y, e1, e2, k1, k2⟩ := cmp_v (Or.inl h)
  obtain ⟨b, cell, f1, f2, f3, f4⟩ := Jvm.Lib.length_spec e1
  cases Option.some.inj (ev.symm.trans f1)
  cases f2.symm.trans (Arr.fin (U := Z) (Vm.Alike.refl _) A)
  subst f4
  exact ⟨f3, gotT (Cond.eq_ints e1 (Term.int_eval z)) h⟩
theorem own_el {a0 : Array Value} {Z : State} {t : Term} {a : Addr} {cl : Cell} {ty : FieldType} {j v : Int32} (ev : t.eval a0 Z none [] Z = some (.ref a)) (A : Arr Z Z.heap a cl ty) (h : (Cond.eq (.elem t (.int j)) (.int v)).value a0 Z none Z [] = some true) : cl.slots[j.toNatClampNeg]? = some (.int v) := by
  obtain ⟨x, y, e1, e2, k1, k2⟩ := cmp_v (Or.inl h)
  cases Option.some.inj (e2.symm.trans (Term.int_eval v))
  obtain ⟨z, rfl⟩ := k2
  have q := gotT (Cond.eq_ints e1 (Term.int_eval v)) h
  subst q
  exact (elem_in e1 ev (Term.int_eval j) A.1).2
end New
end Jvm.RoadKit
namespace Jvm.Pilot.@@N@@
open Jvm Jvm.ClassFile Sem Op Lib Jvm.Free Jvm.Stand Jvm.LawKit Jvm.RoadKit Bundle Jvm.Pilot.@@N@@.Jvm.D
theorem ww {av : Array Value} {Z : State} (hw : ∀ d ∈ tables_1, d.before av Z = true) (i : Nat) {d : Jvm.Cond} (h : tables_1[i]? = some d) : d.before av Z = true := hw _ (List.mem_of_getElem? h)
theorem own_nat (z : Int32) (n : Nat) (hn : n ≤ 2147483648) (h0 : 0 ≤ z.toInt) (h1 : z.toInt < n) : ∃ k : Nat, k < n ∧ z = Int32.ofNat k := by
  refine ⟨z.toInt.toNat, by omega, ?_⟩
  apply Int32.toInt_inj.mp
  rw [Int32.toInt_ofNat_of_lt (by omega)]
  omega
theorem own_i2c (z : Int32) (h0 : 0 ≤ z.toInt) (h1 : z.toInt < 65536) : z.toUInt32.toUInt16.toUInt32.toInt32 = z := by
  apply Int32.toInt_inj.mp
  have := c_i2c z
  omega
theorem own_asym32 {x y : Int32} (h : y < x) : ¬ x < y := fun q => by rw [Int32.lt_iff_toInt_lt] at *; omega
theorem own_asym64 {x y : Int64} (h : y < x) : ¬ x < y := fun q => by rw [Int64.lt_iff_toInt_lt] at *; omega
theorem own_irr32 {x y : Int32} (h : x = y) : ¬ x < y := fun q => by rw [Int32.lt_iff_toInt_lt] at *; subst h; omega
theorem own_irr64 {x y : Int64} (h : x = y) : ¬ x < y := fun q => by rw [Int64.lt_iff_toInt_lt] at *; subst h; omega
theorem own_tri32 {x y : Int32} (h : ¬ y < x) (g : ¬ x = y) : x < y := by
  rw [← Int32.toInt_inj] at g; rw [Int32.lt_iff_toInt_lt] at *; omega
theorem own_tri64 {x y : Int64} (h : ¬ y < x) (g : ¬ x = y) : x < y := by
  rw [← Int64.toInt_inj] at g; rw [Int64.lt_iff_toInt_lt] at *; omega
theorem own_nlt32 {x y : Int32} (h : x < y) : ¬ x = y := fun q => own_irr32 q h
theorem own_nlt64 {x y : Int64} (h : x < y) : ¬ x = y := fun q => own_irr64 q h
theorem own_ngt32 {x y : Int32} (h : y < x) : ¬ x = y := fun q => own_irr32 q.symm h
theorem own_ngt64 {x y : Int64} (h : y < x) : ¬ x = y := fun q => own_irr64 q.symm h
theorem own_both32 {x y : Int32} (h : ¬ x < y) (g : ¬ y < x) : x = y := by
  rw [← Int32.toInt_inj]; rw [Int32.lt_iff_toInt_lt] at *; omega
theorem own_both64 {x y : Int64} (h : ¬ x < y) (g : ¬ y < x) : x = y := by
  rw [← Int64.toInt_inj]; rw [Int64.lt_iff_toInt_lt] at *; omega
theorem own_rem (z d : Int32) (hd : d ≠ 0) (h0 : 0 ≤ z.toInt) (n : Nat) (hn : d.toInt = n) (hn2 : n ≤ 2147483648) : ∃ k : Nat, k < n ∧ z % d = Int32.ofNat k := by
  have hr := c_irem z d n hn
  have hn0 : n ≠ 0 := fun q => hd (Int32.toInt_inj.mp (by rw [hn, q]; rfl))
  have h1 := hr.1 h0
  have h2 : 0 ≤ z.toInt % (n : Int) := Int.emod_nonneg _ (by omega)
  have h3 : z.toInt % (n : Int) < n := Int.emod_lt_of_pos _ (by omega)
  exact own_nat _ n hn2 (by omega) (by omega)
theorem own_ALt32 {e j k : Int32} (h : e < j) (q : j.toInt ≤ k.toInt) : e < k := by
  rw [Int32.lt_iff_toInt_lt] at *; omega
theorem own_AGf32 {e j k : Int32} (h : e < j) (q : j.toInt ≤ k.toInt + 1) : ¬ k < e := by
  rw [Int32.lt_iff_toInt_lt] at *; omega
theorem own_AEf32 {e j k : Int32} (h : e < j) (q : j.toInt ≤ k.toInt) : ¬ e = k := by
  intro z; subst z; rw [Int32.lt_iff_toInt_lt] at h; omega
theorem own_BLf32 {e j k : Int32} (h : ¬ e < j) (q : k.toInt ≤ j.toInt) : ¬ e < k := by
  rw [Int32.lt_iff_toInt_lt] at *; omega
theorem own_BGt32 {e j k : Int32} (h : ¬ e < j) (q : k.toInt < j.toInt) : k < e := by
  rw [Int32.lt_iff_toInt_lt] at *; omega
theorem own_BEf32 {e j k : Int32} (h : ¬ e < j) (q : k.toInt < j.toInt) : ¬ e = k := by
  intro z; subst z; rw [Int32.lt_iff_toInt_lt] at h; omega
theorem own_CLf32 {e j k : Int32} (h : j < e) (q : k.toInt ≤ j.toInt + 1) : ¬ e < k := by
  rw [Int32.lt_iff_toInt_lt] at *; omega
theorem own_CGt32 {e j k : Int32} (h : j < e) (q : k.toInt ≤ j.toInt) : k < e := by
  rw [Int32.lt_iff_toInt_lt] at *; omega
theorem own_CEf32 {e j k : Int32} (h : j < e) (q : k.toInt ≤ j.toInt) : ¬ e = k := by
  intro z; subst z; rw [Int32.lt_iff_toInt_lt] at h; omega
theorem own_DLt32 {e j k : Int32} (h : ¬ j < e) (q : j.toInt < k.toInt) : e < k := by
  rw [Int32.lt_iff_toInt_lt] at *; omega
theorem own_DGf32 {e j k : Int32} (h : ¬ j < e) (q : j.toInt ≤ k.toInt) : ¬ k < e := by
  rw [Int32.lt_iff_toInt_lt] at *; omega
theorem own_DEf32 {e j k : Int32} (h : ¬ j < e) (q : j.toInt < k.toInt) : ¬ e = k := by
  intro z; subst z; rw [Int32.lt_iff_toInt_lt] at h; omega
theorem own_eqEt32 {e j k : Int32} (h : e = j) (q : j = k) : e = k := by rw [h]; exact q
theorem own_eqEf32 {e j k : Int32} (h : e = j) (q : ¬ j = k) : ¬ e = k := by rw [h]; exact q
theorem own_eqLt32 {e j k : Int32} (h : e = j) (q : j < k) : e < k := by rw [h]; exact q
theorem own_eqLf32 {e j k : Int32} (h : e = j) (q : ¬ j < k) : ¬ e < k := by rw [h]; exact q
theorem own_eqGt32 {e j k : Int32} (h : e = j) (q : k < j) : k < e := by rw [h]; exact q
theorem own_eqGf32 {e j k : Int32} (h : e = j) (q : ¬ k < j) : ¬ k < e := by rw [h]; exact q
theorem own_ALt64 {e j k : Int64} (h : e < j) (q : j.toInt ≤ k.toInt) : e < k := by
  rw [Int64.lt_iff_toInt_lt] at *; omega
theorem own_AGf64 {e j k : Int64} (h : e < j) (q : j.toInt ≤ k.toInt + 1) : ¬ k < e := by
  rw [Int64.lt_iff_toInt_lt] at *; omega
theorem own_AEf64 {e j k : Int64} (h : e < j) (q : j.toInt ≤ k.toInt) : ¬ e = k := by
  intro z; subst z; rw [Int64.lt_iff_toInt_lt] at h; omega
theorem own_BLf64 {e j k : Int64} (h : ¬ e < j) (q : k.toInt ≤ j.toInt) : ¬ e < k := by
  rw [Int64.lt_iff_toInt_lt] at *; omega
theorem own_BGt64 {e j k : Int64} (h : ¬ e < j) (q : k.toInt < j.toInt) : k < e := by
  rw [Int64.lt_iff_toInt_lt] at *; omega
theorem own_BEf64 {e j k : Int64} (h : ¬ e < j) (q : k.toInt < j.toInt) : ¬ e = k := by
  intro z; subst z; rw [Int64.lt_iff_toInt_lt] at h; omega
theorem own_CLf64 {e j k : Int64} (h : j < e) (q : k.toInt ≤ j.toInt + 1) : ¬ e < k := by
  rw [Int64.lt_iff_toInt_lt] at *; omega
theorem own_CGt64 {e j k : Int64} (h : j < e) (q : k.toInt ≤ j.toInt) : k < e := by
  rw [Int64.lt_iff_toInt_lt] at *; omega
theorem own_CEf64 {e j k : Int64} (h : j < e) (q : k.toInt ≤ j.toInt) : ¬ e = k := by
  intro z; subst z; rw [Int64.lt_iff_toInt_lt] at h; omega
theorem own_DLt64 {e j k : Int64} (h : ¬ j < e) (q : j.toInt < k.toInt) : e < k := by
  rw [Int64.lt_iff_toInt_lt] at *; omega
theorem own_DGf64 {e j k : Int64} (h : ¬ j < e) (q : j.toInt ≤ k.toInt) : ¬ k < e := by
  rw [Int64.lt_iff_toInt_lt] at *; omega
theorem own_DEf64 {e j k : Int64} (h : ¬ j < e) (q : j.toInt < k.toInt) : ¬ e = k := by
  intro z; subst z; rw [Int64.lt_iff_toInt_lt] at h; omega
theorem own_eqEt64 {e j k : Int64} (h : e = j) (q : j = k) : e = k := by rw [h]; exact q
theorem own_eqEf64 {e j k : Int64} (h : e = j) (q : ¬ j = k) : ¬ e = k := by rw [h]; exact q
theorem own_eqLt64 {e j k : Int64} (h : e = j) (q : j < k) : e < k := by rw [h]; exact q
theorem own_eqLf64 {e j k : Int64} (h : e = j) (q : ¬ j < k) : ¬ e < k := by rw [h]; exact q
theorem own_eqGt64 {e j k : Int64} (h : e = j) (q : k < j) : k < e := by rw [h]; exact q
theorem own_eqGf64 {e j k : Int64} (h : e = j) (q : ¬ k < j) : ¬ k < e := by rw [h]; exact q
theorem d5_0 : decode jdk_29_method_65_code 0 = .ok (.iload_n 0, 1) := by decide +kernel
theorem d5_1 : decode jdk_29_method_65_code 1 = .ok (.iload_n 1, 1) := by decide +kernel
theorem d5_2 : decode jdk_29_method_65_code 2 = .ok (.if_icmp .lt 7, 3) := by decide +kernel
theorem d5_5 : decode jdk_29_method_65_code 5 = .ok (.iload_n 0, 1) := by decide +kernel
theorem d5_6 : decode jdk_29_method_65_code 6 = .ok (.goto 4, 3) := by decide +kernel
theorem d5_9 : decode jdk_29_method_65_code 9 = .ok (.iload_n 1, 1) := by decide +kernel
theorem d5_10 : decode jdk_29_method_65_code 10 = .ok (.ireturn, 1) := by decide +kernel
theorem ef_rm5 (m : MethodId) (p0 : Int32) (p1 : Int32) : entryFrame m #[(.int p0), (.int p1)] 2 = mkF m 0 #[.val (.int p0), .val (.int p1)] [] := by first | (simp [entryFrame, mkF, argsToLocals, Value.category]; done) | rfl
def fMax (p0 : Int32) (p1 : Int32) : Int32 := (if p0 < p1 then p1 else p0)
def Q_rm5 (Z : State) (p0 : Int32) (p1 : Int32) (h0 : Heap) (n0 : Nat) (v : Option Value) (h : Heap) (L : List Loc) : Prop := v = some (.int (fMax p0 p1)) ∧ Fr n0 L ∧ h = h0
set_option maxRecDepth 65536 in
set_option maxHeartbeats 40000000 in
theorem rm5 (l : Launch) (Z : State) (av0 : Array Value) (hw : ∀ d ∈ tables_1, d.before av0 Z = true) (ws : List Jvm.Cond) (p0 : Int32) (p1 : Int32) (h0 : Heap) (n0 : Nat) (Z0 : n0 ≤ h0.size)  :
    MetFree l (⟨"java/lang/Math", "max", "(II)I"⟩ : MethodName) (head1 (Jvm.Cond.code (⟨"java/lang/Math", "max", "(II)I"⟩ : MethodName) jdk_29_method_65_code 2 (some .int) :: ws) ({ frames := 0, cells := 0, slots := 0, locals := 0 } : Room)) (fun a U => a = #[(.int p0), (.int p1)] ∧ Z.Warmed39 U.vm ∧ U.heap = h0) (fun _ _ _ _ _ => True) (fun _ U o U' => ∃ v L, o = .returned v ∧ Q_rm5 Z p0 p1 h0 n0 v U'.heap L ∧ FrameEnd U o U' L ({ frames := 0, cells := 0, slots := 0, locals := 0 } : Room).cells ({ frames := 0, cells := 0, slots := 0, locals := 0 } : Room).slots) := by
  refine MetFree.of_bodySF (Jvm.Free.JP.mathPlain rfl (by decide +kernel)) hisR ?_
  intro p e s m args below meth c s₁ Bd hml0 hP hK
  obtain ⟨rfl, hZ, hh⟩ := hP
  have hx := Bd.exec
  have hby := Bd.bytes
  have hml : c.maxLocals = 2 := hml0
  have dd : ∀ {pc : Nat} {r : Except DecodeError (Instr × Nat)}, decode jdk_29_method_65_code pc = r → decode c.code pc = r := fun q => hb hby q
  have hown : s.vm.findClass "java/lang/Math" = some m.cls := findClass_of_methodNamed Bd.named
  have hnm := (name_of_methodNamed Bd.named Bd.method).1
  have X0 : Stand p l e ({ frames := 0, cells := 0, slots := 0, locals := 0 } : Room) s m #[(.int p0), (.int p1)] below meth c s₁ [] 0 0 := Stand.of_body Bd
  have e0 : s₁.heap = h0 := by rw [← hh, Bd.state]; rfl
  have N0 := Fr.nil n0
  have hret := Bd.returns
  have hlk := Bd.notSynchronized
  show Gz p e below s ({ frames := 0, cells := 0, slots := 0, locals := 0 } : Room).cells ({ frames := 0, cells := 0, slots := 0, locals := 0 } : Room).slots (Q_rm5 Z p0 p1 h0 n0) (s₁.setTop (entryFrame m #[(.int p0), (.int p1)] 2))
  refine Gz.enter (ef_rm5 m p0 p1) ?_
  refine Gz.iloadN 1 X0 hx (dd d5_0) rfl rfl ?_
  refine Gz.iloadN 2 X0 hx (dd d5_1) rfl rfl ?_
  by_cases hc1 : p0 < p1
  · refine Gz.icmpYes 9 X0 hx (dd d5_2) (tlt hc1).1 (by decide) (by decide) ?_
    refine Gz.iloadN 10 X0 hx (dd d5_9) rfl rfl ?_
    refine Gz.fin X0 (v := some (.int p1)) (fun h => by rw [hret] at h; cases h) hlk (by decide) (by decide) (fun fs hr => retI X0 hx hret (dd d5_10) hr) ?_
    rw [e0]
    exact ⟨(by unfold fMax; rw [if_pos hc1]), N0, rfl⟩
  · refine Gz.icmpNo 5 X0 hx (dd d5_2) (flt hc1).1 rfl ?_
    refine Gz.iloadN 6 X0 hx (dd d5_5) rfl rfl ?_
    refine Gz.goto 10 X0 hx (dd d5_6) (by decide) (by decide) ?_
    refine Gz.fin X0 (v := some (.int p0)) (fun h => by rw [hret] at h; cases h) hlk (by decide) (by decide) (fun fs hr => retI X0 hx hret (dd d5_10) hr) ?_
    rw [e0]
    exact ⟨(by unfold fMax; rw [if_neg hc1]), N0, rfl⟩
theorem d3_0 : decode prog_43_method_2_code 0 = .ok (.lconst 0, 1) := by decide +kernel
theorem d3_1 : decode prog_43_method_2_code 1 = .ok (.lstore_n 1, 1) := by decide +kernel
theorem d3_2 : decode prog_43_method_2_code 2 = .ok (.lconst 0, 1) := by decide +kernel
theorem d3_3 : decode prog_43_method_2_code 3 = .ok (.lstore_n 3, 1) := by decide +kernel
theorem d3_4 : decode prog_43_method_2_code 4 = .ok (.aload_n 0, 1) := by decide +kernel
theorem d3_5 : decode prog_43_method_2_code 5 = .ok (.astore 5, 2) := by decide +kernel
theorem d3_7 : decode prog_43_method_2_code 7 = .ok (.aload 5, 2) := by decide +kernel
theorem d3_9 : decode prog_43_method_2_code 9 = .ok (.arraylength, 1) := by decide +kernel
theorem d3_10 : decode prog_43_method_2_code 10 = .ok (.istore 6, 2) := by decide +kernel
theorem d3_12 : decode prog_43_method_2_code 12 = .ok (.iconst 0, 1) := by decide +kernel
theorem d3_13 : decode prog_43_method_2_code 13 = .ok (.istore 7, 2) := by decide +kernel
theorem d3_15 : decode prog_43_method_2_code 15 = .ok (.iload 7, 2) := by decide +kernel
theorem d3_17 : decode prog_43_method_2_code 17 = .ok (.iload 6, 2) := by decide +kernel
theorem d3_19 : decode prog_43_method_2_code 19 = .ok (.if_icmp .ge 30, 3) := by decide +kernel
theorem d3_49 : decode prog_43_method_2_code 49 = .ok (.lload_n 1, 1) := by decide +kernel
theorem d3_50 : decode prog_43_method_2_code 50 = .ok (.lreturn, 1) := by decide +kernel
theorem pn_0 : plainName "com/example/minsuite/minsuite/ValuePairs" = true := by first | (simp [plainName, overriddenIn]; done) | decide +kernel
theorem ef_rmC0 (m : MethodId) (a0 : Addr) : entryFrame m #[(.ref a0)] 9 = mkF m 0 #[.val (.ref a0), .unset, .unset, .unset, .unset, .unset, .unset, .unset, .unset] [] := by first | (simp [entryFrame, mkF, argsToLocals, Value.category]; done) | rfl
def fC0 (a0 : Addr) : Int64 := (0 : Int64)
def Q_rmC0 (Z : State) (a0 : Addr) (k_a0 : ClassId) (h0 : Heap) (n0 : Nat) (v : Option Value) (h : Heap) (L : List Loc) : Prop := v = some (.long (fC0 a0)) ∧ Fr n0 L ∧ h = h0
set_option maxRecDepth 65536 in
set_option maxHeartbeats 40000000 in
theorem rmC0 (l : Launch) (Z : State) (av0 : Array Value) (hw : ∀ d ∈ tables_1, d.before av0 Z = true) (ws : List Jvm.Cond) (a0 : Addr) (k_a0 : ClassId) (h0 : Heap) (n0 : Nat) (Z0 : n0 ≤ h0.size) (V_a0 : Arv Z h0 a0 k_a0 .int (0 : Int32) [] (.int (0 : Int32))) :
    MetFree l (⟨"com/example/minsuite/minsuite/ValuePairs", "count", "([I)J"⟩ : MethodName) (head1 (Jvm.Cond.code (⟨"com/example/minsuite/minsuite/ValuePairs", "count", "([I)J"⟩ : MethodName) prog_43_method_2_code 9 (some .long) :: ws) ({ frames := 0, cells := 0, slots := 0, locals := 0 } : Room)) (fun a U => a = #[(.ref a0)] ∧ Z.Warmed39 U.vm ∧ U.heap = h0) (fun _ _ _ _ _ => True) (fun _ U o U' => ∃ v L, o = .returned v ∧ Q_rmC0 Z a0 k_a0 h0 n0 v U'.heap L ∧ FrameEnd U o U' L ({ frames := 0, cells := 0, slots := 0, locals := 0 } : Room).cells ({ frames := 0, cells := 0, slots := 0, locals := 0 } : Room).slots) := by
  refine MetFree.of_bodySF (plainFor_of_name pn_0) hisR ?_
  intro p e s m args below meth c s₁ Bd hml0 hP hK
  obtain ⟨rfl, hZ, hh⟩ := hP
  have hx := Bd.exec
  have hby := Bd.bytes
  have hml : c.maxLocals = 9 := hml0
  have dd : ∀ {pc : Nat} {r : Except DecodeError (Instr × Nat)}, decode prog_43_method_2_code pc = r → decode c.code pc = r := fun q => hb hby q
  have hown : s.vm.findClass "com/example/minsuite/minsuite/ValuePairs" = some m.cls := findClass_of_methodNamed Bd.named
  have hnm := (name_of_methodNamed Bd.named Bd.method).1
  have X0 : Stand p l e ({ frames := 0, cells := 0, slots := 0, locals := 0 } : Room) s m #[(.ref a0)] below meth c s₁ [] 0 0 := Stand.of_body Bd
  have e0 : s₁.heap = h0 := by rw [← hh, Bd.state]; rfl
  have N0 := Fr.nil n0
  have hret := Bd.returns
  have hlk := Bd.notSynchronized
  show Gz p e below s ({ frames := 0, cells := 0, slots := 0, locals := 0 } : Room).cells ({ frames := 0, cells := 0, slots := 0, locals := 0 } : Room).slots (Q_rmC0 Z a0 k_a0 h0 n0) (s₁.setTop (entryFrame m #[(.ref a0)] 9))
  refine Gz.enter (ef_rmC0 m a0) ?_
  refine Gz.lconst 1 (0 : Int64) X0 hx (dd d3_0) rfl rfl ?_
  refine Gz.lstoreN 2 #[.val (.ref a0), .val (.long (0 : Int64)), .second, .unset, .unset, .unset, .unset, .unset, .unset] X0 hx (dd d3_1) rfl rfl ?_
  refine Gz.lconst 3 (0 : Int64) X0 hx (dd d3_2) rfl rfl ?_
  refine Gz.lstoreN 4 #[.val (.ref a0), .val (.long (0 : Int64)), .second, .val (.long (0 : Int64)), .second, .unset, .unset, .unset, .unset] X0 hx (dd d3_3) rfl rfl ?_
  refine Gz.aloadN 5 X0 hx (dd d3_4) rfl rfl rfl ?_
  refine Gz.astore 7 #[.val (.ref a0), .val (.long (0 : Int64)), .second, .val (.long (0 : Int64)), .second, .val (.ref a0), .unset, .unset, .unset] X0 hx (dd d3_5) rfl rfl rfl ?_
  refine Gz.aload 9 X0 hx (dd d3_7) rfl rfl rfl ?_
  obtain ⟨c1, A1, -, S1, N1, -, -⟩ := id V_a0
  refine Gz.alen 10 X0 hx hZ (dd d3_9) e0 A1 S1 N1 rfl ?_
  refine Gz.istore 12 #[.val (.ref a0), .val (.long (0 : Int64)), .second, .val (.long (0 : Int64)), .second, .val (.ref a0), .val (.int (0 : Int32)), .unset, .unset] X0 hx (dd d3_10) rfl rfl ?_
  refine Gz.iconst 13 (0 : Int32) X0 hx (dd d3_12) rfl rfl ?_
  refine Gz.istore 15 #[.val (.ref a0), .val (.long (0 : Int64)), .second, .val (.long (0 : Int64)), .second, .val (.ref a0), .val (.int (0 : Int32)), .val (.int (0 : Int32)), .unset] X0 hx (dd d3_13) rfl rfl ?_
  refine Gz.iload 17 X0 hx (dd d3_15) rfl rfl ?_
  refine Gz.iload 19 X0 hx (dd d3_17) rfl rfl ?_
  refine Gz.icmpYes 49 X0 hx (dd d3_19) (flt (by decide : ¬ ((0 : Int32) < (0 : Int32)))).2.1 (by decide) (by decide) ?_
  refine Gz.lloadN 50 X0 hx (dd d3_49) rfl rfl ?_
  refine Gz.fin X0 (v := some (.long (0 : Int64))) (fun h => by rw [hret] at h; cases h) hlk (by decide) (by decide) (fun fs hr => retJ X0 hx hret (dd d3_50) hr) ?_
  rw [e0]
  exact ⟨rfl, N0, rfl⟩
theorem d4_0 : decode prog_43_method_6_code 0 = .ok (.iconst 0, 1) := by decide +kernel
theorem d4_1 : decode prog_43_method_6_code 1 = .ok (.istore_n 1, 1) := by decide +kernel
theorem d4_2 : decode prog_43_method_6_code 2 = .ok (.aload_n 0, 1) := by decide +kernel
theorem d4_3 : decode prog_43_method_6_code 3 = .ok (.getfield 32, 3) := by decide +kernel
theorem d4_6 : decode prog_43_method_6_code 6 = .ok (.astore_n 2, 1) := by decide +kernel
theorem d4_7 : decode prog_43_method_6_code 7 = .ok (.aload_n 2, 1) := by decide +kernel
theorem d4_8 : decode prog_43_method_6_code 8 = .ok (.arraylength, 1) := by decide +kernel
theorem d4_9 : decode prog_43_method_6_code 9 = .ok (.istore_n 3, 1) := by decide +kernel
theorem d4_10 : decode prog_43_method_6_code 10 = .ok (.iconst 0, 1) := by decide +kernel
theorem d4_11 : decode prog_43_method_6_code 11 = .ok (.istore 4, 2) := by decide +kernel
theorem d4_13 : decode prog_43_method_6_code 13 = .ok (.iload 4, 2) := by decide +kernel
theorem d4_15 : decode prog_43_method_6_code 15 = .ok (.iload_n 3, 1) := by decide +kernel
theorem d4_16 : decode prog_43_method_6_code 16 = .ok (.if_icmp .ge 20, 3) := by decide +kernel
theorem d4_36 : decode prog_43_method_6_code 36 = .ok (.iload_n 1, 1) := by decide +kernel
theorem d4_37 : decode prog_43_method_6_code 37 = .ok (.ireturn, 1) := by decide +kernel
theorem ef_rmA0 (m : MethodId) (a0 : Addr) : entryFrame m #[(.ref a0)] 6 = mkF m 0 #[.val (.ref a0), .unset, .unset, .unset, .unset, .unset] [] := by first | (simp [entryFrame, mkF, argsToLocals, Value.category]; done) | rfl
def fA0 (a0 : Addr) (ac : Addr) : Int32 := (0 : Int32)
def Q_rmA0 (Z : State) (a0 : Addr) (ac : Addr) (k_ac : ClassId) (h0 : Heap) (n0 : Nat) (v : Option Value) (h : Heap) (L : List Loc) : Prop := v = some (.int (fA0 a0 ac)) ∧ Fr n0 L ∧ h = h0
set_option maxRecDepth 65536 in
set_option maxHeartbeats 40000000 in
theorem rmA0 (l : Launch) (Z : State) (av0 : Array Value) (hw : ∀ d ∈ tables_1, d.before av0 Z = true) (ws : List Jvm.Cond) (a0 : Addr) (ac : Addr) (k_ac : ClassId) (h0 : Heap) (n0 : Nat) (Z0 : n0 ≤ h0.size) (F_valueCounts_a0 : Fld Z h0 a0 "com/example/minsuite/minsuite/ValuePairs" "valueCounts" "[I" (.ref ac)) (V_ac : Arv Z h0 ac k_ac .int (0 : Int32) [] (.int (0 : Int32))) :
    MetFree l (⟨"com/example/minsuite/minsuite/ValuePairs", "allValues", "()I"⟩ : MethodName) (head1 (Jvm.Cond.code (⟨"com/example/minsuite/minsuite/ValuePairs", "allValues", "()I"⟩ : MethodName) prog_43_method_6_code 6 (some .int) :: ws) ({ frames := 0, cells := 0, slots := 0, locals := 0 } : Room)) (fun a U => a = #[(.ref a0)] ∧ Z.Warmed39 U.vm ∧ U.heap = h0) (fun _ _ _ _ _ => True) (fun _ U o U' => ∃ v L, o = .returned v ∧ Q_rmA0 Z a0 ac k_ac h0 n0 v U'.heap L ∧ FrameEnd U o U' L ({ frames := 0, cells := 0, slots := 0, locals := 0 } : Room).cells ({ frames := 0, cells := 0, slots := 0, locals := 0 } : Room).slots) := by
  refine MetFree.of_bodySF (plainFor_of_name pn_0) hisR ?_
  intro p e s m args below meth c s₁ Bd hml0 hP hK
  obtain ⟨rfl, hZ, hh⟩ := hP
  have hx := Bd.exec
  have hby := Bd.bytes
  have hml : c.maxLocals = 6 := hml0
  have dd : ∀ {pc : Nat} {r : Except DecodeError (Instr × Nat)}, decode prog_43_method_6_code pc = r → decode c.code pc = r := fun q => hb hby q
  have hown : s.vm.findClass "com/example/minsuite/minsuite/ValuePairs" = some m.cls := findClass_of_methodNamed Bd.named
  have hnm := (name_of_methodNamed Bd.named Bd.method).1
  have X0 : Stand p l e ({ frames := 0, cells := 0, slots := 0, locals := 0 } : Room) s m #[(.ref a0)] below meth c s₁ [] 0 0 := Stand.of_body Bd
  have e0 : s₁.heap = h0 := by rw [← hh, Bd.state]; rfl
  have N0 := Fr.nil n0
  have hret := Bd.returns
  have hlk := Bd.notSynchronized
  show Gz p e below s ({ frames := 0, cells := 0, slots := 0, locals := 0 } : Room).cells ({ frames := 0, cells := 0, slots := 0, locals := 0 } : Room).slots (Q_rmA0 Z a0 ac k_ac h0 n0) (s₁.setTop (entryFrame m #[(.ref a0)] 6))
  refine Gz.enter (ef_rmA0 m a0) ?_
  refine Gz.iconst 1 (0 : Int32) X0 hx (dd d4_0) rfl rfl ?_
  refine Gz.istoreN 2 #[.val (.ref a0), .val (.int (0 : Int32)), .unset, .unset, .unset, .unset] X0 hx (dd d4_1) rfl rfl ?_
  refine Gz.aloadN 3 X0 hx (dd d4_2) rfl rfl rfl ?_
  refine Gz.getF 6 X0 hx hZ hown (dd d4_3) (host := "") (Or.inl (ww hw 23 rfl)) Via.refl e0 F_valueCounts_a0 rfl fun T1 X1 e1 => ?_
  refine Gz.astoreN 7 #[.val (.ref a0), .val (.int (0 : Int32)), .val (.ref ac), .unset, .unset, .unset] X1 hx (dd d4_6) rfl rfl rfl ?_
  refine Gz.aloadN 8 X1 hx (dd d4_7) rfl rfl rfl ?_
  obtain ⟨c2, A2, -, S2, N2, -, -⟩ := id V_ac
  refine Gz.alen 9 X1 hx hZ (dd d4_8) e1 A2 S2 N2 rfl ?_
  refine Gz.istoreN 10 #[.val (.ref a0), .val (.int (0 : Int32)), .val (.ref ac), .val (.int (0 : Int32)), .unset, .unset] X1 hx (dd d4_9) rfl rfl ?_
  refine Gz.iconst 11 (0 : Int32) X1 hx (dd d4_10) rfl rfl ?_
  refine Gz.istore 13 #[.val (.ref a0), .val (.int (0 : Int32)), .val (.ref ac), .val (.int (0 : Int32)), .val (.int (0 : Int32)), .unset] X1 hx (dd d4_11) rfl rfl ?_
  refine Gz.iload 15 X1 hx (dd d4_13) rfl rfl ?_
  refine Gz.iloadN 16 X1 hx (dd d4_15) rfl rfl ?_
  refine Gz.icmpYes 36 X1 hx (dd d4_16) (flt (by decide : ¬ ((0 : Int32) < (0 : Int32)))).2.1 (by decide) (by decide) ?_
  refine Gz.iloadN 37 X1 hx (dd d4_36) rfl rfl ?_
  refine Gz.fin X1 (v := some (.int (0 : Int32))) (fun h => by rw [hret] at h; cases h) hlk (by decide) (by decide) (fun fs hr => retI X1 hx hret (dd d4_37) hr) ?_
  rw [e1]
  exact ⟨rfl, N0, rfl⟩
theorem d3_22 : decode prog_43_method_2_code 22 = .ok (.aload 5, 2) := by decide +kernel
theorem d3_24 : decode prog_43_method_2_code 24 = .ok (.iload 7, 2) := by decide +kernel
theorem d3_26 : decode prog_43_method_2_code 26 = .ok (.iaload, 1) := by decide +kernel
theorem d3_27 : decode prog_43_method_2_code 27 = .ok (.istore 8, 2) := by decide +kernel
theorem d3_29 : decode prog_43_method_2_code 29 = .ok (.lload_n 1, 1) := by decide +kernel
theorem d3_30 : decode prog_43_method_2_code 30 = .ok (.lload_n 3, 1) := by decide +kernel
theorem d3_31 : decode prog_43_method_2_code 31 = .ok (.iload 8, 2) := by decide +kernel
theorem d3_33 : decode prog_43_method_2_code 33 = .ok (.i2l, 1) := by decide +kernel
theorem d3_34 : decode prog_43_method_2_code 34 = .ok (.lmul, 1) := by decide +kernel
theorem d3_35 : decode prog_43_method_2_code 35 = .ok (.ladd, 1) := by decide +kernel
theorem d3_36 : decode prog_43_method_2_code 36 = .ok (.lstore_n 1, 1) := by decide +kernel
theorem d3_37 : decode prog_43_method_2_code 37 = .ok (.lload_n 3, 1) := by decide +kernel
theorem d3_38 : decode prog_43_method_2_code 38 = .ok (.iload 8, 2) := by decide +kernel
theorem d3_40 : decode prog_43_method_2_code 40 = .ok (.i2l, 1) := by decide +kernel
theorem d3_41 : decode prog_43_method_2_code 41 = .ok (.ladd, 1) := by decide +kernel
theorem d3_42 : decode prog_43_method_2_code 42 = .ok (.lstore_n 3, 1) := by decide +kernel
theorem d3_43 : decode prog_43_method_2_code 43 = .ok (.iinc 7 1, 3) := by decide +kernel
theorem d3_46 : decode prog_43_method_2_code 46 = .ok (.goto (-31), 3) := by decide +kernel
theorem ef_rmC1 (m : MethodId) (a0 : Addr) : entryFrame m #[(.ref a0)] 9 = mkF m 0 #[.val (.ref a0), .unset, .unset, .unset, .unset, .unset, .unset, .unset, .unset] [] := by first | (simp [entryFrame, mkF, argsToLocals, Value.category]; done) | rfl
def fC1 (a0 : Addr) (v0 : Int32) : Int64 := ((0 : Int64) + ((0 : Int64) * (v0.toInt64)))
def Q_rmC1 (Z : State) (a0 : Addr) (k_a0 : ClassId) (v0 : Int32) (h0 : Heap) (n0 : Nat) (v : Option Value) (h : Heap) (L : List Loc) : Prop := v = some (.long (fC1 a0 v0)) ∧ Fr n0 L ∧ h = h0
set_option maxRecDepth 65536 in
set_option maxHeartbeats 40000000 in
theorem rmC1 (l : Launch) (Z : State) (av0 : Array Value) (hw : ∀ d ∈ tables_1, d.before av0 Z = true) (ws : List Jvm.Cond) (a0 : Addr) (k_a0 : ClassId) (v0 : Int32) (h0 : Heap) (n0 : Nat) (Z0 : n0 ≤ h0.size) (V_a0 : Arv Z h0 a0 k_a0 .int (1 : Int32) [(.int v0)] (.int (0 : Int32))) :
    MetFree l (⟨"com/example/minsuite/minsuite/ValuePairs", "count", "([I)J"⟩ : MethodName) (head1 (Jvm.Cond.code (⟨"com/example/minsuite/minsuite/ValuePairs", "count", "([I)J"⟩ : MethodName) prog_43_method_2_code 9 (some .long) :: ws) ({ frames := 0, cells := 0, slots := 0, locals := 0 } : Room)) (fun a U => a = #[(.ref a0)] ∧ Z.Warmed39 U.vm ∧ U.heap = h0) (fun _ _ _ _ _ => True) (fun _ U o U' => ∃ v L, o = .returned v ∧ Q_rmC1 Z a0 k_a0 v0 h0 n0 v U'.heap L ∧ FrameEnd U o U' L ({ frames := 0, cells := 0, slots := 0, locals := 0 } : Room).cells ({ frames := 0, cells := 0, slots := 0, locals := 0 } : Room).slots) := by
  refine MetFree.of_bodySF (plainFor_of_name pn_0) hisR ?_
  intro p e s m args below meth c s₁ Bd hml0 hP hK
  obtain ⟨rfl, hZ, hh⟩ := hP
  have hx := Bd.exec
  have hby := Bd.bytes
  have hml : c.maxLocals = 9 := hml0
  have dd : ∀ {pc : Nat} {r : Except DecodeError (Instr × Nat)}, decode prog_43_method_2_code pc = r → decode c.code pc = r := fun q => hb hby q
  have hown : s.vm.findClass "com/example/minsuite/minsuite/ValuePairs" = some m.cls := findClass_of_methodNamed Bd.named
  have hnm := (name_of_methodNamed Bd.named Bd.method).1
  have X0 : Stand p l e ({ frames := 0, cells := 0, slots := 0, locals := 0 } : Room) s m #[(.ref a0)] below meth c s₁ [] 0 0 := Stand.of_body Bd
  have e0 : s₁.heap = h0 := by rw [← hh, Bd.state]; rfl
  have N0 := Fr.nil n0
  have hret := Bd.returns
  have hlk := Bd.notSynchronized
  show Gz p e below s ({ frames := 0, cells := 0, slots := 0, locals := 0 } : Room).cells ({ frames := 0, cells := 0, slots := 0, locals := 0 } : Room).slots (Q_rmC1 Z a0 k_a0 v0 h0 n0) (s₁.setTop (entryFrame m #[(.ref a0)] 9))
  refine Gz.enter (ef_rmC1 m a0) ?_
  refine Gz.lconst 1 (0 : Int64) X0 hx (dd d3_0) rfl rfl ?_
  refine Gz.lstoreN 2 #[.val (.ref a0), .val (.long (0 : Int64)), .second, .unset, .unset, .unset, .unset, .unset, .unset] X0 hx (dd d3_1) rfl rfl ?_
  refine Gz.lconst 3 (0 : Int64) X0 hx (dd d3_2) rfl rfl ?_
  refine Gz.lstoreN 4 #[.val (.ref a0), .val (.long (0 : Int64)), .second, .val (.long (0 : Int64)), .second, .unset, .unset, .unset, .unset] X0 hx (dd d3_3) rfl rfl ?_
  refine Gz.aloadN 5 X0 hx (dd d3_4) rfl rfl rfl ?_
  refine Gz.astore 7 #[.val (.ref a0), .val (.long (0 : Int64)), .second, .val (.long (0 : Int64)), .second, .val (.ref a0), .unset, .unset, .unset] X0 hx (dd d3_5) rfl rfl rfl ?_
  refine Gz.aload 9 X0 hx (dd d3_7) rfl rfl rfl ?_
  obtain ⟨c1, A1, -, S1, N1, -, -⟩ := id V_a0
  refine Gz.alen 10 X0 hx hZ (dd d3_9) e0 A1 S1 N1 rfl ?_
  refine Gz.istore 12 #[.val (.ref a0), .val (.long (0 : Int64)), .second, .val (.long (0 : Int64)), .second, .val (.ref a0), .val (.int (1 : Int32)), .unset, .unset] X0 hx (dd d3_10) rfl rfl ?_
  refine Gz.iconst 13 (0 : Int32) X0 hx (dd d3_12) rfl rfl ?_
  refine Gz.istore 15 #[.val (.ref a0), .val (.long (0 : Int64)), .second, .val (.long (0 : Int64)), .second, .val (.ref a0), .val (.int (1 : Int32)), .val (.int (0 : Int32)), .unset] X0 hx (dd d3_13) rfl rfl ?_
  refine Gz.iload 17 X0 hx (dd d3_15) rfl rfl ?_
  refine Gz.iload 19 X0 hx (dd d3_17) rfl rfl ?_
  refine Gz.icmpNo 22 X0 hx (dd d3_19) (tlt (by decide : (0 : Int32) < (1 : Int32))).2.1 rfl ?_
  refine Gz.aload 24 X0 hx (dd d3_22) rfl rfl rfl ?_
  refine Gz.iload 26 X0 hx (dd d3_24) rfl rfl ?_
  obtain ⟨c2, A2, q2, S2, N2, H2, G2⟩ := id V_a0
  have hin2 : ¬ ((0 : Int32) < 0 ∨ c2.slots.size ≤ ((0 : Int32)).toNatClampNeg) := inb_of S2 ⟨by decide, by decide⟩
  refine Gz.ldI 27 X0 hx hZ (dd d3_26) e0 A2 hin2 (Has.at H2 hin2 (rfl : _ = ((.int v0) : Value))) rfl ?_
  refine Gz.istore 29 #[.val (.ref a0), .val (.long (0 : Int64)), .second, .val (.long (0 : Int64)), .second, .val (.ref a0), .val (.int (1 : Int32)), .val (.int (0 : Int32)), .val (.int v0)] X0 hx (dd d3_27) rfl rfl ?_
  refine Gz.lloadN 30 X0 hx (dd d3_29) rfl rfl ?_
  refine Gz.lloadN 31 X0 hx (dd d3_30) rfl rfl ?_
  refine Gz.iload 33 X0 hx (dd d3_31) rfl rfl ?_
  refine Gz.i2l 34 X0 hx (dd d3_33) rfl ?_
  refine Gz.lmul 35 X0 hx (dd d3_34) rfl ?_
  refine Gz.ladd 36 X0 hx (dd d3_35) rfl ?_
  refine Gz.lstoreN 37 #[.val (.ref a0), .val (.long ((0 : Int64) + ((0 : Int64) * (v0.toInt64)))), .second, .val (.long (0 : Int64)), .second, .val (.ref a0), .val (.int (1 : Int32)), .val (.int (0 : Int32)), .val (.int v0)] X0 hx (dd d3_36) rfl rfl ?_
  refine Gz.lloadN 38 X0 hx (dd d3_37) rfl rfl ?_
  refine Gz.iload 40 X0 hx (dd d3_38) rfl rfl ?_
  refine Gz.i2l 41 X0 hx (dd d3_40) rfl ?_
  refine Gz.ladd 42 X0 hx (dd d3_41) rfl ?_
  refine Gz.lstoreN 43 #[.val (.ref a0), .val (.long ((0 : Int64) + ((0 : Int64) * (v0.toInt64)))), .second, .val (.long ((0 : Int64) + (v0.toInt64))), .second, .val (.ref a0), .val (.int (1 : Int32)), .val (.int (0 : Int32)), .val (.int v0)] X0 hx (dd d3_42) rfl rfl ?_
  refine Gz.iinc 46 #[.val (.ref a0), .val (.long ((0 : Int64) + ((0 : Int64) * (v0.toInt64)))), .second, .val (.long ((0 : Int64) + (v0.toInt64))), .second, .val (.ref a0), .val (.int (1 : Int32)), .val (.int (1 : Int32)), .val (.int v0)] X0 hx (dd d3_43) rfl rfl rfl ?_
  refine Gz.goto 15 X0 hx (dd d3_46) (by decide) (by decide) ?_
  refine Gz.iload 17 X0 hx (dd d3_15) rfl rfl ?_
  refine Gz.iload 19 X0 hx (dd d3_17) rfl rfl ?_
  refine Gz.icmpYes 49 X0 hx (dd d3_19) (flt (by decide : ¬ ((1 : Int32) < (1 : Int32)))).2.1 (by decide) (by decide) ?_
  refine Gz.lloadN 50 X0 hx (dd d3_49) rfl rfl ?_
  refine Gz.fin X0 (v := some (.long ((0 : Int64) + ((0 : Int64) * (v0.toInt64))))) (fun h => by rw [hret] at h; cases h) hlk (by decide) (by decide) (fun fs hr => retJ X0 hx hret (dd d3_50) hr) ?_
  rw [e0]
  exact ⟨rfl, N0, rfl⟩
theorem d4_19 : decode prog_43_method_6_code 19 = .ok (.aload_n 2, 1) := by decide +kernel
theorem d4_20 : decode prog_43_method_6_code 20 = .ok (.iload 4, 2) := by decide +kernel
theorem d4_22 : decode prog_43_method_6_code 22 = .ok (.iaload, 1) := by decide +kernel
theorem d4_23 : decode prog_43_method_6_code 23 = .ok (.istore 5, 2) := by decide +kernel
theorem d4_25 : decode prog_43_method_6_code 25 = .ok (.iload_n 1, 1) := by decide +kernel
theorem d4_26 : decode prog_43_method_6_code 26 = .ok (.iload 5, 2) := by decide +kernel
theorem d4_28 : decode prog_43_method_6_code 28 = .ok (.iadd, 1) := by decide +kernel
theorem d4_29 : decode prog_43_method_6_code 29 = .ok (.istore_n 1, 1) := by decide +kernel
theorem d4_30 : decode prog_43_method_6_code 30 = .ok (.iinc 4 1, 3) := by decide +kernel
theorem d4_33 : decode prog_43_method_6_code 33 = .ok (.goto (-20), 3) := by decide +kernel
theorem ef_rmA1 (m : MethodId) (a0 : Addr) : entryFrame m #[(.ref a0)] 6 = mkF m 0 #[.val (.ref a0), .unset, .unset, .unset, .unset, .unset] [] := by first | (simp [entryFrame, mkF, argsToLocals, Value.category]; done) | rfl
def fA1 (a0 : Addr) (ac : Addr) (v0 : Int32) : Int32 := ((0 : Int32) + v0)
def Q_rmA1 (Z : State) (a0 : Addr) (ac : Addr) (k_ac : ClassId) (v0 : Int32) (h0 : Heap) (n0 : Nat) (v : Option Value) (h : Heap) (L : List Loc) : Prop := v = some (.int (fA1 a0 ac v0)) ∧ Fr n0 L ∧ h = h0
set_option maxRecDepth 65536 in
set_option maxHeartbeats 40000000 in
theorem rmA1 (l : Launch) (Z : State) (av0 : Array Value) (hw : ∀ d ∈ tables_1, d.before av0 Z = true) (ws : List Jvm.Cond) (a0 : Addr) (ac : Addr) (k_ac : ClassId) (v0 : Int32) (h0 : Heap) (n0 : Nat) (Z0 : n0 ≤ h0.size) (F_valueCounts_a0 : Fld Z h0 a0 "com/example/minsuite/minsuite/ValuePairs" "valueCounts" "[I" (.ref ac)) (V_ac : Arv Z h0 ac k_ac .int (1 : Int32) [(.int v0)] (.int (0 : Int32))) :
    MetFree l (⟨"com/example/minsuite/minsuite/ValuePairs", "allValues", "()I"⟩ : MethodName) (head1 (Jvm.Cond.code (⟨"com/example/minsuite/minsuite/ValuePairs", "allValues", "()I"⟩ : MethodName) prog_43_method_6_code 6 (some .int) :: ws) ({ frames := 0, cells := 0, slots := 0, locals := 0 } : Room)) (fun a U => a = #[(.ref a0)] ∧ Z.Warmed39 U.vm ∧ U.heap = h0) (fun _ _ _ _ _ => True) (fun _ U o U' => ∃ v L, o = .returned v ∧ Q_rmA1 Z a0 ac k_ac v0 h0 n0 v U'.heap L ∧ FrameEnd U o U' L ({ frames := 0, cells := 0, slots := 0, locals := 0 } : Room).cells ({ frames := 0, cells := 0, slots := 0, locals := 0 } : Room).slots) := by
  refine MetFree.of_bodySF (plainFor_of_name pn_0) hisR ?_
  intro p e s m args below meth c s₁ Bd hml0 hP hK
  obtain ⟨rfl, hZ, hh⟩ := hP
  have hx := Bd.exec
  have hby := Bd.bytes
  have hml : c.maxLocals = 6 := hml0
  have dd : ∀ {pc : Nat} {r : Except DecodeError (Instr × Nat)}, decode prog_43_method_6_code pc = r → decode c.code pc = r := fun q => hb hby q
  have hown : s.vm.findClass "com/example/minsuite/minsuite/ValuePairs" = some m.cls := findClass_of_methodNamed Bd.named
  have hnm := (name_of_methodNamed Bd.named Bd.method).1
  have X0 : Stand p l e ({ frames := 0, cells := 0, slots := 0, locals := 0 } : Room) s m #[(.ref a0)] below meth c s₁ [] 0 0 := Stand.of_body Bd
  have e0 : s₁.heap = h0 := by rw [← hh, Bd.state]; rfl
  have N0 := Fr.nil n0
  have hret := Bd.returns
  have hlk := Bd.notSynchronized
  show Gz p e below s ({ frames := 0, cells := 0, slots := 0, locals := 0 } : Room).cells ({ frames := 0, cells := 0, slots := 0, locals := 0 } : Room).slots (Q_rmA1 Z a0 ac k_ac v0 h0 n0) (s₁.setTop (entryFrame m #[(.ref a0)] 6))
  refine Gz.enter (ef_rmA1 m a0) ?_
  refine Gz.iconst 1 (0 : Int32) X0 hx (dd d4_0) rfl rfl ?_
  refine Gz.istoreN 2 #[.val (.ref a0), .val (.int (0 : Int32)), .unset, .unset, .unset, .unset] X0 hx (dd d4_1) rfl rfl ?_
  refine Gz.aloadN 3 X0 hx (dd d4_2) rfl rfl rfl ?_
  refine Gz.getF 6 X0 hx hZ hown (dd d4_3) (host := "") (Or.inl (ww hw 23 rfl)) Via.refl e0 F_valueCounts_a0 rfl fun T1 X1 e1 => ?_
  refine Gz.astoreN 7 #[.val (.ref a0), .val (.int (0 : Int32)), .val (.ref ac), .unset, .unset, .unset] X1 hx (dd d4_6) rfl rfl rfl ?_
  refine Gz.aloadN 8 X1 hx (dd d4_7) rfl rfl rfl ?_
  obtain ⟨c2, A2, -, S2, N2, -, -⟩ := id V_ac
  refine Gz.alen 9 X1 hx hZ (dd d4_8) e1 A2 S2 N2 rfl ?_
  refine Gz.istoreN 10 #[.val (.ref a0), .val (.int (0 : Int32)), .val (.ref ac), .val (.int (1 : Int32)), .unset, .unset] X1 hx (dd d4_9) rfl rfl ?_
  refine Gz.iconst 11 (0 : Int32) X1 hx (dd d4_10) rfl rfl ?_
  refine Gz.istore 13 #[.val (.ref a0), .val (.int (0 : Int32)), .val (.ref ac), .val (.int (1 : Int32)), .val (.int (0 : Int32)), .unset] X1 hx (dd d4_11) rfl rfl ?_
  refine Gz.iload 15 X1 hx (dd d4_13) rfl rfl ?_
  refine Gz.iloadN 16 X1 hx (dd d4_15) rfl rfl ?_
  refine Gz.icmpNo 19 X1 hx (dd d4_16) (tlt (by decide : (0 : Int32) < (1 : Int32))).2.1 rfl ?_
  refine Gz.aloadN 20 X1 hx (dd d4_19) rfl rfl rfl ?_
  refine Gz.iload 22 X1 hx (dd d4_20) rfl rfl ?_
  obtain ⟨c3, A3, q3, S3, N3, H3, G3⟩ := id V_ac
  have hin3 : ¬ ((0 : Int32) < 0 ∨ c3.slots.size ≤ ((0 : Int32)).toNatClampNeg) := inb_of S3 ⟨by decide, by decide⟩
  refine Gz.ldI 23 X1 hx hZ (dd d4_22) e1 A3 hin3 (Has.at H3 hin3 (rfl : _ = ((.int v0) : Value))) rfl ?_
  refine Gz.istore 25 #[.val (.ref a0), .val (.int (0 : Int32)), .val (.ref ac), .val (.int (1 : Int32)), .val (.int (0 : Int32)), .val (.int v0)] X1 hx (dd d4_23) rfl rfl ?_
  refine Gz.iloadN 26 X1 hx (dd d4_25) rfl rfl ?_
  refine Gz.iload 28 X1 hx (dd d4_26) rfl rfl ?_
  refine Gz.iadd 29 X1 hx (dd d4_28) rfl ?_
  refine Gz.istoreN 30 #[.val (.ref a0), .val (.int ((0 : Int32) + v0)), .val (.ref ac), .val (.int (1 : Int32)), .val (.int (0 : Int32)), .val (.int v0)] X1 hx (dd d4_29) rfl rfl ?_
  refine Gz.iinc 33 #[.val (.ref a0), .val (.int ((0 : Int32) + v0)), .val (.ref ac), .val (.int (1 : Int32)), .val (.int (1 : Int32)), .val (.int v0)] X1 hx (dd d4_30) rfl rfl rfl ?_
  refine Gz.goto 13 X1 hx (dd d4_33) (by decide) (by decide) ?_
  refine Gz.iload 15 X1 hx (dd d4_13) rfl rfl ?_
  refine Gz.iloadN 16 X1 hx (dd d4_15) rfl rfl ?_
  refine Gz.icmpYes 36 X1 hx (dd d4_16) (flt (by decide : ¬ ((1 : Int32) < (1 : Int32)))).2.1 (by decide) (by decide) ?_
  refine Gz.iloadN 37 X1 hx (dd d4_36) rfl rfl ?_
  refine Gz.fin X1 (v := some (.int ((0 : Int32) + v0))) (fun h => by rw [hret] at h; cases h) hlk (by decide) (by decide) (fun fs hr => retI X1 hx hret (dd d4_37) hr) ?_
  rw [e1]
  exact ⟨rfl, N0, rfl⟩
theorem ef_rmC2 (m : MethodId) (a0 : Addr) : entryFrame m #[(.ref a0)] 9 = mkF m 0 #[.val (.ref a0), .unset, .unset, .unset, .unset, .unset, .unset, .unset, .unset] [] := by first | (simp [entryFrame, mkF, argsToLocals, Value.category]; done) | rfl
def fC2 (a0 : Addr) (v0 : Int32) (v1 : Int32) : Int64 := (((0 : Int64) + ((0 : Int64) * (v0.toInt64))) + (((0 : Int64) + (v0.toInt64)) * (v1.toInt64)))
def Q_rmC2 (Z : State) (a0 : Addr) (k_a0 : ClassId) (v0 : Int32) (v1 : Int32) (h0 : Heap) (n0 : Nat) (v : Option Value) (h : Heap) (L : List Loc) : Prop := v = some (.long (fC2 a0 v0 v1)) ∧ Fr n0 L ∧ h = h0
set_option maxRecDepth 65536 in
set_option maxHeartbeats 40000000 in
theorem rmC2 (l : Launch) (Z : State) (av0 : Array Value) (hw : ∀ d ∈ tables_1, d.before av0 Z = true) (ws : List Jvm.Cond) (a0 : Addr) (k_a0 : ClassId) (v0 : Int32) (v1 : Int32) (h0 : Heap) (n0 : Nat) (Z0 : n0 ≤ h0.size) (V_a0 : Arv Z h0 a0 k_a0 .int (2 : Int32) [(.int v0), (.int v1)] (.int (0 : Int32))) :
    MetFree l (⟨"com/example/minsuite/minsuite/ValuePairs", "count", "([I)J"⟩ : MethodName) (head1 (Jvm.Cond.code (⟨"com/example/minsuite/minsuite/ValuePairs", "count", "([I)J"⟩ : MethodName) prog_43_method_2_code 9 (some .long) :: ws) ({ frames := 0, cells := 0, slots := 0, locals := 0 } : Room)) (fun a U => a = #[(.ref a0)] ∧ Z.Warmed39 U.vm ∧ U.heap = h0) (fun _ _ _ _ _ => True) (fun _ U o U' => ∃ v L, o = .returned v ∧ Q_rmC2 Z a0 k_a0 v0 v1 h0 n0 v U'.heap L ∧ FrameEnd U o U' L ({ frames := 0, cells := 0, slots := 0, locals := 0 } : Room).cells ({ frames := 0, cells := 0, slots := 0, locals := 0 } : Room).slots) := by
  refine MetFree.of_bodySF (plainFor_of_name pn_0) hisR ?_
  intro p e s m args below meth c s₁ Bd hml0 hP hK
  obtain ⟨rfl, hZ, hh⟩ := hP
  have hx := Bd.exec
  have hby := Bd.bytes
  have hml : c.maxLocals = 9 := hml0
  have dd : ∀ {pc : Nat} {r : Except DecodeError (Instr × Nat)}, decode prog_43_method_2_code pc = r → decode c.code pc = r := fun q => hb hby q
  have hown : s.vm.findClass "com/example/minsuite/minsuite/ValuePairs" = some m.cls := findClass_of_methodNamed Bd.named
  have hnm := (name_of_methodNamed Bd.named Bd.method).1
  have X0 : Stand p l e ({ frames := 0, cells := 0, slots := 0, locals := 0 } : Room) s m #[(.ref a0)] below meth c s₁ [] 0 0 := Stand.of_body Bd
  have e0 : s₁.heap = h0 := by rw [← hh, Bd.state]; rfl
  have N0 := Fr.nil n0
  have hret := Bd.returns
  have hlk := Bd.notSynchronized
  show Gz p e below s ({ frames := 0, cells := 0, slots := 0, locals := 0 } : Room).cells ({ frames := 0, cells := 0, slots := 0, locals := 0 } : Room).slots (Q_rmC2 Z a0 k_a0 v0 v1 h0 n0) (s₁.setTop (entryFrame m #[(.ref a0)] 9))
  refine Gz.enter (ef_rmC2 m a0) ?_
  refine Gz.lconst 1 (0 : Int64) X0 hx (dd d3_0) rfl rfl ?_
  refine Gz.lstoreN 2 #[.val (.ref a0), .val (.long (0 : Int64)), .second, .unset, .unset, .unset, .unset, .unset, .unset] X0 hx (dd d3_1) rfl rfl ?_
  refine Gz.lconst 3 (0 : Int64) X0 hx (dd d3_2) rfl rfl ?_
  refine Gz.lstoreN 4 #[.val (.ref a0), .val (.long (0 : Int64)), .second, .val (.long (0 : Int64)), .second, .unset, .unset, .unset, .unset] X0 hx (dd d3_3) rfl rfl ?_
  refine Gz.aloadN 5 X0 hx (dd d3_4) rfl rfl rfl ?_
  refine Gz.astore 7 #[.val (.ref a0), .val (.long (0 : Int64)), .second, .val (.long (0 : Int64)), .second, .val (.ref a0), .unset, .unset, .unset] X0 hx (dd d3_5) rfl rfl rfl ?_
  refine Gz.aload 9 X0 hx (dd d3_7) rfl rfl rfl ?_
  obtain ⟨c1, A1, -, S1, N1, -, -⟩ := id V_a0
  refine Gz.alen 10 X0 hx hZ (dd d3_9) e0 A1 S1 N1 rfl ?_
  refine Gz.istore 12 #[.val (.ref a0), .val (.long (0 : Int64)), .second, .val (.long (0 : Int64)), .second, .val (.ref a0), .val (.int (2 : Int32)), .unset, .unset] X0 hx (dd d3_10) rfl rfl ?_
  refine Gz.iconst 13 (0 : Int32) X0 hx (dd d3_12) rfl rfl ?_
  refine Gz.istore 15 #[.val (.ref a0), .val (.long (0 : Int64)), .second, .val (.long (0 : Int64)), .second, .val (.ref a0), .val (.int (2 : Int32)), .val (.int (0 : Int32)), .unset] X0 hx (dd d3_13) rfl rfl ?_
  refine Gz.iload 17 X0 hx (dd d3_15) rfl rfl ?_
  refine Gz.iload 19 X0 hx (dd d3_17) rfl rfl ?_
  refine Gz.icmpNo 22 X0 hx (dd d3_19) (tlt (by decide : (0 : Int32) < (2 : Int32))).2.1 rfl ?_
  refine Gz.aload 24 X0 hx (dd d3_22) rfl rfl rfl ?_
  refine Gz.iload 26 X0 hx (dd d3_24) rfl rfl ?_
  obtain ⟨c2, A2, q2, S2, N2, H2, G2⟩ := id V_a0
  have hin2 : ¬ ((0 : Int32) < 0 ∨ c2.slots.size ≤ ((0 : Int32)).toNatClampNeg) := inb_of S2 ⟨by decide, by decide⟩
  refine Gz.ldI 27 X0 hx hZ (dd d3_26) e0 A2 hin2 (Has.at H2 hin2 (rfl : _ = ((.int v0) : Value))) rfl ?_
  refine Gz.istore 29 #[.val (.ref a0), .val (.long (0 : Int64)), .second, .val (.long (0 : Int64)), .second, .val (.ref a0), .val (.int (2 : Int32)), .val (.int (0 : Int32)), .val (.int v0)] X0 hx (dd d3_27) rfl rfl ?_
  refine Gz.lloadN 30 X0 hx (dd d3_29) rfl rfl ?_
  refine Gz.lloadN 31 X0 hx (dd d3_30) rfl rfl ?_
  refine Gz.iload 33 X0 hx (dd d3_31) rfl rfl ?_
  refine Gz.i2l 34 X0 hx (dd d3_33) rfl ?_
  refine Gz.lmul 35 X0 hx (dd d3_34) rfl ?_
  refine Gz.ladd 36 X0 hx (dd d3_35) rfl ?_
  refine Gz.lstoreN 37 #[.val (.ref a0), .val (.long ((0 : Int64) + ((0 : Int64) * (v0.toInt64)))), .second, .val (.long (0 : Int64)), .second, .val (.ref a0), .val (.int (2 : Int32)), .val (.int (0 : Int32)), .val (.int v0)] X0 hx (dd d3_36) rfl rfl ?_
  refine Gz.lloadN 38 X0 hx (dd d3_37) rfl rfl ?_
  refine Gz.iload 40 X0 hx (dd d3_38) rfl rfl ?_
  refine Gz.i2l 41 X0 hx (dd d3_40) rfl ?_
  refine Gz.ladd 42 X0 hx (dd d3_41) rfl ?_
  refine Gz.lstoreN 43 #[.val (.ref a0), .val (.long ((0 : Int64) + ((0 : Int64) * (v0.toInt64)))), .second, .val (.long ((0 : Int64) + (v0.toInt64))), .second, .val (.ref a0), .val (.int (2 : Int32)), .val (.int (0 : Int32)), .val (.int v0)] X0 hx (dd d3_42) rfl rfl ?_
  refine Gz.iinc 46 #[.val (.ref a0), .val (.long ((0 : Int64) + ((0 : Int64) * (v0.toInt64)))), .second, .val (.long ((0 : Int64) + (v0.toInt64))), .second, .val (.ref a0), .val (.int (2 : Int32)), .val (.int (1 : Int32)), .val (.int v0)] X0 hx (dd d3_43) rfl rfl rfl ?_
  refine Gz.goto 15 X0 hx (dd d3_46) (by decide) (by decide) ?_
  refine Gz.iload 17 X0 hx (dd d3_15) rfl rfl ?_
  refine Gz.iload 19 X0 hx (dd d3_17) rfl rfl ?_
  refine Gz.icmpNo 22 X0 hx (dd d3_19) (tlt (by decide : (1 : Int32) < (2 : Int32))).2.1 rfl ?_
  refine Gz.aload 24 X0 hx (dd d3_22) rfl rfl rfl ?_
  refine Gz.iload 26 X0 hx (dd d3_24) rfl rfl ?_
  obtain ⟨c3, A3, q3, S3, N3, H3, G3⟩ := id V_a0
  have hin3 : ¬ ((1 : Int32) < 0 ∨ c3.slots.size ≤ ((1 : Int32)).toNatClampNeg) := inb_of S3 ⟨by decide, by decide⟩
  refine Gz.ldI 27 X0 hx hZ (dd d3_26) e0 A3 hin3 (Has.at H3 hin3 (rfl : _ = ((.int v1) : Value))) rfl ?_
  refine Gz.istore 29 #[.val (.ref a0), .val (.long ((0 : Int64) + ((0 : Int64) * (v0.toInt64)))), .second, .val (.long ((0 : Int64) + (v0.toInt64))), .second, .val (.ref a0), .val (.int (2 : Int32)), .val (.int (1 : Int32)), .val (.int v1)] X0 hx (dd d3_27) rfl rfl ?_
  refine Gz.lloadN 30 X0 hx (dd d3_29) rfl rfl ?_
  refine Gz.lloadN 31 X0 hx (dd d3_30) rfl rfl ?_
  refine Gz.iload 33 X0 hx (dd d3_31) rfl rfl ?_
  refine Gz.i2l 34 X0 hx (dd d3_33) rfl ?_
  refine Gz.lmul 35 X0 hx (dd d3_34) rfl ?_
  refine Gz.ladd 36 X0 hx (dd d3_35) rfl ?_
  refine Gz.lstoreN 37 #[.val (.ref a0), .val (.long (((0 : Int64) + ((0 : Int64) * (v0.toInt64))) + (((0 : Int64) + (v0.toInt64)) * (v1.toInt64)))), .second, .val (.long ((0 : Int64) + (v0.toInt64))), .second, .val (.ref a0), .val (.int (2 : Int32)), .val (.int (1 : Int32)), .val (.int v1)] X0 hx (dd d3_36) rfl rfl ?_
  refine Gz.lloadN 38 X0 hx (dd d3_37) rfl rfl ?_
  refine Gz.iload 40 X0 hx (dd d3_38) rfl rfl ?_
  refine Gz.i2l 41 X0 hx (dd d3_40) rfl ?_
  refine Gz.ladd 42 X0 hx (dd d3_41) rfl ?_
  refine Gz.lstoreN 43 #[.val (.ref a0), .val (.long (((0 : Int64) + ((0 : Int64) * (v0.toInt64))) + (((0 : Int64) + (v0.toInt64)) * (v1.toInt64)))), .second, .val (.long (((0 : Int64) + (v0.toInt64)) + (v1.toInt64))), .second, .val (.ref a0), .val (.int (2 : Int32)), .val (.int (1 : Int32)), .val (.int v1)] X0 hx (dd d3_42) rfl rfl ?_
  refine Gz.iinc 46 #[.val (.ref a0), .val (.long (((0 : Int64) + ((0 : Int64) * (v0.toInt64))) + (((0 : Int64) + (v0.toInt64)) * (v1.toInt64)))), .second, .val (.long (((0 : Int64) + (v0.toInt64)) + (v1.toInt64))), .second, .val (.ref a0), .val (.int (2 : Int32)), .val (.int (2 : Int32)), .val (.int v1)] X0 hx (dd d3_43) rfl rfl rfl ?_
  refine Gz.goto 15 X0 hx (dd d3_46) (by decide) (by decide) ?_
  refine Gz.iload 17 X0 hx (dd d3_15) rfl rfl ?_
  refine Gz.iload 19 X0 hx (dd d3_17) rfl rfl ?_
  refine Gz.icmpYes 49 X0 hx (dd d3_19) (flt (by decide : ¬ ((2 : Int32) < (2 : Int32)))).2.1 (by decide) (by decide) ?_
  refine Gz.lloadN 50 X0 hx (dd d3_49) rfl rfl ?_
  refine Gz.fin X0 (v := some (.long (((0 : Int64) + ((0 : Int64) * (v0.toInt64))) + (((0 : Int64) + (v0.toInt64)) * (v1.toInt64))))) (fun h => by rw [hret] at h; cases h) hlk (by decide) (by decide) (fun fs hr => retJ X0 hx hret (dd d3_50) hr) ?_
  rw [e0]
  exact ⟨rfl, N0, rfl⟩
theorem ef_rmA2 (m : MethodId) (a0 : Addr) : entryFrame m #[(.ref a0)] 6 = mkF m 0 #[.val (.ref a0), .unset, .unset, .unset, .unset, .unset] [] := by first | (simp [entryFrame, mkF, argsToLocals, Value.category]; done) | rfl
def fA2 (a0 : Addr) (ac : Addr) (v0 : Int32) (v1 : Int32) : Int32 := (((0 : Int32) + v0) + v1)
def Q_rmA2 (Z : State) (a0 : Addr) (ac : Addr) (k_ac : ClassId) (v0 : Int32) (v1 : Int32) (h0 : Heap) (n0 : Nat) (v : Option Value) (h : Heap) (L : List Loc) : Prop := v = some (.int (fA2 a0 ac v0 v1)) ∧ Fr n0 L ∧ h = h0
set_option maxRecDepth 65536 in
set_option maxHeartbeats 40000000 in
theorem rmA2 (l : Launch) (Z : State) (av0 : Array Value) (hw : ∀ d ∈ tables_1, d.before av0 Z = true) (ws : List Jvm.Cond) (a0 : Addr) (ac : Addr) (k_ac : ClassId) (v0 : Int32) (v1 : Int32) (h0 : Heap) (n0 : Nat) (Z0 : n0 ≤ h0.size) (F_valueCounts_a0 : Fld Z h0 a0 "com/example/minsuite/minsuite/ValuePairs" "valueCounts" "[I" (.ref ac)) (V_ac : Arv Z h0 ac k_ac .int (2 : Int32) [(.int v0), (.int v1)] (.int (0 : Int32))) :
    MetFree l (⟨"com/example/minsuite/minsuite/ValuePairs", "allValues", "()I"⟩ : MethodName) (head1 (Jvm.Cond.code (⟨"com/example/minsuite/minsuite/ValuePairs", "allValues", "()I"⟩ : MethodName) prog_43_method_6_code 6 (some .int) :: ws) ({ frames := 0, cells := 0, slots := 0, locals := 0 } : Room)) (fun a U => a = #[(.ref a0)] ∧ Z.Warmed39 U.vm ∧ U.heap = h0) (fun _ _ _ _ _ => True) (fun _ U o U' => ∃ v L, o = .returned v ∧ Q_rmA2 Z a0 ac k_ac v0 v1 h0 n0 v U'.heap L ∧ FrameEnd U o U' L ({ frames := 0, cells := 0, slots := 0, locals := 0 } : Room).cells ({ frames := 0, cells := 0, slots := 0, locals := 0 } : Room).slots) := by
  refine MetFree.of_bodySF (plainFor_of_name pn_0) hisR ?_
  intro p e s m args below meth c s₁ Bd hml0 hP hK
  obtain ⟨rfl, hZ, hh⟩ := hP
  have hx := Bd.exec
  have hby := Bd.bytes
  have hml : c.maxLocals = 6 := hml0
  have dd : ∀ {pc : Nat} {r : Except DecodeError (Instr × Nat)}, decode prog_43_method_6_code pc = r → decode c.code pc = r := fun q => hb hby q
  have hown : s.vm.findClass "com/example/minsuite/minsuite/ValuePairs" = some m.cls := findClass_of_methodNamed Bd.named
  have hnm := (name_of_methodNamed Bd.named Bd.method).1
  have X0 : Stand p l e ({ frames := 0, cells := 0, slots := 0, locals := 0 } : Room) s m #[(.ref a0)] below meth c s₁ [] 0 0 := Stand.of_body Bd
  have e0 : s₁.heap = h0 := by rw [← hh, Bd.state]; rfl
  have N0 := Fr.nil n0
  have hret := Bd.returns
  have hlk := Bd.notSynchronized
  show Gz p e below s ({ frames := 0, cells := 0, slots := 0, locals := 0 } : Room).cells ({ frames := 0, cells := 0, slots := 0, locals := 0 } : Room).slots (Q_rmA2 Z a0 ac k_ac v0 v1 h0 n0) (s₁.setTop (entryFrame m #[(.ref a0)] 6))
  refine Gz.enter (ef_rmA2 m a0) ?_
  refine Gz.iconst 1 (0 : Int32) X0 hx (dd d4_0) rfl rfl ?_
  refine Gz.istoreN 2 #[.val (.ref a0), .val (.int (0 : Int32)), .unset, .unset, .unset, .unset] X0 hx (dd d4_1) rfl rfl ?_
  refine Gz.aloadN 3 X0 hx (dd d4_2) rfl rfl rfl ?_
  refine Gz.getF 6 X0 hx hZ hown (dd d4_3) (host := "") (Or.inl (ww hw 23 rfl)) Via.refl e0 F_valueCounts_a0 rfl fun T1 X1 e1 => ?_
  refine Gz.astoreN 7 #[.val (.ref a0), .val (.int (0 : Int32)), .val (.ref ac), .unset, .unset, .unset] X1 hx (dd d4_6) rfl rfl rfl ?_
  refine Gz.aloadN 8 X1 hx (dd d4_7) rfl rfl rfl ?_
  obtain ⟨c2, A2, -, S2, N2, -, -⟩ := id V_ac
  refine Gz.alen 9 X1 hx hZ (dd d4_8) e1 A2 S2 N2 rfl ?_
  refine Gz.istoreN 10 #[.val (.ref a0), .val (.int (0 : Int32)), .val (.ref ac), .val (.int (2 : Int32)), .unset, .unset] X1 hx (dd d4_9) rfl rfl ?_
  refine Gz.iconst 11 (0 : Int32) X1 hx (dd d4_10) rfl rfl ?_
  refine Gz.istore 13 #[.val (.ref a0), .val (.int (0 : Int32)), .val (.ref ac), .val (.int (2 : Int32)), .val (.int (0 : Int32)), .unset] X1 hx (dd d4_11) rfl rfl ?_
  refine Gz.iload 15 X1 hx (dd d4_13) rfl rfl ?_
  refine Gz.iloadN 16 X1 hx (dd d4_15) rfl rfl ?_
  refine Gz.icmpNo 19 X1 hx (dd d4_16) (tlt (by decide : (0 : Int32) < (2 : Int32))).2.1 rfl ?_
  refine Gz.aloadN 20 X1 hx (dd d4_19) rfl rfl rfl ?_
  refine Gz.iload 22 X1 hx (dd d4_20) rfl rfl ?_
  obtain ⟨c3, A3, q3, S3, N3, H3, G3⟩ := id V_ac
  have hin3 : ¬ ((0 : Int32) < 0 ∨ c3.slots.size ≤ ((0 : Int32)).toNatClampNeg) := inb_of S3 ⟨by decide, by decide⟩
  refine Gz.ldI 23 X1 hx hZ (dd d4_22) e1 A3 hin3 (Has.at H3 hin3 (rfl : _ = ((.int v0) : Value))) rfl ?_
  refine Gz.istore 25 #[.val (.ref a0), .val (.int (0 : Int32)), .val (.ref ac), .val (.int (2 : Int32)), .val (.int (0 : Int32)), .val (.int v0)] X1 hx (dd d4_23) rfl rfl ?_
  refine Gz.iloadN 26 X1 hx (dd d4_25) rfl rfl ?_
  refine Gz.iload 28 X1 hx (dd d4_26) rfl rfl ?_
  refine Gz.iadd 29 X1 hx (dd d4_28) rfl ?_
  refine Gz.istoreN 30 #[.val (.ref a0), .val (.int ((0 : Int32) + v0)), .val (.ref ac), .val (.int (2 : Int32)), .val (.int (0 : Int32)), .val (.int v0)] X1 hx (dd d4_29) rfl rfl ?_
  refine Gz.iinc 33 #[.val (.ref a0), .val (.int ((0 : Int32) + v0)), .val (.ref ac), .val (.int (2 : Int32)), .val (.int (1 : Int32)), .val (.int v0)] X1 hx (dd d4_30) rfl rfl rfl ?_
  refine Gz.goto 13 X1 hx (dd d4_33) (by decide) (by decide) ?_
  refine Gz.iload 15 X1 hx (dd d4_13) rfl rfl ?_
  refine Gz.iloadN 16 X1 hx (dd d4_15) rfl rfl ?_
  refine Gz.icmpNo 19 X1 hx (dd d4_16) (tlt (by decide : (1 : Int32) < (2 : Int32))).2.1 rfl ?_
  refine Gz.aloadN 20 X1 hx (dd d4_19) rfl rfl rfl ?_
  refine Gz.iload 22 X1 hx (dd d4_20) rfl rfl ?_
  obtain ⟨c4, A4, q4, S4, N4, H4, G4⟩ := id V_ac
  have hin4 : ¬ ((1 : Int32) < 0 ∨ c4.slots.size ≤ ((1 : Int32)).toNatClampNeg) := inb_of S4 ⟨by decide, by decide⟩
  refine Gz.ldI 23 X1 hx hZ (dd d4_22) e1 A4 hin4 (Has.at H4 hin4 (rfl : _ = ((.int v1) : Value))) rfl ?_
  refine Gz.istore 25 #[.val (.ref a0), .val (.int ((0 : Int32) + v0)), .val (.ref ac), .val (.int (2 : Int32)), .val (.int (1 : Int32)), .val (.int v1)] X1 hx (dd d4_23) rfl rfl ?_
  refine Gz.iloadN 26 X1 hx (dd d4_25) rfl rfl ?_
  refine Gz.iload 28 X1 hx (dd d4_26) rfl rfl ?_
  refine Gz.iadd 29 X1 hx (dd d4_28) rfl ?_
  refine Gz.istoreN 30 #[.val (.ref a0), .val (.int (((0 : Int32) + v0) + v1)), .val (.ref ac), .val (.int (2 : Int32)), .val (.int (1 : Int32)), .val (.int v1)] X1 hx (dd d4_29) rfl rfl ?_
  refine Gz.iinc 33 #[.val (.ref a0), .val (.int (((0 : Int32) + v0) + v1)), .val (.ref ac), .val (.int (2 : Int32)), .val (.int (2 : Int32)), .val (.int v1)] X1 hx (dd d4_30) rfl rfl rfl ?_
  refine Gz.goto 13 X1 hx (dd d4_33) (by decide) (by decide) ?_
  refine Gz.iload 15 X1 hx (dd d4_13) rfl rfl ?_
  refine Gz.iloadN 16 X1 hx (dd d4_15) rfl rfl ?_
  refine Gz.icmpYes 36 X1 hx (dd d4_16) (flt (by decide : ¬ ((2 : Int32) < (2 : Int32)))).2.1 (by decide) (by decide) ?_
  refine Gz.iloadN 37 X1 hx (dd d4_36) rfl rfl ?_
  refine Gz.fin X1 (v := some (.int (((0 : Int32) + v0) + v1))) (fun h => by rw [hret] at h; cases h) hlk (by decide) (by decide) (fun fs hr => retI X1 hx hret (dd d4_37) hr) ?_
  rw [e1]
  exact ⟨rfl, N0, rfl⟩
theorem ef_rmC3 (m : MethodId) (a0 : Addr) : entryFrame m #[(.ref a0)] 9 = mkF m 0 #[.val (.ref a0), .unset, .unset, .unset, .unset, .unset, .unset, .unset, .unset] [] := by first | (simp [entryFrame, mkF, argsToLocals, Value.category]; done) | rfl
def fC3 (a0 : Addr) (v0 : Int32) (v1 : Int32) (v2 : Int32) : Int64 := ((((0 : Int64) + ((0 : Int64) * (v0.toInt64))) + (((0 : Int64) + (v0.toInt64)) * (v1.toInt64))) + ((((0 : Int64) + (v0.toInt64)) + (v1.toInt64)) * (v2.toInt64)))
def Q_rmC3 (Z : State) (a0 : Addr) (k_a0 : ClassId) (v0 : Int32) (v1 : Int32) (v2 : Int32) (h0 : Heap) (n0 : Nat) (v : Option Value) (h : Heap) (L : List Loc) : Prop := v = some (.long (fC3 a0 v0 v1 v2)) ∧ Fr n0 L ∧ h = h0
set_option maxRecDepth 65536 in
set_option maxHeartbeats 40000000 in
theorem rmC3 (l : Launch) (Z : State) (av0 : Array Value) (hw : ∀ d ∈ tables_1, d.before av0 Z = true) (ws : List Jvm.Cond) (a0 : Addr) (k_a0 : ClassId) (v0 : Int32) (v1 : Int32) (v2 : Int32) (h0 : Heap) (n0 : Nat) (Z0 : n0 ≤ h0.size) (V_a0 : Arv Z h0 a0 k_a0 .int (3 : Int32) [(.int v0), (.int v1), (.int v2)] (.int (0 : Int32))) :
    MetFree l (⟨"com/example/minsuite/minsuite/ValuePairs", "count", "([I)J"⟩ : MethodName) (head1 (Jvm.Cond.code (⟨"com/example/minsuite/minsuite/ValuePairs", "count", "([I)J"⟩ : MethodName) prog_43_method_2_code 9 (some .long) :: ws) ({ frames := 0, cells := 0, slots := 0, locals := 0 } : Room)) (fun a U => a = #[(.ref a0)] ∧ Z.Warmed39 U.vm ∧ U.heap = h0) (fun _ _ _ _ _ => True) (fun _ U o U' => ∃ v L, o = .returned v ∧ Q_rmC3 Z a0 k_a0 v0 v1 v2 h0 n0 v U'.heap L ∧ FrameEnd U o U' L ({ frames := 0, cells := 0, slots := 0, locals := 0 } : Room).cells ({ frames := 0, cells := 0, slots := 0, locals := 0 } : Room).slots) := by
  refine MetFree.of_bodySF (plainFor_of_name pn_0) hisR ?_
  intro p e s m args below meth c s₁ Bd hml0 hP hK
  obtain ⟨rfl, hZ, hh⟩ := hP
  have hx := Bd.exec
  have hby := Bd.bytes
  have hml : c.maxLocals = 9 := hml0
  have dd : ∀ {pc : Nat} {r : Except DecodeError (Instr × Nat)}, decode prog_43_method_2_code pc = r → decode c.code pc = r := fun q => hb hby q
  have hown : s.vm.findClass "com/example/minsuite/minsuite/ValuePairs" = some m.cls := findClass_of_methodNamed Bd.named
  have hnm := (name_of_methodNamed Bd.named Bd.method).1
  have X0 : Stand p l e ({ frames := 0, cells := 0, slots := 0, locals := 0 } : Room) s m #[(.ref a0)] below meth c s₁ [] 0 0 := Stand.of_body Bd
  have e0 : s₁.heap = h0 := by rw [← hh, Bd.state]; rfl
  have N0 := Fr.nil n0
  have hret := Bd.returns
  have hlk := Bd.notSynchronized
  show Gz p e below s ({ frames := 0, cells := 0, slots := 0, locals := 0 } : Room).cells ({ frames := 0, cells := 0, slots := 0, locals := 0 } : Room).slots (Q_rmC3 Z a0 k_a0 v0 v1 v2 h0 n0) (s₁.setTop (entryFrame m #[(.ref a0)] 9))
  refine Gz.enter (ef_rmC3 m a0) ?_
  refine Gz.lconst 1 (0 : Int64) X0 hx (dd d3_0) rfl rfl ?_
  refine Gz.lstoreN 2 #[.val (.ref a0), .val (.long (0 : Int64)), .second, .unset, .unset, .unset, .unset, .unset, .unset] X0 hx (dd d3_1) rfl rfl ?_
  refine Gz.lconst 3 (0 : Int64) X0 hx (dd d3_2) rfl rfl ?_
  refine Gz.lstoreN 4 #[.val (.ref a0), .val (.long (0 : Int64)), .second, .val (.long (0 : Int64)), .second, .unset, .unset, .unset, .unset] X0 hx (dd d3_3) rfl rfl ?_
  refine Gz.aloadN 5 X0 hx (dd d3_4) rfl rfl rfl ?_
  refine Gz.astore 7 #[.val (.ref a0), .val (.long (0 : Int64)), .second, .val (.long (0 : Int64)), .second, .val (.ref a0), .unset, .unset, .unset] X0 hx (dd d3_5) rfl rfl rfl ?_
  refine Gz.aload 9 X0 hx (dd d3_7) rfl rfl rfl ?_
  obtain ⟨c1, A1, -, S1, N1, -, -⟩ := id V_a0
  refine Gz.alen 10 X0 hx hZ (dd d3_9) e0 A1 S1 N1 rfl ?_
  refine Gz.istore 12 #[.val (.ref a0), .val (.long (0 : Int64)), .second, .val (.long (0 : Int64)), .second, .val (.ref a0), .val (.int (3 : Int32)), .unset, .unset] X0 hx (dd d3_10) rfl rfl ?_
  refine Gz.iconst 13 (0 : Int32) X0 hx (dd d3_12) rfl rfl ?_
  refine Gz.istore 15 #[.val (.ref a0), .val (.long (0 : Int64)), .second, .val (.long (0 : Int64)), .second, .val (.ref a0), .val (.int (3 : Int32)), .val (.int (0 : Int32)), .unset] X0 hx (dd d3_13) rfl rfl ?_
  refine Gz.iload 17 X0 hx (dd d3_15) rfl rfl ?_
  refine Gz.iload 19 X0 hx (dd d3_17) rfl rfl ?_
  refine Gz.icmpNo 22 X0 hx (dd d3_19) (tlt (by decide : (0 : Int32) < (3 : Int32))).2.1 rfl ?_
  refine Gz.aload 24 X0 hx (dd d3_22) rfl rfl rfl ?_
  refine Gz.iload 26 X0 hx (dd d3_24) rfl rfl ?_
  obtain ⟨c2, A2, q2, S2, N2, H2, G2⟩ := id V_a0
  have hin2 : ¬ ((0 : Int32) < 0 ∨ c2.slots.size ≤ ((0 : Int32)).toNatClampNeg) := inb_of S2 ⟨by decide, by decide⟩
  refine Gz.ldI 27 X0 hx hZ (dd d3_26) e0 A2 hin2 (Has.at H2 hin2 (rfl : _ = ((.int v0) : Value))) rfl ?_
  refine Gz.istore 29 #[.val (.ref a0), .val (.long (0 : Int64)), .second, .val (.long (0 : Int64)), .second, .val (.ref a0), .val (.int (3 : Int32)), .val (.int (0 : Int32)), .val (.int v0)] X0 hx (dd d3_27) rfl rfl ?_
  refine Gz.lloadN 30 X0 hx (dd d3_29) rfl rfl ?_
  refine Gz.lloadN 31 X0 hx (dd d3_30) rfl rfl ?_
  refine Gz.iload 33 X0 hx (dd d3_31) rfl rfl ?_
  refine Gz.i2l 34 X0 hx (dd d3_33) rfl ?_
  refine Gz.lmul 35 X0 hx (dd d3_34) rfl ?_
  refine Gz.ladd 36 X0 hx (dd d3_35) rfl ?_
  refine Gz.lstoreN 37 #[.val (.ref a0), .val (.long ((0 : Int64) + ((0 : Int64) * (v0.toInt64)))), .second, .val (.long (0 : Int64)), .second, .val (.ref a0), .val (.int (3 : Int32)), .val (.int (0 : Int32)), .val (.int v0)] X0 hx (dd d3_36) rfl rfl ?_
  refine Gz.lloadN 38 X0 hx (dd d3_37) rfl rfl ?_
  refine Gz.iload 40 X0 hx (dd d3_38) rfl rfl ?_
  refine Gz.i2l 41 X0 hx (dd d3_40) rfl ?_
  refine Gz.ladd 42 X0 hx (dd d3_41) rfl ?_
  refine Gz.lstoreN 43 #[.val (.ref a0), .val (.long ((0 : Int64) + ((0 : Int64) * (v0.toInt64)))), .second, .val (.long ((0 : Int64) + (v0.toInt64))), .second, .val (.ref a0), .val (.int (3 : Int32)), .val (.int (0 : Int32)), .val (.int v0)] X0 hx (dd d3_42) rfl rfl ?_
  refine Gz.iinc 46 #[.val (.ref a0), .val (.long ((0 : Int64) + ((0 : Int64) * (v0.toInt64)))), .second, .val (.long ((0 : Int64) + (v0.toInt64))), .second, .val (.ref a0), .val (.int (3 : Int32)), .val (.int (1 : Int32)), .val (.int v0)] X0 hx (dd d3_43) rfl rfl rfl ?_
  refine Gz.goto 15 X0 hx (dd d3_46) (by decide) (by decide) ?_
  refine Gz.iload 17 X0 hx (dd d3_15) rfl rfl ?_
  refine Gz.iload 19 X0 hx (dd d3_17) rfl rfl ?_
  refine Gz.icmpNo 22 X0 hx (dd d3_19) (tlt (by decide : (1 : Int32) < (3 : Int32))).2.1 rfl ?_
  refine Gz.aload 24 X0 hx (dd d3_22) rfl rfl rfl ?_
  refine Gz.iload 26 X0 hx (dd d3_24) rfl rfl ?_
  obtain ⟨c3, A3, q3, S3, N3, H3, G3⟩ := id V_a0
  have hin3 : ¬ ((1 : Int32) < 0 ∨ c3.slots.size ≤ ((1 : Int32)).toNatClampNeg) := inb_of S3 ⟨by decide, by decide⟩
  refine Gz.ldI 27 X0 hx hZ (dd d3_26) e0 A3 hin3 (Has.at H3 hin3 (rfl : _ = ((.int v1) : Value))) rfl ?_
  refine Gz.istore 29 #[.val (.ref a0), .val (.long ((0 : Int64) + ((0 : Int64) * (v0.toInt64)))), .second, .val (.long ((0 : Int64) + (v0.toInt64))), .second, .val (.ref a0), .val (.int (3 : Int32)), .val (.int (1 : Int32)), .val (.int v1)] X0 hx (dd d3_27) rfl rfl ?_
  refine Gz.lloadN 30 X0 hx (dd d3_29) rfl rfl ?_
  refine Gz.lloadN 31 X0 hx (dd d3_30) rfl rfl ?_
  refine Gz.iload 33 X0 hx (dd d3_31) rfl rfl ?_
  refine Gz.i2l 34 X0 hx (dd d3_33) rfl ?_
  refine Gz.lmul 35 X0 hx (dd d3_34) rfl ?_
  refine Gz.ladd 36 X0 hx (dd d3_35) rfl ?_
  refine Gz.lstoreN 37 #[.val (.ref a0), .val (.long (((0 : Int64) + ((0 : Int64) * (v0.toInt64))) + (((0 : Int64) + (v0.toInt64)) * (v1.toInt64)))), .second, .val (.long ((0 : Int64) + (v0.toInt64))), .second, .val (.ref a0), .val (.int (3 : Int32)), .val (.int (1 : Int32)), .val (.int v1)] X0 hx (dd d3_36) rfl rfl ?_
  refine Gz.lloadN 38 X0 hx (dd d3_37) rfl rfl ?_
  refine Gz.iload 40 X0 hx (dd d3_38) rfl rfl ?_
  refine Gz.i2l 41 X0 hx (dd d3_40) rfl ?_
  refine Gz.ladd 42 X0 hx (dd d3_41) rfl ?_
  refine Gz.lstoreN 43 #[.val (.ref a0), .val (.long (((0 : Int64) + ((0 : Int64) * (v0.toInt64))) + (((0 : Int64) + (v0.toInt64)) * (v1.toInt64)))), .second, .val (.long (((0 : Int64) + (v0.toInt64)) + (v1.toInt64))), .second, .val (.ref a0), .val (.int (3 : Int32)), .val (.int (1 : Int32)), .val (.int v1)] X0 hx (dd d3_42) rfl rfl ?_
  refine Gz.iinc 46 #[.val (.ref a0), .val (.long (((0 : Int64) + ((0 : Int64) * (v0.toInt64))) + (((0 : Int64) + (v0.toInt64)) * (v1.toInt64)))), .second, .val (.long (((0 : Int64) + (v0.toInt64)) + (v1.toInt64))), .second, .val (.ref a0), .val (.int (3 : Int32)), .val (.int (2 : Int32)), .val (.int v1)] X0 hx (dd d3_43) rfl rfl rfl ?_
  refine Gz.goto 15 X0 hx (dd d3_46) (by decide) (by decide) ?_
  refine Gz.iload 17 X0 hx (dd d3_15) rfl rfl ?_
  refine Gz.iload 19 X0 hx (dd d3_17) rfl rfl ?_
  refine Gz.icmpNo 22 X0 hx (dd d3_19) (tlt (by decide : (2 : Int32) < (3 : Int32))).2.1 rfl ?_
  refine Gz.aload 24 X0 hx (dd d3_22) rfl rfl rfl ?_
  refine Gz.iload 26 X0 hx (dd d3_24) rfl rfl ?_
  obtain ⟨c4, A4, q4, S4, N4, H4, G4⟩ := id V_a0
  have hin4 : ¬ ((2 : Int32) < 0 ∨ c4.slots.size ≤ ((2 : Int32)).toNatClampNeg) := inb_of S4 ⟨by decide, by decide⟩
  refine Gz.ldI 27 X0 hx hZ (dd d3_26) e0 A4 hin4 (Has.at H4 hin4 (rfl : _ = ((.int v2) : Value))) rfl ?_
  refine Gz.istore 29 #[.val (.ref a0), .val (.long (((0 : Int64) + ((0 : Int64) * (v0.toInt64))) + (((0 : Int64) + (v0.toInt64)) * (v1.toInt64)))), .second, .val (.long (((0 : Int64) + (v0.toInt64)) + (v1.toInt64))), .second, .val (.ref a0), .val (.int (3 : Int32)), .val (.int (2 : Int32)), .val (.int v2)] X0 hx (dd d3_27) rfl rfl ?_
  refine Gz.lloadN 30 X0 hx (dd d3_29) rfl rfl ?_
  refine Gz.lloadN 31 X0 hx (dd d3_30) rfl rfl ?_
  refine Gz.iload 33 X0 hx (dd d3_31) rfl rfl ?_
  refine Gz.i2l 34 X0 hx (dd d3_33) rfl ?_
  refine Gz.lmul 35 X0 hx (dd d3_34) rfl ?_
  refine Gz.ladd 36 X0 hx (dd d3_35) rfl ?_
  refine Gz.lstoreN 37 #[.val (.ref a0), .val (.long ((((0 : Int64) + ((0 : Int64) * (v0.toInt64))) + (((0 : Int64) + (v0.toInt64)) * (v1.toInt64))) + ((((0 : Int64) + (v0.toInt64)) + (v1.toInt64)) * (v2.toInt64)))), .second, .val (.long (((0 : Int64) + (v0.toInt64)) + (v1.toInt64))), .second, .val (.ref a0), .val (.int (3 : Int32)), .val (.int (2 : Int32)), .val (.int v2)] X0 hx (dd d3_36) rfl rfl ?_
  refine Gz.lloadN 38 X0 hx (dd d3_37) rfl rfl ?_
  refine Gz.iload 40 X0 hx (dd d3_38) rfl rfl ?_
  refine Gz.i2l 41 X0 hx (dd d3_40) rfl ?_
  refine Gz.ladd 42 X0 hx (dd d3_41) rfl ?_
  refine Gz.lstoreN 43 #[.val (.ref a0), .val (.long ((((0 : Int64) + ((0 : Int64) * (v0.toInt64))) + (((0 : Int64) + (v0.toInt64)) * (v1.toInt64))) + ((((0 : Int64) + (v0.toInt64)) + (v1.toInt64)) * (v2.toInt64)))), .second, .val (.long ((((0 : Int64) + (v0.toInt64)) + (v1.toInt64)) + (v2.toInt64))), .second, .val (.ref a0), .val (.int (3 : Int32)), .val (.int (2 : Int32)), .val (.int v2)] X0 hx (dd d3_42) rfl rfl ?_
  refine Gz.iinc 46 #[.val (.ref a0), .val (.long ((((0 : Int64) + ((0 : Int64) * (v0.toInt64))) + (((0 : Int64) + (v0.toInt64)) * (v1.toInt64))) + ((((0 : Int64) + (v0.toInt64)) + (v1.toInt64)) * (v2.toInt64)))), .second, .val (.long ((((0 : Int64) + (v0.toInt64)) + (v1.toInt64)) + (v2.toInt64))), .second, .val (.ref a0), .val (.int (3 : Int32)), .val (.int (3 : Int32)), .val (.int v2)] X0 hx (dd d3_43) rfl rfl rfl ?_
  refine Gz.goto 15 X0 hx (dd d3_46) (by decide) (by decide) ?_
  refine Gz.iload 17 X0 hx (dd d3_15) rfl rfl ?_
  refine Gz.iload 19 X0 hx (dd d3_17) rfl rfl ?_
  refine Gz.icmpYes 49 X0 hx (dd d3_19) (flt (by decide : ¬ ((3 : Int32) < (3 : Int32)))).2.1 (by decide) (by decide) ?_
  refine Gz.lloadN 50 X0 hx (dd d3_49) rfl rfl ?_
  refine Gz.fin X0 (v := some (.long ((((0 : Int64) + ((0 : Int64) * (v0.toInt64))) + (((0 : Int64) + (v0.toInt64)) * (v1.toInt64))) + ((((0 : Int64) + (v0.toInt64)) + (v1.toInt64)) * (v2.toInt64))))) (fun h => by rw [hret] at h; cases h) hlk (by decide) (by decide) (fun fs hr => retJ X0 hx hret (dd d3_50) hr) ?_
  rw [e0]
  exact ⟨rfl, N0, rfl⟩
theorem ef_rmA3 (m : MethodId) (a0 : Addr) : entryFrame m #[(.ref a0)] 6 = mkF m 0 #[.val (.ref a0), .unset, .unset, .unset, .unset, .unset] [] := by first | (simp [entryFrame, mkF, argsToLocals, Value.category]; done) | rfl
def fA3 (a0 : Addr) (ac : Addr) (v0 : Int32) (v1 : Int32) (v2 : Int32) : Int32 := ((((0 : Int32) + v0) + v1) + v2)
def Q_rmA3 (Z : State) (a0 : Addr) (ac : Addr) (k_ac : ClassId) (v0 : Int32) (v1 : Int32) (v2 : Int32) (h0 : Heap) (n0 : Nat) (v : Option Value) (h : Heap) (L : List Loc) : Prop := v = some (.int (fA3 a0 ac v0 v1 v2)) ∧ Fr n0 L ∧ h = h0
set_option maxRecDepth 65536 in
set_option maxHeartbeats 40000000 in
theorem rmA3 (l : Launch) (Z : State) (av0 : Array Value) (hw : ∀ d ∈ tables_1, d.before av0 Z = true) (ws : List Jvm.Cond) (a0 : Addr) (ac : Addr) (k_ac : ClassId) (v0 : Int32) (v1 : Int32) (v2 : Int32) (h0 : Heap) (n0 : Nat) (Z0 : n0 ≤ h0.size) (F_valueCounts_a0 : Fld Z h0 a0 "com/example/minsuite/minsuite/ValuePairs" "valueCounts" "[I" (.ref ac)) (V_ac : Arv Z h0 ac k_ac .int (3 : Int32) [(.int v0), (.int v1), (.int v2)] (.int (0 : Int32))) :
    MetFree l (⟨"com/example/minsuite/minsuite/ValuePairs", "allValues", "()I"⟩ : MethodName) (head1 (Jvm.Cond.code (⟨"com/example/minsuite/minsuite/ValuePairs", "allValues", "()I"⟩ : MethodName) prog_43_method_6_code 6 (some .int) :: ws) ({ frames := 0, cells := 0, slots := 0, locals := 0 } : Room)) (fun a U => a = #[(.ref a0)] ∧ Z.Warmed39 U.vm ∧ U.heap = h0) (fun _ _ _ _ _ => True) (fun _ U o U' => ∃ v L, o = .returned v ∧ Q_rmA3 Z a0 ac k_ac v0 v1 v2 h0 n0 v U'.heap L ∧ FrameEnd U o U' L ({ frames := 0, cells := 0, slots := 0, locals := 0 } : Room).cells ({ frames := 0, cells := 0, slots := 0, locals := 0 } : Room).slots) := by
  refine MetFree.of_bodySF (plainFor_of_name pn_0) hisR ?_
  intro p e s m args below meth c s₁ Bd hml0 hP hK
  obtain ⟨rfl, hZ, hh⟩ := hP
  have hx := Bd.exec
  have hby := Bd.bytes
  have hml : c.maxLocals = 6 := hml0
  have dd : ∀ {pc : Nat} {r : Except DecodeError (Instr × Nat)}, decode prog_43_method_6_code pc = r → decode c.code pc = r := fun q => hb hby q
  have hown : s.vm.findClass "com/example/minsuite/minsuite/ValuePairs" = some m.cls := findClass_of_methodNamed Bd.named
  have hnm := (name_of_methodNamed Bd.named Bd.method).1
  have X0 : Stand p l e ({ frames := 0, cells := 0, slots := 0, locals := 0 } : Room) s m #[(.ref a0)] below meth c s₁ [] 0 0 := Stand.of_body Bd
  have e0 : s₁.heap = h0 := by rw [← hh, Bd.state]; rfl
  have N0 := Fr.nil n0
  have hret := Bd.returns
  have hlk := Bd.notSynchronized
  show Gz p e below s ({ frames := 0, cells := 0, slots := 0, locals := 0 } : Room).cells ({ frames := 0, cells := 0, slots := 0, locals := 0 } : Room).slots (Q_rmA3 Z a0 ac k_ac v0 v1 v2 h0 n0) (s₁.setTop (entryFrame m #[(.ref a0)] 6))
  refine Gz.enter (ef_rmA3 m a0) ?_
  refine Gz.iconst 1 (0 : Int32) X0 hx (dd d4_0) rfl rfl ?_
  refine Gz.istoreN 2 #[.val (.ref a0), .val (.int (0 : Int32)), .unset, .unset, .unset, .unset] X0 hx (dd d4_1) rfl rfl ?_
  refine Gz.aloadN 3 X0 hx (dd d4_2) rfl rfl rfl ?_
  refine Gz.getF 6 X0 hx hZ hown (dd d4_3) (host := "") (Or.inl (ww hw 23 rfl)) Via.refl e0 F_valueCounts_a0 rfl fun T1 X1 e1 => ?_
  refine Gz.astoreN 7 #[.val (.ref a0), .val (.int (0 : Int32)), .val (.ref ac), .unset, .unset, .unset] X1 hx (dd d4_6) rfl rfl rfl ?_
  refine Gz.aloadN 8 X1 hx (dd d4_7) rfl rfl rfl ?_
  obtain ⟨c2, A2, -, S2, N2, -, -⟩ := id V_ac
  refine Gz.alen 9 X1 hx hZ (dd d4_8) e1 A2 S2 N2 rfl ?_
  refine Gz.istoreN 10 #[.val (.ref a0), .val (.int (0 : Int32)), .val (.ref ac), .val (.int (3 : Int32)), .unset, .unset] X1 hx (dd d4_9) rfl rfl ?_
  refine Gz.iconst 11 (0 : Int32) X1 hx (dd d4_10) rfl rfl ?_
  refine Gz.istore 13 #[.val (.ref a0), .val (.int (0 : Int32)), .val (.ref ac), .val (.int (3 : Int32)), .val (.int (0 : Int32)), .unset] X1 hx (dd d4_11) rfl rfl ?_
  refine Gz.iload 15 X1 hx (dd d4_13) rfl rfl ?_
  refine Gz.iloadN 16 X1 hx (dd d4_15) rfl rfl ?_
  refine Gz.icmpNo 19 X1 hx (dd d4_16) (tlt (by decide : (0 : Int32) < (3 : Int32))).2.1 rfl ?_
  refine Gz.aloadN 20 X1 hx (dd d4_19) rfl rfl rfl ?_
  refine Gz.iload 22 X1 hx (dd d4_20) rfl rfl ?_
  obtain ⟨c3, A3, q3, S3, N3, H3, G3⟩ := id V_ac
  have hin3 : ¬ ((0 : Int32) < 0 ∨ c3.slots.size ≤ ((0 : Int32)).toNatClampNeg) := inb_of S3 ⟨by decide, by decide⟩
  refine Gz.ldI 23 X1 hx hZ (dd d4_22) e1 A3 hin3 (Has.at H3 hin3 (rfl : _ = ((.int v0) : Value))) rfl ?_
  refine Gz.istore 25 #[.val (.ref a0), .val (.int (0 : Int32)), .val (.ref ac), .val (.int (3 : Int32)), .val (.int (0 : Int32)), .val (.int v0)] X1 hx (dd d4_23) rfl rfl ?_
  refine Gz.iloadN 26 X1 hx (dd d4_25) rfl rfl ?_
  refine Gz.iload 28 X1 hx (dd d4_26) rfl rfl ?_
  refine Gz.iadd 29 X1 hx (dd d4_28) rfl ?_
  refine Gz.istoreN 30 #[.val (.ref a0), .val (.int ((0 : Int32) + v0)), .val (.ref ac), .val (.int (3 : Int32)), .val (.int (0 : Int32)), .val (.int v0)] X1 hx (dd d4_29) rfl rfl ?_
  refine Gz.iinc 33 #[.val (.ref a0), .val (.int ((0 : Int32) + v0)), .val (.ref ac), .val (.int (3 : Int32)), .val (.int (1 : Int32)), .val (.int v0)] X1 hx (dd d4_30) rfl rfl rfl ?_
  refine Gz.goto 13 X1 hx (dd d4_33) (by decide) (by decide) ?_
  refine Gz.iload 15 X1 hx (dd d4_13) rfl rfl ?_
  refine Gz.iloadN 16 X1 hx (dd d4_15) rfl rfl ?_
  refine Gz.icmpNo 19 X1 hx (dd d4_16) (tlt (by decide : (1 : Int32) < (3 : Int32))).2.1 rfl ?_
  refine Gz.aloadN 20 X1 hx (dd d4_19) rfl rfl rfl ?_
  refine Gz.iload 22 X1 hx (dd d4_20) rfl rfl ?_
  obtain ⟨c4, A4, q4, S4, N4, H4, G4⟩ := id V_ac
  have hin4 : ¬ ((1 : Int32) < 0 ∨ c4.slots.size ≤ ((1 : Int32)).toNatClampNeg) := inb_of S4 ⟨by decide, by decide⟩
  refine Gz.ldI 23 X1 hx hZ (dd d4_22) e1 A4 hin4 (Has.at H4 hin4 (rfl : _ = ((.int v1) : Value))) rfl ?_
  refine Gz.istore 25 #[.val (.ref a0), .val (.int ((0 : Int32) + v0)), .val (.ref ac), .val (.int (3 : Int32)), .val (.int (1 : Int32)), .val (.int v1)] X1 hx (dd d4_23) rfl rfl ?_
  refine Gz.iloadN 26 X1 hx (dd d4_25) rfl rfl ?_
  refine Gz.iload 28 X1 hx (dd d4_26) rfl rfl ?_
  refine Gz.iadd 29 X1 hx (dd d4_28) rfl ?_
  refine Gz.istoreN 30 #[.val (.ref a0), .val (.int (((0 : Int32) + v0) + v1)), .val (.ref ac), .val (.int (3 : Int32)), .val (.int (1 : Int32)), .val (.int v1)] X1 hx (dd d4_29) rfl rfl ?_
  refine Gz.iinc 33 #[.val (.ref a0), .val (.int (((0 : Int32) + v0) + v1)), .val (.ref ac), .val (.int (3 : Int32)), .val (.int (2 : Int32)), .val (.int v1)] X1 hx (dd d4_30) rfl rfl rfl ?_
  refine Gz.goto 13 X1 hx (dd d4_33) (by decide) (by decide) ?_
  refine Gz.iload 15 X1 hx (dd d4_13) rfl rfl ?_
  refine Gz.iloadN 16 X1 hx (dd d4_15) rfl rfl ?_
  refine Gz.icmpNo 19 X1 hx (dd d4_16) (tlt (by decide : (2 : Int32) < (3 : Int32))).2.1 rfl ?_
  refine Gz.aloadN 20 X1 hx (dd d4_19) rfl rfl rfl ?_
  refine Gz.iload 22 X1 hx (dd d4_20) rfl rfl ?_
  obtain ⟨c5, A5, q5, S5, N5, H5, G5⟩ := id V_ac
  have hin5 : ¬ ((2 : Int32) < 0 ∨ c5.slots.size ≤ ((2 : Int32)).toNatClampNeg) := inb_of S5 ⟨by decide, by decide⟩
  refine Gz.ldI 23 X1 hx hZ (dd d4_22) e1 A5 hin5 (Has.at H5 hin5 (rfl : _ = ((.int v2) : Value))) rfl ?_
  refine Gz.istore 25 #[.val (.ref a0), .val (.int (((0 : Int32) + v0) + v1)), .val (.ref ac), .val (.int (3 : Int32)), .val (.int (2 : Int32)), .val (.int v2)] X1 hx (dd d4_23) rfl rfl ?_
  refine Gz.iloadN 26 X1 hx (dd d4_25) rfl rfl ?_
  refine Gz.iload 28 X1 hx (dd d4_26) rfl rfl ?_
  refine Gz.iadd 29 X1 hx (dd d4_28) rfl ?_
  refine Gz.istoreN 30 #[.val (.ref a0), .val (.int ((((0 : Int32) + v0) + v1) + v2)), .val (.ref ac), .val (.int (3 : Int32)), .val (.int (2 : Int32)), .val (.int v2)] X1 hx (dd d4_29) rfl rfl ?_
  refine Gz.iinc 33 #[.val (.ref a0), .val (.int ((((0 : Int32) + v0) + v1) + v2)), .val (.ref ac), .val (.int (3 : Int32)), .val (.int (3 : Int32)), .val (.int v2)] X1 hx (dd d4_30) rfl rfl rfl ?_
  refine Gz.goto 13 X1 hx (dd d4_33) (by decide) (by decide) ?_
  refine Gz.iload 15 X1 hx (dd d4_13) rfl rfl ?_
  refine Gz.iloadN 16 X1 hx (dd d4_15) rfl rfl ?_
  refine Gz.icmpYes 36 X1 hx (dd d4_16) (flt (by decide : ¬ ((3 : Int32) < (3 : Int32)))).2.1 (by decide) (by decide) ?_
  refine Gz.iloadN 37 X1 hx (dd d4_36) rfl rfl ?_
  refine Gz.fin X1 (v := some (.int ((((0 : Int32) + v0) + v1) + v2))) (fun h => by rw [hret] at h; cases h) hlk (by decide) (by decide) (fun fs hr => retI X1 hx hret (dd d4_37) hr) ?_
  rw [e1]
  exact ⟨rfl, N0, rfl⟩
theorem pd_0 : parseMethodDescriptor "([I)J" = some ⟨[(.array .int)], some .long⟩ := by decide +kernel
theorem d1_0 : decode prog_43_method_1_code 0 = .ok (.aload_n 0, 1) := by decide +kernel
theorem d1_1 : decode prog_43_method_1_code 1 = .ok (.invokespecial 3, 3) := by decide +kernel
theorem d1_4 : decode prog_43_method_1_code 4 = .ok (.aload_n 1, 1) := by decide +kernel
theorem d1_5 : decode prog_43_method_1_code 5 = .ok (.invokestatic 9, 3) := by decide +kernel
theorem d1_8 : decode prog_43_method_1_code 8 = .ok (.lstore_n 2, 1) := by decide +kernel
theorem d1_9 : decode prog_43_method_1_code 9 = .ok (.lload_n 2, 1) := by decide +kernel
theorem d1_10 : decode prog_43_method_1_code 10 = .ok (.ldc2_w 15, 3) := by decide +kernel
theorem d1_13 : decode prog_43_method_1_code 13 = .ok (.lcmp, 1) := by decide +kernel
theorem d1_14 : decode prog_43_method_1_code 14 = .ok (.ifCond .le 17, 3) := by decide +kernel
theorem d1_31 : decode prog_43_method_1_code 31 = .ok (.aload_n 1, 1) := by decide +kernel
theorem d1_32 : decode prog_43_method_1_code 32 = .ok (.arraylength, 1) := by decide +kernel
theorem d1_33 : decode prog_43_method_1_code 33 = .ok (.istore 4, 2) := by decide +kernel
theorem d1_35 : decode prog_43_method_1_code 35 = .ok (.aload_n 0, 1) := by decide +kernel
theorem d1_36 : decode prog_43_method_1_code 36 = .ok (.aload_n 1, 1) := by decide +kernel
theorem d1_37 : decode prog_43_method_1_code 37 = .ok (.invokevirtual 26, 3) := by decide +kernel
theorem d1_40 : decode prog_43_method_1_code 40 = .ok (.checkcast 27, 3) := by decide +kernel
theorem d1_43 : decode prog_43_method_1_code 43 = .ok (.putfield 32, 3) := by decide +kernel
theorem d1_46 : decode prog_43_method_1_code 46 = .ok (.aload_n 0, 1) := by decide +kernel
theorem d1_47 : decode prog_43_method_1_code 47 = .ok (.iload 4, 2) := by decide +kernel
theorem d1_49 : decode prog_43_method_1_code 49 = .ok (.iload 4, 2) := by decide +kernel
theorem d1_51 : decode prog_43_method_1_code 51 = .ok (.multianewarray 35 2, 4) := by decide +kernel
theorem d1_55 : decode prog_43_method_1_code 55 = .ok (.putfield 37, 3) := by decide +kernel
theorem d1_58 : decode prog_43_method_1_code 58 = .ok (.iload 4, 2) := by decide +kernel
theorem d1_60 : decode prog_43_method_1_code 60 = .ok (.iload 4, 2) := by decide +kernel
theorem d1_62 : decode prog_43_method_1_code 62 = .ok (.iconst 1, 1) := by decide +kernel
theorem d1_63 : decode prog_43_method_1_code 63 = .ok (.isub, 1) := by decide +kernel
theorem d1_64 : decode prog_43_method_1_code 64 = .ok (.imul, 1) := by decide +kernel
theorem d1_65 : decode prog_43_method_1_code 65 = .ok (.iconst 2, 1) := by decide +kernel
theorem d1_66 : decode prog_43_method_1_code 66 = .ok (.idiv, 1) := by decide +kernel
theorem d1_67 : decode prog_43_method_1_code 67 = .ok (.istore 5, 2) := by decide +kernel
theorem d1_69 : decode prog_43_method_1_code 69 = .ok (.aload_n 0, 1) := by decide +kernel
theorem d1_70 : decode prog_43_method_1_code 70 = .ok (.iload 5, 2) := by decide +kernel
theorem d1_72 : decode prog_43_method_1_code 72 = .ok (.newarray .int, 2) := by decide +kernel
theorem d1_74 : decode prog_43_method_1_code 74 = .ok (.putfield 40, 3) := by decide +kernel
theorem d1_77 : decode prog_43_method_1_code 77 = .ok (.aload_n 0, 1) := by decide +kernel
theorem d1_78 : decode prog_43_method_1_code 78 = .ok (.iload 5, 2) := by decide +kernel
theorem d1_80 : decode prog_43_method_1_code 80 = .ok (.newarray .int, 2) := by decide +kernel
theorem d1_82 : decode prog_43_method_1_code 82 = .ok (.putfield 43, 3) := by decide +kernel
theorem d1_85 : decode prog_43_method_1_code 85 = .ok (.aload_n 0, 1) := by decide +kernel
theorem d1_86 : decode prog_43_method_1_code 86 = .ok (.iload 5, 2) := by decide +kernel
theorem d1_88 : decode prog_43_method_1_code 88 = .ok (.newarray .int, 2) := by decide +kernel
theorem d1_90 : decode prog_43_method_1_code 90 = .ok (.putfield 46, 3) := by decide +kernel
theorem d1_93 : decode prog_43_method_1_code 93 = .ok (.iconst 0, 1) := by decide +kernel
theorem d1_94 : decode prog_43_method_1_code 94 = .ok (.istore 6, 2) := by decide +kernel
theorem d1_96 : decode prog_43_method_1_code 96 = .ok (.iconst 0, 1) := by decide +kernel
theorem d1_97 : decode prog_43_method_1_code 97 = .ok (.istore 7, 2) := by decide +kernel
theorem d1_99 : decode prog_43_method_1_code 99 = .ok (.iconst 0, 1) := by decide +kernel
theorem d1_100 : decode prog_43_method_1_code 100 = .ok (.istore 8, 2) := by decide +kernel
theorem d1_102 : decode prog_43_method_1_code 102 = .ok (.iload 8, 2) := by decide +kernel
theorem d1_104 : decode prog_43_method_1_code 104 = .ok (.iload 4, 2) := by decide +kernel
theorem d1_106 : decode prog_43_method_1_code 106 = .ok (.if_icmp .ge 84, 3) := by decide +kernel
theorem d1_190 : decode prog_43_method_1_code 190 = .ok (.aload_n 0, 1) := by decide +kernel
theorem d1_191 : decode prog_43_method_1_code 191 = .ok (.iload 6, 2) := by decide +kernel
theorem d1_193 : decode prog_43_method_1_code 193 = .ok (.putfield 49, 3) := by decide +kernel
theorem d1_196 : decode prog_43_method_1_code 196 = .ok (.return_, 1) := by decide +kernel
theorem ef_rmI0 (m : MethodId) (a0 : Addr) (a1 : Addr) : entryFrame m #[(.ref a0), (.ref a1)] 10 = mkF m 0 #[.val (.ref a0), .val (.ref a1), .unset, .unset, .unset, .unset, .unset, .unset, .unset, .unset] [] := by first | (simp [entryFrame, mkF, argsToLocals, Value.category]; done) | rfl
def Q_rmI0 (Z : State) (a0 : Addr) (a1 : Addr) (k_a1 : ClassId) (h0 : Heap) (n0 : Nat) (v : Option Value) (h : Heap) (L : List Loc) : Prop := v = none ∧ Fr n0 L ∧ Keep h0 h [a0] ∧ Exa Z h a0 "com/example/minsuite/minsuite/ValuePairs" ∧ ∃ (ac : Addr) (kc : ClassId), h0.size ≤ ac ∧ Fld Z h a0 "com/example/minsuite/minsuite/ValuePairs" "valueCounts" "[I" (.ref ac) ∧ Arv Z h ac kc .int (0 : Int32) [] (.int (0 : Int32))
set_option maxRecDepth 65536 in
set_option maxHeartbeats 40000000 in
theorem rmI0 (l : Launch) (Z : State) (av0 : Array Value) (hw : ∀ d ∈ tables_1, d.before av0 Z = true) (ws : List Jvm.Cond) (a0 : Addr) (a1 : Addr) (k_a1 : ClassId) (h0 : Heap) (n0 : Nat) (Z0 : n0 ≤ h0.size) (E_a0 : Exa Z h0 a0 "com/example/minsuite/minsuite/ValuePairs") (F_valueCounts_a0 : Fld Z h0 a0 "com/example/minsuite/minsuite/ValuePairs" "valueCounts" "[I" .null) (F_start_a0 : Fld Z h0 a0 "com/example/minsuite/minsuite/ValuePairs" "start" "[[I" .null) (F_firstOf_a0 : Fld Z h0 a0 "com/example/minsuite/minsuite/ValuePairs" "firstOf" "[I" .null) (F_secondOf_a0 : Fld Z h0 a0 "com/example/minsuite/minsuite/ValuePairs" "secondOf" "[I" .null) (F_startOf_a0 : Fld Z h0 a0 "com/example/minsuite/minsuite/ValuePairs" "startOf" "[I" .null) (F_count_a0 : Fld Z h0 a0 "com/example/minsuite/minsuite/ValuePairs" "count" "I" (.int (0 : Int32))) (g_a0 : n0 ≤ a0) (V_a1 : Arv Z h0 a1 k_a1 .int (0 : Int32) [] (.int (0 : Int32))) (E_a1 : Exa Z h0 a1 "[I") (ne_a1_a0 : a1 ≠ a0) (hcnt : ¬ ((2147483639 : Int64) < (fC0 a1))) :
    MetFree l (⟨"com/example/minsuite/minsuite/ValuePairs", "<init>", "([I)V"⟩ : MethodName) (head1 (Jvm.Cond.code (⟨"com/example/minsuite/minsuite/ValuePairs", "<init>", "([I)V"⟩ : MethodName) prog_43_method_1_code 10 none :: ws) ({ frames := 1, cells := 5, slots := 0, locals := 20 } : Room)) (fun a U => a = #[(.ref a0), (.ref a1)] ∧ Z.Warmed39 U.vm ∧ U.heap = h0) (fun _ _ _ _ _ => True) (fun _ U o U' => ∃ v L, o = .returned v ∧ Q_rmI0 Z a0 a1 k_a1 h0 n0 v U'.heap L ∧ FrameEnd U o U' L ({ frames := 1, cells := 5, slots := 0, locals := 20 } : Room).cells ({ frames := 1, cells := 5, slots := 0, locals := 20 } : Room).slots) := by
  refine MetFree.of_bodySF (plainFor_of_name pn_0) hisR ?_
  intro p e s m args below meth c s₁ Bd hml0 hP hK
  obtain ⟨rfl, hZ, hh⟩ := hP
  have hx := Bd.exec
  have hby := Bd.bytes
  have hml : c.maxLocals = 10 := hml0
  have dd : ∀ {pc : Nat} {r : Except DecodeError (Instr × Nat)}, decode prog_43_method_1_code pc = r → decode c.code pc = r := fun q => hb hby q
  have hown : s.vm.findClass "com/example/minsuite/minsuite/ValuePairs" = some m.cls := findClass_of_methodNamed Bd.named
  have hnm := (name_of_methodNamed Bd.named Bd.method).1
  have X0 : Stand p l e ({ frames := 1, cells := 5, slots := 0, locals := 20 } : Room) s m #[(.ref a0), (.ref a1)] below meth c s₁ [] 0 0 := Stand.of_body Bd
  have e0 : s₁.heap = h0 := by rw [← hh, Bd.state]; rfl
  have N0 := Fr.nil n0
  have hret := Bd.returns
  have hlk := Bd.notSynchronized
  show Gz p e below s ({ frames := 1, cells := 5, slots := 0, locals := 20 } : Room).cells ({ frames := 1, cells := 5, slots := 0, locals := 20 } : Room).slots (Q_rmI0 Z a0 a1 k_a1 h0 n0) (s₁.setTop (entryFrame m #[(.ref a0), (.ref a1)] 10))
  refine Gz.enter (ef_rmI0 m a0 a1) ?_
  refine Gz.aloadN 1 X0 hx (dd d1_0) rfl rfl rfl ?_
  obtain ⟨T1, X1, e1, st1⟩ := initO X0 hx hZ hown (ww hw 7 rfl) (ww hw 8 rfl) (ww hw 9 rfl) e0 (g := (mkF m 1 #[.val (.ref a0), .val (.ref a1), .unset, .unset, .unset, .unset, .unset, .unset, .unset, .unset] [(.ref a0)])) rfl (by rw [hml]; rfl) rfl (dd d1_1) (by decide) (W := 0) (by show 2 * 0 + _ ≤ _; exact Nat.le_of_eq rfl) (by decide)
  refine Gz.st st1 ?_
  refine Gz.aloadN 5 X1 hx (dd d1_4) rfl rfl rfl ?_
  obtain ⟨_, _, ⟨T2, L2, k2, n2⟩, -, X2, ⟨Lc2, hQ2, l2, y2, z2⟩, st2⟩ := Jvm.LawKit.callS X1 hx (y := (⟨"com/example/minsuite/minsuite/ValuePairs", "count", "([I)J"⟩ : MethodName)) hown (mvT hZ (ww hw 10 rfl)) (mvT hZ (ww hw 11 rfl)) (mvT hZ (ww hw 3 rfl)) (mvT hZ (ww hw 12 rfl)) (by decide) (backOf (W := 0) (rmC0 l Z av0 hw [] a1 k_a1 h0 n0 Z0 V_a1) hZ (ww hw 12 rfl) (ww hw 3 rfl) (by decide) (by decide)) (g := (mkF m 5 #[.val (.ref a0), .val (.ref a1), .unset, .unset, .unset, .unset, .unset, .unset, .unset, .unset] [(.ref a1)])) rfl (by rw [hml]; rfl) (argsL := [(.ref a1)]) (rest := []) (lenOf pd_0 rfl) rfl (by show 2 * 0 + _ ≤ _; exact Nat.le_of_eq rfl) (dd d1_5) (fun _ _ => ⟨rfl, e1, (by decide : 0 + 0 ≤ _), (by decide : 0 + 0 ≤ _)⟩)
  dsimp only [Pt.U, Pt.locs, Pt.cells, Pt.slots, Q_rmC0] at X2 l2 y2 z2 st2 hQ2
  subst l2 y2 z2
  obtain ⟨rfl, N2q, e2⟩ := hQ2
  have N2 := Fr.app N0 N2q
  refine Gz.st st2 ?_
  refine Gz.lstoreN 9 #[.val (.ref a0), .val (.ref a1), .val (.long (fC0 a1)), .second, .unset, .unset, .unset, .unset, .unset, .unset] X2 hx (dd d1_8) rfl rfl ?_
  refine Gz.lloadN 10 X2 hx (dd d1_9) rfl rfl ?_
  refine Gz.ldc2J 13 X2 hx (dd d1_10) hown (mvT hZ (ww hw 13 rfl)) rfl ?_
  refine Gz.lcmp 14 X2 hx (dd d1_13) rfl ?_
  refine Gz.ifYes 31 X2 hx (dd d1_14) ((if0 _ _).trans (flt (fun q => (hcnt : ¬ ((2147483639 : Int64) < (fC0 a1))) ((lw_gt _ _).mp q))).2.2.2) (by decide) (by decide) ?_
  refine Gz.aloadN 32 X2 hx (dd d1_31) rfl rfl rfl ?_
  obtain ⟨c3, A3, -, S3, N3, -, -⟩ := id V_a1
  refine Gz.alen 33 X2 hx hZ (dd d1_32) e2 A3 S3 N3 rfl ?_
  refine Gz.istore 35 #[.val (.ref a0), .val (.ref a1), .val (.long (fC0 a1)), .second, .val (.int (0 : Int32)), .unset, .unset, .unset, .unset, .unset] X2 hx (dd d1_33) rfl rfl ?_
  refine Gz.aloadN 36 X2 hx (dd d1_35) rfl rfl rfl ?_
  refine Gz.aloadN 37 X2 hx (dd d1_36) rfl rfl rfl ?_
  obtain ⟨T4, h4, X4, e4, E4, A4, Q4, st4⟩ := cloneH X2 hx hZ hown (ww hw 14 rfl) (ww hw 15 rfl) (ww hw 19 rfl) (ww hw 17 rfl) (ww hw 18 rfl) (ww hw 20 rfl) e2 (Arv.arh V_a1) E_a1 (g := (mkF m 37 #[.val (.ref a0), .val (.ref a1), .val (.long (fC0 a1)), .second, .val (.int (0 : Int32)), .unset, .unset, .unset, .unset, .unset] [(.ref a1), (.ref a0)])) rfl (by rw [hml]; rfl) rfl (dd d1_37) (by decide) (W := 1) (by show 2 * 0 + _ ≤ _; exact Nat.le_of_eq rfl) (by decide) (cap := 0) (by decide) (by decide) (by decide)
  obtain ⟨b4, g4⟩ : ∃ z, z = h0.size := ⟨_, rfl⟩
  rw [← g4] at A4 Q4 st4
  have ne_a0_b4 : a0 ≠ b4 := Nat.ne_of_lt (Nat.lt_of_lt_of_le (E_a0).lt (Nat.le_of_eq g4.symm))
  have ne_a1_b4 : a1 ≠ b4 := Nat.ne_of_lt (Nat.lt_of_lt_of_le (V_a1).lt (Nat.le_of_eq g4.symm))
  have g_b4 : n0 ≤ b4 := Nat.le_trans Z0 (Nat.le_of_eq g4.symm)
  have SZ4 : n0 ≤ h4.size := Nat.le_trans Z0 E4.1
  have sz_b4 : h0.size ≤ b4 := Nat.le_trans (Keep.refl h0 [a0]).1 (Nat.le_of_eq g4.symm)
  have K4 := Keep.ext (Keep.refl h0 [a0]) E4
  have f4_E_a0 := Exa.ext E4 E_a0
  have f4_F_valueCounts_a0 := Fld.ext E4 F_valueCounts_a0
  have f4_F_start_a0 := Fld.ext E4 F_start_a0
  have f4_F_firstOf_a0 := Fld.ext E4 F_firstOf_a0
  have f4_F_secondOf_a0 := Fld.ext E4 F_secondOf_a0
  have f4_F_startOf_a0 := Fld.ext E4 F_startOf_a0
  have f4_F_count_a0 := Fld.ext E4 F_count_a0
  have f4_V_a1 := Arv.ext V_a1 E4
  have f4_E_a1 := Exa.ext E4 E_a1
  have V4 : Arv Z h4 b4 k_a1 .int (0 : Int32) [] (.int (0 : Int32)) := A4
  refine Gz.st st4 ?_
  refine Gz.castY 43 X4 hx hZ hown (dd d1_40) (ww hw 21 rfl) e4 (Ins.self Q4) rfl fun T5 X5 e5 => ?_
  refine Gz.putF 46 X5 hx hZ hown (.array .int) (dd d1_43) (host := "") (Or.inl (ww hw 23 rfl)) Via.refl e5 f4_F_valueCounts_a0 f4_E_a0 (Or.inr ⟨(ww hw 24 rfl), rfl, hnm⟩) (ww hw 2 rfl) (by decide) rfl rfl rfl fun T6 h6 X6 e6 W6 => ?_
  have f6_E_a0 := Exa.wr W6 f4_E_a0
  have f6_F_start_a0 := Fld.other W6 f4_F_start_a0 (Or.inr (slot_ne (Or.inr (ww hw 28 rfl)) (Or.inr (ww hw 24 rfl)) (by decide) (t := (.array (.array .int))) (t' := (.array .int)) (by decide) (by decide)))
  have f6_F_firstOf_a0 := Fld.other W6 f4_F_firstOf_a0 (Or.inr (slot_ne (Or.inr (ww hw 30 rfl)) (Or.inr (ww hw 24 rfl)) (by decide) (t := (.array .int)) (t' := (.array .int)) (by decide) (by decide)))
  have f6_F_secondOf_a0 := Fld.other W6 f4_F_secondOf_a0 (Or.inr (slot_ne (Or.inr (ww hw 32 rfl)) (Or.inr (ww hw 24 rfl)) (by decide) (t := (.array .int)) (t' := (.array .int)) (by decide) (by decide)))
  have f6_F_startOf_a0 := Fld.other W6 f4_F_startOf_a0 (Or.inr (slot_ne (Or.inr (ww hw 34 rfl)) (Or.inr (ww hw 24 rfl)) (by decide) (t := (.array .int)) (t' := (.array .int)) (by decide) (by decide)))
  have f6_F_count_a0 := Fld.other W6 f4_F_count_a0 (Or.inr (slot_ne (Or.inr (ww hw 36 rfl)) (Or.inr (ww hw 24 rfl)) (by decide) (t := .int) (t' := (.array .int)) (by decide) (by decide)))
  have f6_V_a1 := Arv.other f4_V_a1 W6 ne_a1_a0
  have f6_E_a1 := Exa.wr W6 f4_E_a1
  have f6_Eb4 := Exa.wr W6 Q4
  have f6_Vb4 := Arv.other V4 W6 (Ne.symm ne_a0_b4)
  have f6_F_valueCounts_a0 := Fld.same W6 f4_F_valueCounts_a0
  have N6 := Fr.snoc X6 N2 g_a0
  have SZ6 : n0 ≤ h6.size := Nat.le_trans SZ4 (Keep.of_wr W6).1
  have K6 := Keep.wr K4 W6 (Or.inl (List.mem_of_getElem? (i := 0) rfl))
  refine Gz.aloadN 47 X6 hx (dd d1_46) rfl rfl rfl ?_
  refine Gz.iload 49 X6 hx (dd d1_47) rfl rfl ?_
  refine Gz.iload 51 X6 hx (dd d1_49) rfl rfl ?_
  obtain ⟨T7, h7, k7, kr7, X7, e7, E7, A7, O7, Q7, Rw7, st7⟩ := gridM X6 hx hZ hown (ty := .int) (C := "[I") (ad := "[[I") rfl rfl (ww hw 25 rfl) (ww hw 26 rfl) (ww hw 0 rfl) e6 (g := (mkF m 51 #[.val (.ref a0), .val (.ref a1), .val (.long (fC0 a1)), .second, .val (.int (0 : Int32)), .unset, .unset, .unset, .unset, .unset] [(.int (0 : Int32)), (.int (0 : Int32)), (.ref a0)])) rfl (dd d1_51) rfl (by decide) (by decide) (xs := []) (N := 0) (by decide) (by rw [List.range_zero]; rfl) (cap := 0) (by decide) (by decide) (by decide) rfl rfl (by decide) (by decide)
  obtain ⟨b7, g7⟩ : ∃ z, z = h6.size := ⟨_, rfl⟩
  rw [← g7] at A7 Q7 st7
  have ne_a0_b7 : a0 ≠ b7 := Nat.ne_of_lt (Nat.lt_of_lt_of_le (f6_E_a0).lt (Nat.le_of_eq g7.symm))
  have ne_a1_b7 : a1 ≠ b7 := Nat.ne_of_lt (Nat.lt_of_lt_of_le (f6_V_a1).lt (Nat.le_of_eq g7.symm))
  have ne_b4_b7 : b4 ≠ b7 := Nat.ne_of_lt (Nat.lt_of_lt_of_le (f6_Eb4).lt (Nat.le_of_eq g7.symm))
  have g_b7 : n0 ≤ b7 := Nat.le_trans SZ6 (Nat.le_of_eq g7.symm)
  have SZ7 : n0 ≤ h7.size := Nat.le_trans SZ6 E7.1
  have sz_b7 : h0.size ≤ b7 := Nat.le_trans K6.1 (Nat.le_of_eq g7.symm)
  have K7 := Keep.ext K6 E7
  have f7_E_a0 := Exa.ext E7 f6_E_a0
  have f7_F_valueCounts_a0 := Fld.ext E7 f6_F_valueCounts_a0
  have f7_F_start_a0 := Fld.ext E7 f6_F_start_a0
  have f7_F_firstOf_a0 := Fld.ext E7 f6_F_firstOf_a0
  have f7_F_secondOf_a0 := Fld.ext E7 f6_F_secondOf_a0
  have f7_F_startOf_a0 := Fld.ext E7 f6_F_startOf_a0
  have f7_F_count_a0 := Fld.ext E7 f6_F_count_a0
  have f7_V_a1 := Arv.ext f6_V_a1 E7
  have f7_E_a1 := Exa.ext E7 f6_E_a1
  have f7_Eb4 := Exa.ext E7 f6_Eb4
  have f7_Vb4 := Arv.ext f6_Vb4 E7
  have V7 : Arv Z h7 b7 k7 (.array .int) (0 : Int32) [] .null := A7
  refine Gz.st st7 ?_
  refine Gz.putF 58 X7 hx hZ hown (.array (.array .int)) (dd d1_55) (host := "") (Or.inl (ww hw 27 rfl)) Via.refl e7 f7_F_start_a0 f7_E_a0 (Or.inr ⟨(ww hw 28 rfl), rfl, hnm⟩) (ww hw 2 rfl) (by decide) rfl rfl rfl fun T8 h8 X8 e8 W8 => ?_
  have f8_E_a0 := Exa.wr W8 f7_E_a0
  have f8_F_valueCounts_a0 := Fld.other W8 f7_F_valueCounts_a0 (Or.inr (slot_ne (Or.inr (ww hw 24 rfl)) (Or.inr (ww hw 28 rfl)) (by decide) (t := (.array .int)) (t' := (.array (.array .int))) (by decide) (by decide)))
  have f8_F_firstOf_a0 := Fld.other W8 f7_F_firstOf_a0 (Or.inr (slot_ne (Or.inr (ww hw 30 rfl)) (Or.inr (ww hw 28 rfl)) (by decide) (t := (.array .int)) (t' := (.array (.array .int))) (by decide) (by decide)))
  have f8_F_secondOf_a0 := Fld.other W8 f7_F_secondOf_a0 (Or.inr (slot_ne (Or.inr (ww hw 32 rfl)) (Or.inr (ww hw 28 rfl)) (by decide) (t := (.array .int)) (t' := (.array (.array .int))) (by decide) (by decide)))
  have f8_F_startOf_a0 := Fld.other W8 f7_F_startOf_a0 (Or.inr (slot_ne (Or.inr (ww hw 34 rfl)) (Or.inr (ww hw 28 rfl)) (by decide) (t := (.array .int)) (t' := (.array (.array .int))) (by decide) (by decide)))
  have f8_F_count_a0 := Fld.other W8 f7_F_count_a0 (Or.inr (slot_ne (Or.inr (ww hw 36 rfl)) (Or.inr (ww hw 28 rfl)) (by decide) (t := .int) (t' := (.array (.array .int))) (by decide) (by decide)))
  have f8_V_a1 := Arv.other f7_V_a1 W8 ne_a1_a0
  have f8_E_a1 := Exa.wr W8 f7_E_a1
  have f8_Eb4 := Exa.wr W8 f7_Eb4
  have f8_Vb4 := Arv.other f7_Vb4 W8 (Ne.symm ne_a0_b4)
  have f8_Eb7 := Exa.wr W8 Q7
  have f8_Vb7 := Arv.other V7 W8 (Ne.symm ne_a0_b7)
  have f8_F_start_a0 := Fld.same W8 f7_F_start_a0
  have N8 := Fr.snoc X8 N6 g_a0
  have SZ8 : n0 ≤ h8.size := Nat.le_trans SZ7 (Keep.of_wr W8).1
  have K8 := Keep.wr K7 W8 (Or.inl (List.mem_of_getElem? (i := 0) rfl))
  refine Gz.iload 60 X8 hx (dd d1_58) rfl rfl ?_
  refine Gz.iload 62 X8 hx (dd d1_60) rfl rfl ?_
  refine Gz.iconst 63 (1 : Int32) X8 hx (dd d1_62) rfl rfl ?_
  refine Gz.isubV 64 (-1 : Int32) X8 hx (dd d1_63) rfl rfl ?_
  refine Gz.imulV 65 (0 : Int32) X8 hx (dd d1_64) rfl rfl ?_
  refine Gz.iconst 66 (2 : Int32) X8 hx (dd d1_65) rfl rfl ?_
  refine Gz.idivV 67 (0 : Int32) X8 hx (dd d1_66) (by decide) rfl rfl ?_
  refine Gz.istore 69 #[.val (.ref a0), .val (.ref a1), .val (.long (fC0 a1)), .second, .val (.int (0 : Int32)), .val (.int (0 : Int32)), .unset, .unset, .unset, .unset] X8 hx (dd d1_67) rfl rfl ?_
  refine Gz.aloadN 70 X8 hx (dd d1_69) rfl rfl rfl ?_
  refine Gz.iload 72 X8 hx (dd d1_70) rfl rfl ?_
  obtain ⟨T9, h9, k9, X9, e9, E9, A9, Q9, st9⟩ := newPE X8 hx hZ (ww hw 0 rfl) e8 (g := (mkF m 72 #[.val (.ref a0), .val (.ref a1), .val (.long (fC0 a1)), .second, .val (.int (0 : Int32)), .val (.int (0 : Int32)), .unset, .unset, .unset, .unset] [(.int (0 : Int32)), (.ref a0)])) rfl (dd d1_72) rfl (by decide) (cap := 0) (by decide) (by decide) (by decide) (by decide) (ad := "[I") rfl
  obtain ⟨b9, g9⟩ : ∃ z, z = h8.size := ⟨_, rfl⟩
  rw [← g9] at A9 Q9 st9
  have ne_a0_b9 : a0 ≠ b9 := Nat.ne_of_lt (Nat.lt_of_lt_of_le (f8_E_a0).lt (Nat.le_of_eq g9.symm))
  have ne_a1_b9 : a1 ≠ b9 := Nat.ne_of_lt (Nat.lt_of_lt_of_le (f8_V_a1).lt (Nat.le_of_eq g9.symm))
  have ne_b4_b9 : b4 ≠ b9 := Nat.ne_of_lt (Nat.lt_of_lt_of_le (f8_Eb4).lt (Nat.le_of_eq g9.symm))
  have ne_b7_b9 : b7 ≠ b9 := Nat.ne_of_lt (Nat.lt_of_lt_of_le (f8_Eb7).lt (Nat.le_of_eq g9.symm))
  have g_b9 : n0 ≤ b9 := Nat.le_trans SZ8 (Nat.le_of_eq g9.symm)
  have SZ9 : n0 ≤ h9.size := Nat.le_trans SZ8 E9.1
  have sz_b9 : h0.size ≤ b9 := Nat.le_trans K8.1 (Nat.le_of_eq g9.symm)
  have K9 := Keep.ext K8 E9
  have f9_E_a0 := Exa.ext E9 f8_E_a0
  have f9_F_valueCounts_a0 := Fld.ext E9 f8_F_valueCounts_a0
  have f9_F_start_a0 := Fld.ext E9 f8_F_start_a0
  have f9_F_firstOf_a0 := Fld.ext E9 f8_F_firstOf_a0
  have f9_F_secondOf_a0 := Fld.ext E9 f8_F_secondOf_a0
  have f9_F_startOf_a0 := Fld.ext E9 f8_F_startOf_a0
  have f9_F_count_a0 := Fld.ext E9 f8_F_count_a0
  have f9_V_a1 := Arv.ext f8_V_a1 E9
  have f9_E_a1 := Exa.ext E9 f8_E_a1
  have f9_Eb4 := Exa.ext E9 f8_Eb4
  have f9_Vb4 := Arv.ext f8_Vb4 E9
  have f9_Eb7 := Exa.ext E9 f8_Eb7
  have f9_Vb7 := Arv.ext f8_Vb7 E9
  have V9 : Arv Z h9 b9 k9 .int (0 : Int32) [] (.int (0 : Int32)) := (Arv.new A9 (by decide)).pad (pad_rep [] (.int (0 : Int32)) 0)
  refine Gz.st st9 ?_
  refine Gz.putF 77 X9 hx hZ hown (.array .int) (dd d1_74) (host := "") (Or.inl (ww hw 29 rfl)) Via.refl e9 f9_F_firstOf_a0 f9_E_a0 (Or.inr ⟨(ww hw 30 rfl), rfl, hnm⟩) (ww hw 2 rfl) (by decide) rfl rfl rfl fun T10 h10 X10 e10 W10 => ?_
  have f10_E_a0 := Exa.wr W10 f9_E_a0
  have f10_F_valueCounts_a0 := Fld.other W10 f9_F_valueCounts_a0 (Or.inr (slot_ne (Or.inr (ww hw 24 rfl)) (Or.inr (ww hw 30 rfl)) (by decide) (t := (.array .int)) (t' := (.array .int)) (by decide) (by decide)))
  have f10_F_start_a0 := Fld.other W10 f9_F_start_a0 (Or.inr (slot_ne (Or.inr (ww hw 28 rfl)) (Or.inr (ww hw 30 rfl)) (by decide) (t := (.array (.array .int))) (t' := (.array .int)) (by decide) (by decide)))
  have f10_F_secondOf_a0 := Fld.other W10 f9_F_secondOf_a0 (Or.inr (slot_ne (Or.inr (ww hw 32 rfl)) (Or.inr (ww hw 30 rfl)) (by decide) (t := (.array .int)) (t' := (.array .int)) (by decide) (by decide)))
  have f10_F_startOf_a0 := Fld.other W10 f9_F_startOf_a0 (Or.inr (slot_ne (Or.inr (ww hw 34 rfl)) (Or.inr (ww hw 30 rfl)) (by decide) (t := (.array .int)) (t' := (.array .int)) (by decide) (by decide)))
  have f10_F_count_a0 := Fld.other W10 f9_F_count_a0 (Or.inr (slot_ne (Or.inr (ww hw 36 rfl)) (Or.inr (ww hw 30 rfl)) (by decide) (t := .int) (t' := (.array .int)) (by decide) (by decide)))
  have f10_V_a1 := Arv.other f9_V_a1 W10 ne_a1_a0
  have f10_E_a1 := Exa.wr W10 f9_E_a1
  have f10_Eb4 := Exa.wr W10 f9_Eb4
  have f10_Vb4 := Arv.other f9_Vb4 W10 (Ne.symm ne_a0_b4)
  have f10_Eb7 := Exa.wr W10 f9_Eb7
  have f10_Vb7 := Arv.other f9_Vb7 W10 (Ne.symm ne_a0_b7)
  have f10_Eb9 := Exa.wr W10 Q9
  have f10_Vb9 := Arv.other V9 W10 (Ne.symm ne_a0_b9)
  have f10_F_firstOf_a0 := Fld.same W10 f9_F_firstOf_a0
  have N10 := Fr.snoc X10 N8 g_a0
  have SZ10 : n0 ≤ h10.size := Nat.le_trans SZ9 (Keep.of_wr W10).1
  have K10 := Keep.wr K9 W10 (Or.inl (List.mem_of_getElem? (i := 0) rfl))
  refine Gz.aloadN 78 X10 hx (dd d1_77) rfl rfl rfl ?_
  refine Gz.iload 80 X10 hx (dd d1_78) rfl rfl ?_
  obtain ⟨T11, h11, k11, X11, e11, E11, A11, Q11, st11⟩ := newPE X10 hx hZ (ww hw 0 rfl) e10 (g := (mkF m 80 #[.val (.ref a0), .val (.ref a1), .val (.long (fC0 a1)), .second, .val (.int (0 : Int32)), .val (.int (0 : Int32)), .unset, .unset, .unset, .unset] [(.int (0 : Int32)), (.ref a0)])) rfl (dd d1_80) rfl (by decide) (cap := 0) (by decide) (by decide) (by decide) (by decide) (ad := "[I") rfl
  obtain ⟨b11, g11⟩ : ∃ z, z = h10.size := ⟨_, rfl⟩
  rw [← g11] at A11 Q11 st11
  have ne_a0_b11 : a0 ≠ b11 := Nat.ne_of_lt (Nat.lt_of_lt_of_le (f10_E_a0).lt (Nat.le_of_eq g11.symm))
  have ne_a1_b11 : a1 ≠ b11 := Nat.ne_of_lt (Nat.lt_of_lt_of_le (f10_V_a1).lt (Nat.le_of_eq g11.symm))
  have ne_b4_b11 : b4 ≠ b11 := Nat.ne_of_lt (Nat.lt_of_lt_of_le (f10_Eb4).lt (Nat.le_of_eq g11.symm))
  have ne_b7_b11 : b7 ≠ b11 := Nat.ne_of_lt (Nat.lt_of_lt_of_le (f10_Eb7).lt (Nat.le_of_eq g11.symm))
  have ne_b9_b11 : b9 ≠ b11 := Nat.ne_of_lt (Nat.lt_of_lt_of_le (f10_Eb9).lt (Nat.le_of_eq g11.symm))
  have g_b11 : n0 ≤ b11 := Nat.le_trans SZ10 (Nat.le_of_eq g11.symm)
  have SZ11 : n0 ≤ h11.size := Nat.le_trans SZ10 E11.1
  have sz_b11 : h0.size ≤ b11 := Nat.le_trans K10.1 (Nat.le_of_eq g11.symm)
  have K11 := Keep.ext K10 E11
  have f11_E_a0 := Exa.ext E11 f10_E_a0
  have f11_F_valueCounts_a0 := Fld.ext E11 f10_F_valueCounts_a0
  have f11_F_start_a0 := Fld.ext E11 f10_F_start_a0
  have f11_F_firstOf_a0 := Fld.ext E11 f10_F_firstOf_a0
  have f11_F_secondOf_a0 := Fld.ext E11 f10_F_secondOf_a0
  have f11_F_startOf_a0 := Fld.ext E11 f10_F_startOf_a0
  have f11_F_count_a0 := Fld.ext E11 f10_F_count_a0
  have f11_V_a1 := Arv.ext f10_V_a1 E11
  have f11_E_a1 := Exa.ext E11 f10_E_a1
  have f11_Eb4 := Exa.ext E11 f10_Eb4
  have f11_Vb4 := Arv.ext f10_Vb4 E11
  have f11_Eb7 := Exa.ext E11 f10_Eb7
  have f11_Vb7 := Arv.ext f10_Vb7 E11
  have f11_Eb9 := Exa.ext E11 f10_Eb9
  have f11_Vb9 := Arv.ext f10_Vb9 E11
  have V11 : Arv Z h11 b11 k11 .int (0 : Int32) [] (.int (0 : Int32)) := (Arv.new A11 (by decide)).pad (pad_rep [] (.int (0 : Int32)) 0)
  refine Gz.st st11 ?_
  refine Gz.putF 85 X11 hx hZ hown (.array .int) (dd d1_82) (host := "") (Or.inl (ww hw 31 rfl)) Via.refl e11 f11_F_secondOf_a0 f11_E_a0 (Or.inr ⟨(ww hw 32 rfl), rfl, hnm⟩) (ww hw 2 rfl) (by decide) rfl rfl rfl fun T12 h12 X12 e12 W12 => ?_
  have f12_E_a0 := Exa.wr W12 f11_E_a0
  have f12_F_valueCounts_a0 := Fld.other W12 f11_F_valueCounts_a0 (Or.inr (slot_ne (Or.inr (ww hw 24 rfl)) (Or.inr (ww hw 32 rfl)) (by decide) (t := (.array .int)) (t' := (.array .int)) (by decide) (by decide)))
  have f12_F_start_a0 := Fld.other W12 f11_F_start_a0 (Or.inr (slot_ne (Or.inr (ww hw 28 rfl)) (Or.inr (ww hw 32 rfl)) (by decide) (t := (.array (.array .int))) (t' := (.array .int)) (by decide) (by decide)))
  have f12_F_firstOf_a0 := Fld.other W12 f11_F_firstOf_a0 (Or.inr (slot_ne (Or.inr (ww hw 30 rfl)) (Or.inr (ww hw 32 rfl)) (by decide) (t := (.array .int)) (t' := (.array .int)) (by decide) (by decide)))
  have f12_F_startOf_a0 := Fld.other W12 f11_F_startOf_a0 (Or.inr (slot_ne (Or.inr (ww hw 34 rfl)) (Or.inr (ww hw 32 rfl)) (by decide) (t := (.array .int)) (t' := (.array .int)) (by decide) (by decide)))
  have f12_F_count_a0 := Fld.other W12 f11_F_count_a0 (Or.inr (slot_ne (Or.inr (ww hw 36 rfl)) (Or.inr (ww hw 32 rfl)) (by decide) (t := .int) (t' := (.array .int)) (by decide) (by decide)))
  have f12_V_a1 := Arv.other f11_V_a1 W12 ne_a1_a0
  have f12_E_a1 := Exa.wr W12 f11_E_a1
  have f12_Eb4 := Exa.wr W12 f11_Eb4
  have f12_Vb4 := Arv.other f11_Vb4 W12 (Ne.symm ne_a0_b4)
  have f12_Eb7 := Exa.wr W12 f11_Eb7
  have f12_Vb7 := Arv.other f11_Vb7 W12 (Ne.symm ne_a0_b7)
  have f12_Eb9 := Exa.wr W12 f11_Eb9
  have f12_Vb9 := Arv.other f11_Vb9 W12 (Ne.symm ne_a0_b9)
  have f12_Eb11 := Exa.wr W12 Q11
  have f12_Vb11 := Arv.other V11 W12 (Ne.symm ne_a0_b11)
  have f12_F_secondOf_a0 := Fld.same W12 f11_F_secondOf_a0
  have N12 := Fr.snoc X12 N10 g_a0
  have SZ12 : n0 ≤ h12.size := Nat.le_trans SZ11 (Keep.of_wr W12).1
  have K12 := Keep.wr K11 W12 (Or.inl (List.mem_of_getElem? (i := 0) rfl))
  refine Gz.aloadN 86 X12 hx (dd d1_85) rfl rfl rfl ?_
  refine Gz.iload 88 X12 hx (dd d1_86) rfl rfl ?_
  obtain ⟨T13, h13, k13, X13, e13, E13, A13, Q13, st13⟩ := newPE X12 hx hZ (ww hw 0 rfl) e12 (g := (mkF m 88 #[.val (.ref a0), .val (.ref a1), .val (.long (fC0 a1)), .second, .val (.int (0 : Int32)), .val (.int (0 : Int32)), .unset, .unset, .unset, .unset] [(.int (0 : Int32)), (.ref a0)])) rfl (dd d1_88) rfl (by decide) (cap := 0) (by decide) (by decide) (by decide) (by decide) (ad := "[I") rfl
  obtain ⟨b13, g13⟩ : ∃ z, z = h12.size := ⟨_, rfl⟩
  rw [← g13] at A13 Q13 st13
  have ne_a0_b13 : a0 ≠ b13 := Nat.ne_of_lt (Nat.lt_of_lt_of_le (f12_E_a0).lt (Nat.le_of_eq g13.symm))
  have ne_a1_b13 : a1 ≠ b13 := Nat.ne_of_lt (Nat.lt_of_lt_of_le (f12_V_a1).lt (Nat.le_of_eq g13.symm))
  have ne_b4_b13 : b4 ≠ b13 := Nat.ne_of_lt (Nat.lt_of_lt_of_le (f12_Eb4).lt (Nat.le_of_eq g13.symm))
  have ne_b7_b13 : b7 ≠ b13 := Nat.ne_of_lt (Nat.lt_of_lt_of_le (f12_Eb7).lt (Nat.le_of_eq g13.symm))
  have ne_b9_b13 : b9 ≠ b13 := Nat.ne_of_lt (Nat.lt_of_lt_of_le (f12_Eb9).lt (Nat.le_of_eq g13.symm))
  have ne_b11_b13 : b11 ≠ b13 := Nat.ne_of_lt (Nat.lt_of_lt_of_le (f12_Eb11).lt (Nat.le_of_eq g13.symm))
  have g_b13 : n0 ≤ b13 := Nat.le_trans SZ12 (Nat.le_of_eq g13.symm)
  have SZ13 : n0 ≤ h13.size := Nat.le_trans SZ12 E13.1
  have sz_b13 : h0.size ≤ b13 := Nat.le_trans K12.1 (Nat.le_of_eq g13.symm)
  have K13 := Keep.ext K12 E13
  have f13_E_a0 := Exa.ext E13 f12_E_a0
  have f13_F_valueCounts_a0 := Fld.ext E13 f12_F_valueCounts_a0
  have f13_F_start_a0 := Fld.ext E13 f12_F_start_a0
  have f13_F_firstOf_a0 := Fld.ext E13 f12_F_firstOf_a0
  have f13_F_secondOf_a0 := Fld.ext E13 f12_F_secondOf_a0
  have f13_F_startOf_a0 := Fld.ext E13 f12_F_startOf_a0
  have f13_F_count_a0 := Fld.ext E13 f12_F_count_a0
  have f13_V_a1 := Arv.ext f12_V_a1 E13
  have f13_E_a1 := Exa.ext E13 f12_E_a1
  have f13_Eb4 := Exa.ext E13 f12_Eb4
  have f13_Vb4 := Arv.ext f12_Vb4 E13
  have f13_Eb7 := Exa.ext E13 f12_Eb7
  have f13_Vb7 := Arv.ext f12_Vb7 E13
  have f13_Eb9 := Exa.ext E13 f12_Eb9
  have f13_Vb9 := Arv.ext f12_Vb9 E13
  have f13_Eb11 := Exa.ext E13 f12_Eb11
  have f13_Vb11 := Arv.ext f12_Vb11 E13
  have V13 : Arv Z h13 b13 k13 .int (0 : Int32) [] (.int (0 : Int32)) := (Arv.new A13 (by decide)).pad (pad_rep [] (.int (0 : Int32)) 0)
  refine Gz.st st13 ?_
  refine Gz.putF 93 X13 hx hZ hown (.array .int) (dd d1_90) (host := "") (Or.inl (ww hw 33 rfl)) Via.refl e13 f13_F_startOf_a0 f13_E_a0 (Or.inr ⟨(ww hw 34 rfl), rfl, hnm⟩) (ww hw 2 rfl) (by decide) rfl rfl rfl fun T14 h14 X14 e14 W14 => ?_
  have f14_E_a0 := Exa.wr W14 f13_E_a0
  have f14_F_valueCounts_a0 := Fld.other W14 f13_F_valueCounts_a0 (Or.inr (slot_ne (Or.inr (ww hw 24 rfl)) (Or.inr (ww hw 34 rfl)) (by decide) (t := (.array .int)) (t' := (.array .int)) (by decide) (by decide)))
  have f14_F_start_a0 := Fld.other W14 f13_F_start_a0 (Or.inr (slot_ne (Or.inr (ww hw 28 rfl)) (Or.inr (ww hw 34 rfl)) (by decide) (t := (.array (.array .int))) (t' := (.array .int)) (by decide) (by decide)))
  have f14_F_firstOf_a0 := Fld.other W14 f13_F_firstOf_a0 (Or.inr (slot_ne (Or.inr (ww hw 30 rfl)) (Or.inr (ww hw 34 rfl)) (by decide) (t := (.array .int)) (t' := (.array .int)) (by decide) (by decide)))
  have f14_F_secondOf_a0 := Fld.other W14 f13_F_secondOf_a0 (Or.inr (slot_ne (Or.inr (ww hw 32 rfl)) (Or.inr (ww hw 34 rfl)) (by decide) (t := (.array .int)) (t' := (.array .int)) (by decide) (by decide)))
  have f14_F_count_a0 := Fld.other W14 f13_F_count_a0 (Or.inr (slot_ne (Or.inr (ww hw 36 rfl)) (Or.inr (ww hw 34 rfl)) (by decide) (t := .int) (t' := (.array .int)) (by decide) (by decide)))
  have f14_V_a1 := Arv.other f13_V_a1 W14 ne_a1_a0
  have f14_E_a1 := Exa.wr W14 f13_E_a1
  have f14_Eb4 := Exa.wr W14 f13_Eb4
  have f14_Vb4 := Arv.other f13_Vb4 W14 (Ne.symm ne_a0_b4)
  have f14_Eb7 := Exa.wr W14 f13_Eb7
  have f14_Vb7 := Arv.other f13_Vb7 W14 (Ne.symm ne_a0_b7)
  have f14_Eb9 := Exa.wr W14 f13_Eb9
  have f14_Vb9 := Arv.other f13_Vb9 W14 (Ne.symm ne_a0_b9)
  have f14_Eb11 := Exa.wr W14 f13_Eb11
  have f14_Vb11 := Arv.other f13_Vb11 W14 (Ne.symm ne_a0_b11)
  have f14_Eb13 := Exa.wr W14 Q13
  have f14_Vb13 := Arv.other V13 W14 (Ne.symm ne_a0_b13)
  have f14_F_startOf_a0 := Fld.same W14 f13_F_startOf_a0
  have N14 := Fr.snoc X14 N12 g_a0
  have SZ14 : n0 ≤ h14.size := Nat.le_trans SZ13 (Keep.of_wr W14).1
  have K14 := Keep.wr K13 W14 (Or.inl (List.mem_of_getElem? (i := 0) rfl))
  refine Gz.iconst 94 (0 : Int32) X14 hx (dd d1_93) rfl rfl ?_
  refine Gz.istore 96 #[.val (.ref a0), .val (.ref a1), .val (.long (fC0 a1)), .second, .val (.int (0 : Int32)), .val (.int (0 : Int32)), .val (.int (0 : Int32)), .unset, .unset, .unset] X14 hx (dd d1_94) rfl rfl ?_
  refine Gz.iconst 97 (0 : Int32) X14 hx (dd d1_96) rfl rfl ?_
  refine Gz.istore 99 #[.val (.ref a0), .val (.ref a1), .val (.long (fC0 a1)), .second, .val (.int (0 : Int32)), .val (.int (0 : Int32)), .val (.int (0 : Int32)), .val (.int (0 : Int32)), .unset, .unset] X14 hx (dd d1_97) rfl rfl ?_
  refine Gz.iconst 100 (0 : Int32) X14 hx (dd d1_99) rfl rfl ?_
  refine Gz.istore 102 #[.val (.ref a0), .val (.ref a1), .val (.long (fC0 a1)), .second, .val (.int (0 : Int32)), .val (.int (0 : Int32)), .val (.int (0 : Int32)), .val (.int (0 : Int32)), .val (.int (0 : Int32)), .unset] X14 hx (dd d1_100) rfl rfl ?_
  refine Gz.iload 104 X14 hx (dd d1_102) rfl rfl ?_
  refine Gz.iload 106 X14 hx (dd d1_104) rfl rfl ?_
  refine Gz.icmpYes 190 X14 hx (dd d1_106) (flt (by decide : ¬ ((0 : Int32) < (0 : Int32)))).2.1 (by decide) (by decide) ?_
  refine Gz.aloadN 191 X14 hx (dd d1_190) rfl rfl rfl ?_
  refine Gz.iload 193 X14 hx (dd d1_191) rfl rfl ?_
  refine Gz.putF 196 X14 hx hZ hown .int (dd d1_193) (host := "") (Or.inl (ww hw 35 rfl)) Via.refl e14 f14_F_count_a0 f14_E_a0 (Or.inr ⟨(ww hw 36 rfl), rfl, hnm⟩) (ww hw 2 rfl) (by decide) rfl rfl rfl fun T15 h15 X15 e15 W15 => ?_
  have f15_E_a0 := Exa.wr W15 f14_E_a0
  have f15_F_valueCounts_a0 := Fld.other W15 f14_F_valueCounts_a0 (Or.inr (slot_ne (Or.inr (ww hw 24 rfl)) (Or.inr (ww hw 36 rfl)) (by decide) (t := (.array .int)) (t' := .int) (by decide) (by decide)))
  have f15_F_start_a0 := Fld.other W15 f14_F_start_a0 (Or.inr (slot_ne (Or.inr (ww hw 28 rfl)) (Or.inr (ww hw 36 rfl)) (by decide) (t := (.array (.array .int))) (t' := .int) (by decide) (by decide)))
  have f15_F_firstOf_a0 := Fld.other W15 f14_F_firstOf_a0 (Or.inr (slot_ne (Or.inr (ww hw 30 rfl)) (Or.inr (ww hw 36 rfl)) (by decide) (t := (.array .int)) (t' := .int) (by decide) (by decide)))
  have f15_F_secondOf_a0 := Fld.other W15 f14_F_secondOf_a0 (Or.inr (slot_ne (Or.inr (ww hw 32 rfl)) (Or.inr (ww hw 36 rfl)) (by decide) (t := (.array .int)) (t' := .int) (by decide) (by decide)))
  have f15_F_startOf_a0 := Fld.other W15 f14_F_startOf_a0 (Or.inr (slot_ne (Or.inr (ww hw 34 rfl)) (Or.inr (ww hw 36 rfl)) (by decide) (t := (.array .int)) (t' := .int) (by decide) (by decide)))
  have f15_V_a1 := Arv.other f14_V_a1 W15 ne_a1_a0
  have f15_E_a1 := Exa.wr W15 f14_E_a1
  have f15_Eb4 := Exa.wr W15 f14_Eb4
  have f15_Vb4 := Arv.other f14_Vb4 W15 (Ne.symm ne_a0_b4)
  have f15_Eb7 := Exa.wr W15 f14_Eb7
  have f15_Vb7 := Arv.other f14_Vb7 W15 (Ne.symm ne_a0_b7)
  have f15_Eb9 := Exa.wr W15 f14_Eb9
  have f15_Vb9 := Arv.other f14_Vb9 W15 (Ne.symm ne_a0_b9)
  have f15_Eb11 := Exa.wr W15 f14_Eb11
  have f15_Vb11 := Arv.other f14_Vb11 W15 (Ne.symm ne_a0_b11)
  have f15_Eb13 := Exa.wr W15 f14_Eb13
  have f15_Vb13 := Arv.other f14_Vb13 W15 (Ne.symm ne_a0_b13)
  have f15_F_count_a0 := Fld.same W15 f14_F_count_a0
  have N15 := Fr.snoc X15 N14 g_a0
  have SZ15 : n0 ≤ h15.size := Nat.le_trans SZ14 (Keep.of_wr W15).1
  have K15 := Keep.wr K14 W15 (Or.inl (List.mem_of_getElem? (i := 0) rfl))
  refine Gz.fin X15 (v := none) (fun _ => rfl) hlk (by decide) (by decide) (fun fs hr => X15.returnOut hx hret (dd d1_196) hr) ?_
  rw [e15]
  exact ⟨rfl, N15, K15, f15_E_a0, b4, k_a1, sz_b4, f15_F_valueCounts_a0, f15_Vb4⟩
theorem d1_109 : decode prog_43_method_1_code 109 = .ok (.iload 8, 2) := by decide +kernel
theorem d1_111 : decode prog_43_method_1_code 111 = .ok (.iconst 1, 1) := by decide +kernel
theorem d1_112 : decode prog_43_method_1_code 112 = .ok (.iadd, 1) := by decide +kernel
theorem d1_113 : decode prog_43_method_1_code 113 = .ok (.istore 9, 2) := by decide +kernel
theorem d1_115 : decode prog_43_method_1_code 115 = .ok (.iload 9, 2) := by decide +kernel
theorem d1_117 : decode prog_43_method_1_code 117 = .ok (.iload 4, 2) := by decide +kernel
theorem d1_119 : decode prog_43_method_1_code 119 = .ok (.if_icmp .ge 65, 3) := by decide +kernel
theorem d1_184 : decode prog_43_method_1_code 184 = .ok (.iinc 8 1, 3) := by decide +kernel
theorem d1_187 : decode prog_43_method_1_code 187 = .ok (.goto (-85), 3) := by decide +kernel
theorem ef_rmI1 (m : MethodId) (a0 : Addr) (a1 : Addr) : entryFrame m #[(.ref a0), (.ref a1)] 10 = mkF m 0 #[.val (.ref a0), .val (.ref a1), .unset, .unset, .unset, .unset, .unset, .unset, .unset, .unset] [] := by first | (simp [entryFrame, mkF, argsToLocals, Value.category]; done) | rfl
def Q_rmI1 (Z : State) (a0 : Addr) (a1 : Addr) (k_a1 : ClassId) (v0 : Int32) (h0 : Heap) (n0 : Nat) (v : Option Value) (h : Heap) (L : List Loc) : Prop := v = none ∧ Fr n0 L ∧ Keep h0 h [a0] ∧ Exa Z h a0 "com/example/minsuite/minsuite/ValuePairs" ∧ ∃ (ac : Addr) (kc : ClassId), h0.size ≤ ac ∧ Fld Z h a0 "com/example/minsuite/minsuite/ValuePairs" "valueCounts" "[I" (.ref ac) ∧ Arv Z h ac kc .int (1 : Int32) [(.int v0)] (.int (0 : Int32))
set_option maxRecDepth 65536 in
set_option maxHeartbeats 40000000 in
theorem rmI1 (l : Launch) (Z : State) (av0 : Array Value) (hw : ∀ d ∈ tables_1, d.before av0 Z = true) (ws : List Jvm.Cond) (a0 : Addr) (a1 : Addr) (k_a1 : ClassId) (v0 : Int32) (h0 : Heap) (n0 : Nat) (Z0 : n0 ≤ h0.size) (E_a0 : Exa Z h0 a0 "com/example/minsuite/minsuite/ValuePairs") (F_valueCounts_a0 : Fld Z h0 a0 "com/example/minsuite/minsuite/ValuePairs" "valueCounts" "[I" .null) (F_start_a0 : Fld Z h0 a0 "com/example/minsuite/minsuite/ValuePairs" "start" "[[I" .null) (F_firstOf_a0 : Fld Z h0 a0 "com/example/minsuite/minsuite/ValuePairs" "firstOf" "[I" .null) (F_secondOf_a0 : Fld Z h0 a0 "com/example/minsuite/minsuite/ValuePairs" "secondOf" "[I" .null) (F_startOf_a0 : Fld Z h0 a0 "com/example/minsuite/minsuite/ValuePairs" "startOf" "[I" .null) (F_count_a0 : Fld Z h0 a0 "com/example/minsuite/minsuite/ValuePairs" "count" "I" (.int (0 : Int32))) (g_a0 : n0 ≤ a0) (V_a1 : Arv Z h0 a1 k_a1 .int (1 : Int32) [(.int v0)] (.int (0 : Int32))) (E_a1 : Exa Z h0 a1 "[I") (ne_a1_a0 : a1 ≠ a0) (hcnt : ¬ ((2147483639 : Int64) < (fC1 a1 v0))) :
    MetFree l (⟨"com/example/minsuite/minsuite/ValuePairs", "<init>", "([I)V"⟩ : MethodName) (head1 (Jvm.Cond.code (⟨"com/example/minsuite/minsuite/ValuePairs", "<init>", "([I)V"⟩ : MethodName) prog_43_method_1_code 10 none :: ws) ({ frames := 1, cells := 6, slots := 3, locals := 20 } : Room)) (fun a U => a = #[(.ref a0), (.ref a1)] ∧ Z.Warmed39 U.vm ∧ U.heap = h0) (fun _ _ _ _ _ => True) (fun _ U o U' => ∃ v L, o = .returned v ∧ Q_rmI1 Z a0 a1 k_a1 v0 h0 n0 v U'.heap L ∧ FrameEnd U o U' L ({ frames := 1, cells := 6, slots := 3, locals := 20 } : Room).cells ({ frames := 1, cells := 6, slots := 3, locals := 20 } : Room).slots) := by
  refine MetFree.of_bodySF (plainFor_of_name pn_0) hisR ?_
  intro p e s m args below meth c s₁ Bd hml0 hP hK
  obtain ⟨rfl, hZ, hh⟩ := hP
  have hx := Bd.exec
  have hby := Bd.bytes
  have hml : c.maxLocals = 10 := hml0
  have dd : ∀ {pc : Nat} {r : Except DecodeError (Instr × Nat)}, decode prog_43_method_1_code pc = r → decode c.code pc = r := fun q => hb hby q
  have hown : s.vm.findClass "com/example/minsuite/minsuite/ValuePairs" = some m.cls := findClass_of_methodNamed Bd.named
  have hnm := (name_of_methodNamed Bd.named Bd.method).1
  have X0 : Stand p l e ({ frames := 1, cells := 6, slots := 3, locals := 20 } : Room) s m #[(.ref a0), (.ref a1)] below meth c s₁ [] 0 0 := Stand.of_body Bd
  have e0 : s₁.heap = h0 := by rw [← hh, Bd.state]; rfl
  have N0 := Fr.nil n0
  have hret := Bd.returns
  have hlk := Bd.notSynchronized
  show Gz p e below s ({ frames := 1, cells := 6, slots := 3, locals := 20 } : Room).cells ({ frames := 1, cells := 6, slots := 3, locals := 20 } : Room).slots (Q_rmI1 Z a0 a1 k_a1 v0 h0 n0) (s₁.setTop (entryFrame m #[(.ref a0), (.ref a1)] 10))
  refine Gz.enter (ef_rmI1 m a0 a1) ?_
  refine Gz.aloadN 1 X0 hx (dd d1_0) rfl rfl rfl ?_
  obtain ⟨T1, X1, e1, st1⟩ := initO X0 hx hZ hown (ww hw 7 rfl) (ww hw 8 rfl) (ww hw 9 rfl) e0 (g := (mkF m 1 #[.val (.ref a0), .val (.ref a1), .unset, .unset, .unset, .unset, .unset, .unset, .unset, .unset] [(.ref a0)])) rfl (by rw [hml]; rfl) rfl (dd d1_1) (by decide) (W := 0) (by show 2 * 0 + _ ≤ _; exact Nat.le_of_eq rfl) (by decide)
  refine Gz.st st1 ?_
  refine Gz.aloadN 5 X1 hx (dd d1_4) rfl rfl rfl ?_
  obtain ⟨_, _, ⟨T2, L2, k2, n2⟩, -, X2, ⟨Lc2, hQ2, l2, y2, z2⟩, st2⟩ := Jvm.LawKit.callS X1 hx (y := (⟨"com/example/minsuite/minsuite/ValuePairs", "count", "([I)J"⟩ : MethodName)) hown (mvT hZ (ww hw 10 rfl)) (mvT hZ (ww hw 11 rfl)) (mvT hZ (ww hw 3 rfl)) (mvT hZ (ww hw 12 rfl)) (by decide) (backOf (W := 0) (rmC1 l Z av0 hw [] a1 k_a1 v0 h0 n0 Z0 V_a1) hZ (ww hw 12 rfl) (ww hw 3 rfl) (by decide) (by decide)) (g := (mkF m 5 #[.val (.ref a0), .val (.ref a1), .unset, .unset, .unset, .unset, .unset, .unset, .unset, .unset] [(.ref a1)])) rfl (by rw [hml]; rfl) (argsL := [(.ref a1)]) (rest := []) (lenOf pd_0 rfl) rfl (by show 2 * 0 + _ ≤ _; exact Nat.le_of_eq rfl) (dd d1_5) (fun _ _ => ⟨rfl, e1, (by decide : 0 + 0 ≤ _), (by decide : 0 + 0 ≤ _)⟩)
  dsimp only [Pt.U, Pt.locs, Pt.cells, Pt.slots, Q_rmC1] at X2 l2 y2 z2 st2 hQ2
  subst l2 y2 z2
  obtain ⟨rfl, N2q, e2⟩ := hQ2
  have N2 := Fr.app N0 N2q
  refine Gz.st st2 ?_
  refine Gz.lstoreN 9 #[.val (.ref a0), .val (.ref a1), .val (.long (fC1 a1 v0)), .second, .unset, .unset, .unset, .unset, .unset, .unset] X2 hx (dd d1_8) rfl rfl ?_
  refine Gz.lloadN 10 X2 hx (dd d1_9) rfl rfl ?_
  refine Gz.ldc2J 13 X2 hx (dd d1_10) hown (mvT hZ (ww hw 13 rfl)) rfl ?_
  refine Gz.lcmp 14 X2 hx (dd d1_13) rfl ?_
  refine Gz.ifYes 31 X2 hx (dd d1_14) ((if0 _ _).trans (flt (fun q => (hcnt : ¬ ((2147483639 : Int64) < (fC1 a1 v0))) ((lw_gt _ _).mp q))).2.2.2) (by decide) (by decide) ?_
  refine Gz.aloadN 32 X2 hx (dd d1_31) rfl rfl rfl ?_
  obtain ⟨c3, A3, -, S3, N3, -, -⟩ := id V_a1
  refine Gz.alen 33 X2 hx hZ (dd d1_32) e2 A3 S3 N3 rfl ?_
  refine Gz.istore 35 #[.val (.ref a0), .val (.ref a1), .val (.long (fC1 a1 v0)), .second, .val (.int (1 : Int32)), .unset, .unset, .unset, .unset, .unset] X2 hx (dd d1_33) rfl rfl ?_
  refine Gz.aloadN 36 X2 hx (dd d1_35) rfl rfl rfl ?_
  refine Gz.aloadN 37 X2 hx (dd d1_36) rfl rfl rfl ?_
  obtain ⟨T4, h4, X4, e4, E4, A4, Q4, st4⟩ := cloneH X2 hx hZ hown (ww hw 14 rfl) (ww hw 15 rfl) (ww hw 19 rfl) (ww hw 17 rfl) (ww hw 18 rfl) (ww hw 20 rfl) e2 (Arv.arh V_a1) E_a1 (g := (mkF m 37 #[.val (.ref a0), .val (.ref a1), .val (.long (fC1 a1 v0)), .second, .val (.int (1 : Int32)), .unset, .unset, .unset, .unset, .unset] [(.ref a1), (.ref a0)])) rfl (by rw [hml]; rfl) rfl (dd d1_37) (by decide) (W := 1) (by show 2 * 0 + _ ≤ _; exact Nat.le_of_eq rfl) (by decide) (cap := 1) (by decide) (by decide) (by decide)
  obtain ⟨b4, g4⟩ : ∃ z, z = h0.size := ⟨_, rfl⟩
  rw [← g4] at A4 Q4 st4
  have ne_a0_b4 : a0 ≠ b4 := Nat.ne_of_lt (Nat.lt_of_lt_of_le (E_a0).lt (Nat.le_of_eq g4.symm))
  have ne_a1_b4 : a1 ≠ b4 := Nat.ne_of_lt (Nat.lt_of_lt_of_le (V_a1).lt (Nat.le_of_eq g4.symm))
  have g_b4 : n0 ≤ b4 := Nat.le_trans Z0 (Nat.le_of_eq g4.symm)
  have SZ4 : n0 ≤ h4.size := Nat.le_trans Z0 E4.1
  have sz_b4 : h0.size ≤ b4 := Nat.le_trans (Keep.refl h0 [a0]).1 (Nat.le_of_eq g4.symm)
  have K4 := Keep.ext (Keep.refl h0 [a0]) E4
  have f4_E_a0 := Exa.ext E4 E_a0
  have f4_F_valueCounts_a0 := Fld.ext E4 F_valueCounts_a0
  have f4_F_start_a0 := Fld.ext E4 F_start_a0
  have f4_F_firstOf_a0 := Fld.ext E4 F_firstOf_a0
  have f4_F_secondOf_a0 := Fld.ext E4 F_secondOf_a0
  have f4_F_startOf_a0 := Fld.ext E4 F_startOf_a0
  have f4_F_count_a0 := Fld.ext E4 F_count_a0
  have f4_V_a1 := Arv.ext V_a1 E4
  have f4_E_a1 := Exa.ext E4 E_a1
  have V4 : Arv Z h4 b4 k_a1 .int (1 : Int32) [(.int v0)] (.int (0 : Int32)) := A4
  refine Gz.st st4 ?_
  refine Gz.castY 43 X4 hx hZ hown (dd d1_40) (ww hw 21 rfl) e4 (Ins.self Q4) rfl fun T5 X5 e5 => ?_
  refine Gz.putF 46 X5 hx hZ hown (.array .int) (dd d1_43) (host := "") (Or.inl (ww hw 23 rfl)) Via.refl e5 f4_F_valueCounts_a0 f4_E_a0 (Or.inr ⟨(ww hw 24 rfl), rfl, hnm⟩) (ww hw 2 rfl) (by decide) rfl rfl rfl fun T6 h6 X6 e6 W6 => ?_
  have f6_E_a0 := Exa.wr W6 f4_E_a0
  have f6_F_start_a0 := Fld.other W6 f4_F_start_a0 (Or.inr (slot_ne (Or.inr (ww hw 28 rfl)) (Or.inr (ww hw 24 rfl)) (by decide) (t := (.array (.array .int))) (t' := (.array .int)) (by decide) (by decide)))
  have f6_F_firstOf_a0 := Fld.other W6 f4_F_firstOf_a0 (Or.inr (slot_ne (Or.inr (ww hw 30 rfl)) (Or.inr (ww hw 24 rfl)) (by decide) (t := (.array .int)) (t' := (.array .int)) (by decide) (by decide)))
  have f6_F_secondOf_a0 := Fld.other W6 f4_F_secondOf_a0 (Or.inr (slot_ne (Or.inr (ww hw 32 rfl)) (Or.inr (ww hw 24 rfl)) (by decide) (t := (.array .int)) (t' := (.array .int)) (by decide) (by decide)))
  have f6_F_startOf_a0 := Fld.other W6 f4_F_startOf_a0 (Or.inr (slot_ne (Or.inr (ww hw 34 rfl)) (Or.inr (ww hw 24 rfl)) (by decide) (t := (.array .int)) (t' := (.array .int)) (by decide) (by decide)))
  have f6_F_count_a0 := Fld.other W6 f4_F_count_a0 (Or.inr (slot_ne (Or.inr (ww hw 36 rfl)) (Or.inr (ww hw 24 rfl)) (by decide) (t := .int) (t' := (.array .int)) (by decide) (by decide)))
  have f6_V_a1 := Arv.other f4_V_a1 W6 ne_a1_a0
  have f6_E_a1 := Exa.wr W6 f4_E_a1
  have f6_Eb4 := Exa.wr W6 Q4
  have f6_Vb4 := Arv.other V4 W6 (Ne.symm ne_a0_b4)
  have f6_F_valueCounts_a0 := Fld.same W6 f4_F_valueCounts_a0
  have N6 := Fr.snoc X6 N2 g_a0
  have SZ6 : n0 ≤ h6.size := Nat.le_trans SZ4 (Keep.of_wr W6).1
  have K6 := Keep.wr K4 W6 (Or.inl (List.mem_of_getElem? (i := 0) rfl))
  refine Gz.aloadN 47 X6 hx (dd d1_46) rfl rfl rfl ?_
  refine Gz.iload 49 X6 hx (dd d1_47) rfl rfl ?_
  refine Gz.iload 51 X6 hx (dd d1_49) rfl rfl ?_
  obtain ⟨b7_0, gr7_0⟩ : ∃ z, z = h6.size + 1 + 0 := ⟨_, rfl⟩
  obtain ⟨T7, h7, k7, kr7, X7, e7, E7, A7, O7, Q7, Rw7, st7⟩ := gridM X6 hx hZ hown (ty := .int) (C := "[I") (ad := "[[I") rfl rfl (ww hw 25 rfl) (ww hw 26 rfl) (ww hw 0 rfl) e6 (g := (mkF m 51 #[.val (.ref a0), .val (.ref a1), .val (.long (fC1 a1 v0)), .second, .val (.int (1 : Int32)), .unset, .unset, .unset, .unset, .unset] [(.int (1 : Int32)), (.int (1 : Int32)), (.ref a0)])) rfl (dd d1_51) rfl (by decide) (by decide) (xs := [b7_0]) (N := 1) (by decide) (by rw [gr7_0]; rfl) (cap := 1) (by decide) (by decide) (by decide) rfl rfl (by decide) (by decide)
  obtain ⟨b7, g7⟩ : ∃ z, z = h6.size := ⟨_, rfl⟩
  rw [← g7] at A7 Q7 st7
  have ne_a0_b7 : a0 ≠ b7 := Nat.ne_of_lt (Nat.lt_of_lt_of_le (f6_E_a0).lt (Nat.le_of_eq g7.symm))
  have ne_a1_b7 : a1 ≠ b7 := Nat.ne_of_lt (Nat.lt_of_lt_of_le (f6_V_a1).lt (Nat.le_of_eq g7.symm))
  have ne_b4_b7 : b4 ≠ b7 := Nat.ne_of_lt (Nat.lt_of_lt_of_le (f6_Eb4).lt (Nat.le_of_eq g7.symm))
  have g_b7 : n0 ≤ b7 := Nat.le_trans SZ6 (Nat.le_of_eq g7.symm)
  have SZ7 : n0 ≤ h7.size := Nat.le_trans SZ6 E7.1
  have sz_b7 : h0.size ≤ b7 := Nat.le_trans K6.1 (Nat.le_of_eq g7.symm)
  have K7 := Keep.ext K6 E7
  have f7_E_a0 := Exa.ext E7 f6_E_a0
  have f7_F_valueCounts_a0 := Fld.ext E7 f6_F_valueCounts_a0
  have f7_F_start_a0 := Fld.ext E7 f6_F_start_a0
  have f7_F_firstOf_a0 := Fld.ext E7 f6_F_firstOf_a0
  have f7_F_secondOf_a0 := Fld.ext E7 f6_F_secondOf_a0
  have f7_F_startOf_a0 := Fld.ext E7 f6_F_startOf_a0
  have f7_F_count_a0 := Fld.ext E7 f6_F_count_a0
  have f7_V_a1 := Arv.ext f6_V_a1 E7
  have f7_E_a1 := Exa.ext E7 f6_E_a1
  have f7_Eb4 := Exa.ext E7 f6_Eb4
  have f7_Vb4 := Arv.ext f6_Vb4 E7
  have ne_a0_b7_0 : a0 ≠ b7_0 := own_rl (f6_E_a0).lt gr7_0
  have ne_a1_b7_0 : a1 ≠ b7_0 := own_rl (f6_V_a1).lt gr7_0
  have ne_b4_b7_0 : b4 ≠ b7_0 := own_rl (f6_Eb4).lt gr7_0
  have ne_b7_b7_0 : b7 ≠ b7_0 := own_ro g7 gr7_0
  have g_b7_0 : n0 ≤ b7_0 := own_rg SZ6 gr7_0
  have sz_b7_0 : h0.size ≤ b7_0 := own_rg (K6).1 gr7_0
  have V7 : Arv Z h7 b7 k7 (.array .int) (1 : Int32) [.ref b7_0] .null := A7
  have V7_0 : Arv Z h7 b7_0 kr7 .int (1 : Int32) [(.int (0 : Int32))] (.int (0 : Int32)) := (Arv.new (Rw7 0 b7_0 rfl).1 (by decide)).pad (pad_rep [] (.int (0 : Int32)) 1)
  have Q7_0 := (Rw7 0 b7_0 rfl).2
  refine Gz.st st7 ?_
  refine Gz.putF 58 X7 hx hZ hown (.array (.array .int)) (dd d1_55) (host := "") (Or.inl (ww hw 27 rfl)) Via.refl e7 f7_F_start_a0 f7_E_a0 (Or.inr ⟨(ww hw 28 rfl), rfl, hnm⟩) (ww hw 2 rfl) (by decide) rfl rfl rfl fun T8 h8 X8 e8 W8 => ?_
  have f8_E_a0 := Exa.wr W8 f7_E_a0
  have f8_F_valueCounts_a0 := Fld.other W8 f7_F_valueCounts_a0 (Or.inr (slot_ne (Or.inr (ww hw 24 rfl)) (Or.inr (ww hw 28 rfl)) (by decide) (t := (.array .int)) (t' := (.array (.array .int))) (by decide) (by decide)))
  have f8_F_firstOf_a0 := Fld.other W8 f7_F_firstOf_a0 (Or.inr (slot_ne (Or.inr (ww hw 30 rfl)) (Or.inr (ww hw 28 rfl)) (by decide) (t := (.array .int)) (t' := (.array (.array .int))) (by decide) (by decide)))
  have f8_F_secondOf_a0 := Fld.other W8 f7_F_secondOf_a0 (Or.inr (slot_ne (Or.inr (ww hw 32 rfl)) (Or.inr (ww hw 28 rfl)) (by decide) (t := (.array .int)) (t' := (.array (.array .int))) (by decide) (by decide)))
  have f8_F_startOf_a0 := Fld.other W8 f7_F_startOf_a0 (Or.inr (slot_ne (Or.inr (ww hw 34 rfl)) (Or.inr (ww hw 28 rfl)) (by decide) (t := (.array .int)) (t' := (.array (.array .int))) (by decide) (by decide)))
  have f8_F_count_a0 := Fld.other W8 f7_F_count_a0 (Or.inr (slot_ne (Or.inr (ww hw 36 rfl)) (Or.inr (ww hw 28 rfl)) (by decide) (t := .int) (t' := (.array (.array .int))) (by decide) (by decide)))
  have f8_V_a1 := Arv.other f7_V_a1 W8 ne_a1_a0
  have f8_E_a1 := Exa.wr W8 f7_E_a1
  have f8_Eb4 := Exa.wr W8 f7_Eb4
  have f8_Vb4 := Arv.other f7_Vb4 W8 (Ne.symm ne_a0_b4)
  have f8_Eb7 := Exa.wr W8 Q7
  have f8_Vb7 := Arv.other V7 W8 (Ne.symm ne_a0_b7)
  have f8_Vb7_0 := Arv.other V7_0 W8 (Ne.symm ne_a0_b7_0)
  have f8_Eb7_0 := Exa.wr W8 Q7_0
  have f8_F_start_a0 := Fld.same W8 f7_F_start_a0
  have N8 := Fr.snoc X8 N6 g_a0
  have SZ8 : n0 ≤ h8.size := Nat.le_trans SZ7 (Keep.of_wr W8).1
  have K8 := Keep.wr K7 W8 (Or.inl (List.mem_of_getElem? (i := 0) rfl))
  refine Gz.iload 60 X8 hx (dd d1_58) rfl rfl ?_
  refine Gz.iload 62 X8 hx (dd d1_60) rfl rfl ?_
  refine Gz.iconst 63 (1 : Int32) X8 hx (dd d1_62) rfl rfl ?_
  refine Gz.isubV 64 (0 : Int32) X8 hx (dd d1_63) rfl rfl ?_
  refine Gz.imulV 65 (0 : Int32) X8 hx (dd d1_64) rfl rfl ?_
  refine Gz.iconst 66 (2 : Int32) X8 hx (dd d1_65) rfl rfl ?_
  refine Gz.idivV 67 (0 : Int32) X8 hx (dd d1_66) (by decide) rfl rfl ?_
  refine Gz.istore 69 #[.val (.ref a0), .val (.ref a1), .val (.long (fC1 a1 v0)), .second, .val (.int (1 : Int32)), .val (.int (0 : Int32)), .unset, .unset, .unset, .unset] X8 hx (dd d1_67) rfl rfl ?_
  refine Gz.aloadN 70 X8 hx (dd d1_69) rfl rfl rfl ?_
  refine Gz.iload 72 X8 hx (dd d1_70) rfl rfl ?_
  obtain ⟨T9, h9, k9, X9, e9, E9, A9, Q9, st9⟩ := newPE X8 hx hZ (ww hw 0 rfl) e8 (g := (mkF m 72 #[.val (.ref a0), .val (.ref a1), .val (.long (fC1 a1 v0)), .second, .val (.int (1 : Int32)), .val (.int (0 : Int32)), .unset, .unset, .unset, .unset] [(.int (0 : Int32)), (.ref a0)])) rfl (dd d1_72) rfl (by decide) (cap := 0) (by decide) (by decide) (by decide) (by decide) (ad := "[I") rfl
  obtain ⟨b9, g9⟩ : ∃ z, z = h8.size := ⟨_, rfl⟩
  rw [← g9] at A9 Q9 st9
  have ne_a0_b9 : a0 ≠ b9 := Nat.ne_of_lt (Nat.lt_of_lt_of_le (f8_E_a0).lt (Nat.le_of_eq g9.symm))
  have ne_a1_b9 : a1 ≠ b9 := Nat.ne_of_lt (Nat.lt_of_lt_of_le (f8_V_a1).lt (Nat.le_of_eq g9.symm))
  have ne_b4_b9 : b4 ≠ b9 := Nat.ne_of_lt (Nat.lt_of_lt_of_le (f8_Eb4).lt (Nat.le_of_eq g9.symm))
  have ne_b7_b9 : b7 ≠ b9 := Nat.ne_of_lt (Nat.lt_of_lt_of_le (f8_Eb7).lt (Nat.le_of_eq g9.symm))
  have ne_b7_0_b9 : b7_0 ≠ b9 := Nat.ne_of_lt (Nat.lt_of_lt_of_le (f8_Vb7_0).lt (Nat.le_of_eq g9.symm))
  have g_b9 : n0 ≤ b9 := Nat.le_trans SZ8 (Nat.le_of_eq g9.symm)
  have SZ9 : n0 ≤ h9.size := Nat.le_trans SZ8 E9.1
  have sz_b9 : h0.size ≤ b9 := Nat.le_trans K8.1 (Nat.le_of_eq g9.symm)
  have K9 := Keep.ext K8 E9
  have f9_E_a0 := Exa.ext E9 f8_E_a0
  have f9_F_valueCounts_a0 := Fld.ext E9 f8_F_valueCounts_a0
  have f9_F_start_a0 := Fld.ext E9 f8_F_start_a0
  have f9_F_firstOf_a0 := Fld.ext E9 f8_F_firstOf_a0
  have f9_F_secondOf_a0 := Fld.ext E9 f8_F_secondOf_a0
  have f9_F_startOf_a0 := Fld.ext E9 f8_F_startOf_a0
  have f9_F_count_a0 := Fld.ext E9 f8_F_count_a0
  have f9_V_a1 := Arv.ext f8_V_a1 E9
  have f9_E_a1 := Exa.ext E9 f8_E_a1
  have f9_Eb4 := Exa.ext E9 f8_Eb4
  have f9_Vb4 := Arv.ext f8_Vb4 E9
  have f9_Eb7 := Exa.ext E9 f8_Eb7
  have f9_Vb7 := Arv.ext f8_Vb7 E9
  have f9_Vb7_0 := Arv.ext f8_Vb7_0 E9
  have f9_Eb7_0 := Exa.ext E9 f8_Eb7_0
  have V9 : Arv Z h9 b9 k9 .int (0 : Int32) [] (.int (0 : Int32)) := (Arv.new A9 (by decide)).pad (pad_rep [] (.int (0 : Int32)) 0)
  refine Gz.st st9 ?_
  refine Gz.putF 77 X9 hx hZ hown (.array .int) (dd d1_74) (host := "") (Or.inl (ww hw 29 rfl)) Via.refl e9 f9_F_firstOf_a0 f9_E_a0 (Or.inr ⟨(ww hw 30 rfl), rfl, hnm⟩) (ww hw 2 rfl) (by decide) rfl rfl rfl fun T10 h10 X10 e10 W10 => ?_
  have f10_E_a0 := Exa.wr W10 f9_E_a0
  have f10_F_valueCounts_a0 := Fld.other W10 f9_F_valueCounts_a0 (Or.inr (slot_ne (Or.inr (ww hw 24 rfl)) (Or.inr (ww hw 30 rfl)) (by decide) (t := (.array .int)) (t' := (.array .int)) (by decide) (by decide)))
  have f10_F_start_a0 := Fld.other W10 f9_F_start_a0 (Or.inr (slot_ne (Or.inr (ww hw 28 rfl)) (Or.inr (ww hw 30 rfl)) (by decide) (t := (.array (.array .int))) (t' := (.array .int)) (by decide) (by decide)))
  have f10_F_secondOf_a0 := Fld.other W10 f9_F_secondOf_a0 (Or.inr (slot_ne (Or.inr (ww hw 32 rfl)) (Or.inr (ww hw 30 rfl)) (by decide) (t := (.array .int)) (t' := (.array .int)) (by decide) (by decide)))
  have f10_F_startOf_a0 := Fld.other W10 f9_F_startOf_a0 (Or.inr (slot_ne (Or.inr (ww hw 34 rfl)) (Or.inr (ww hw 30 rfl)) (by decide) (t := (.array .int)) (t' := (.array .int)) (by decide) (by decide)))
  have f10_F_count_a0 := Fld.other W10 f9_F_count_a0 (Or.inr (slot_ne (Or.inr (ww hw 36 rfl)) (Or.inr (ww hw 30 rfl)) (by decide) (t := .int) (t' := (.array .int)) (by decide) (by decide)))
  have f10_V_a1 := Arv.other f9_V_a1 W10 ne_a1_a0
  have f10_E_a1 := Exa.wr W10 f9_E_a1
  have f10_Eb4 := Exa.wr W10 f9_Eb4
  have f10_Vb4 := Arv.other f9_Vb4 W10 (Ne.symm ne_a0_b4)
  have f10_Eb7 := Exa.wr W10 f9_Eb7
  have f10_Vb7 := Arv.other f9_Vb7 W10 (Ne.symm ne_a0_b7)
  have f10_Vb7_0 := Arv.other f9_Vb7_0 W10 (Ne.symm ne_a0_b7_0)
  have f10_Eb7_0 := Exa.wr W10 f9_Eb7_0
  have f10_Eb9 := Exa.wr W10 Q9
  have f10_Vb9 := Arv.other V9 W10 (Ne.symm ne_a0_b9)
  have f10_F_firstOf_a0 := Fld.same W10 f9_F_firstOf_a0
  have N10 := Fr.snoc X10 N8 g_a0
  have SZ10 : n0 ≤ h10.size := Nat.le_trans SZ9 (Keep.of_wr W10).1
  have K10 := Keep.wr K9 W10 (Or.inl (List.mem_of_getElem? (i := 0) rfl))
  refine Gz.aloadN 78 X10 hx (dd d1_77) rfl rfl rfl ?_
  refine Gz.iload 80 X10 hx (dd d1_78) rfl rfl ?_
  obtain ⟨T11, h11, k11, X11, e11, E11, A11, Q11, st11⟩ := newPE X10 hx hZ (ww hw 0 rfl) e10 (g := (mkF m 80 #[.val (.ref a0), .val (.ref a1), .val (.long (fC1 a1 v0)), .second, .val (.int (1 : Int32)), .val (.int (0 : Int32)), .unset, .unset, .unset, .unset] [(.int (0 : Int32)), (.ref a0)])) rfl (dd d1_80) rfl (by decide) (cap := 0) (by decide) (by decide) (by decide) (by decide) (ad := "[I") rfl
  obtain ⟨b11, g11⟩ : ∃ z, z = h10.size := ⟨_, rfl⟩
  rw [← g11] at A11 Q11 st11
  have ne_a0_b11 : a0 ≠ b11 := Nat.ne_of_lt (Nat.lt_of_lt_of_le (f10_E_a0).lt (Nat.le_of_eq g11.symm))
  have ne_a1_b11 : a1 ≠ b11 := Nat.ne_of_lt (Nat.lt_of_lt_of_le (f10_V_a1).lt (Nat.le_of_eq g11.symm))
  have ne_b4_b11 : b4 ≠ b11 := Nat.ne_of_lt (Nat.lt_of_lt_of_le (f10_Eb4).lt (Nat.le_of_eq g11.symm))
  have ne_b7_b11 : b7 ≠ b11 := Nat.ne_of_lt (Nat.lt_of_lt_of_le (f10_Eb7).lt (Nat.le_of_eq g11.symm))
  have ne_b7_0_b11 : b7_0 ≠ b11 := Nat.ne_of_lt (Nat.lt_of_lt_of_le (f10_Vb7_0).lt (Nat.le_of_eq g11.symm))
  have ne_b9_b11 : b9 ≠ b11 := Nat.ne_of_lt (Nat.lt_of_lt_of_le (f10_Eb9).lt (Nat.le_of_eq g11.symm))
  have g_b11 : n0 ≤ b11 := Nat.le_trans SZ10 (Nat.le_of_eq g11.symm)
  have SZ11 : n0 ≤ h11.size := Nat.le_trans SZ10 E11.1
  have sz_b11 : h0.size ≤ b11 := Nat.le_trans K10.1 (Nat.le_of_eq g11.symm)
  have K11 := Keep.ext K10 E11
  have f11_E_a0 := Exa.ext E11 f10_E_a0
  have f11_F_valueCounts_a0 := Fld.ext E11 f10_F_valueCounts_a0
  have f11_F_start_a0 := Fld.ext E11 f10_F_start_a0
  have f11_F_firstOf_a0 := Fld.ext E11 f10_F_firstOf_a0
  have f11_F_secondOf_a0 := Fld.ext E11 f10_F_secondOf_a0
  have f11_F_startOf_a0 := Fld.ext E11 f10_F_startOf_a0
  have f11_F_count_a0 := Fld.ext E11 f10_F_count_a0
  have f11_V_a1 := Arv.ext f10_V_a1 E11
  have f11_E_a1 := Exa.ext E11 f10_E_a1
  have f11_Eb4 := Exa.ext E11 f10_Eb4
  have f11_Vb4 := Arv.ext f10_Vb4 E11
  have f11_Eb7 := Exa.ext E11 f10_Eb7
  have f11_Vb7 := Arv.ext f10_Vb7 E11
  have f11_Vb7_0 := Arv.ext f10_Vb7_0 E11
  have f11_Eb7_0 := Exa.ext E11 f10_Eb7_0
  have f11_Eb9 := Exa.ext E11 f10_Eb9
  have f11_Vb9 := Arv.ext f10_Vb9 E11
  have V11 : Arv Z h11 b11 k11 .int (0 : Int32) [] (.int (0 : Int32)) := (Arv.new A11 (by decide)).pad (pad_rep [] (.int (0 : Int32)) 0)
  refine Gz.st st11 ?_
  refine Gz.putF 85 X11 hx hZ hown (.array .int) (dd d1_82) (host := "") (Or.inl (ww hw 31 rfl)) Via.refl e11 f11_F_secondOf_a0 f11_E_a0 (Or.inr ⟨(ww hw 32 rfl), rfl, hnm⟩) (ww hw 2 rfl) (by decide) rfl rfl rfl fun T12 h12 X12 e12 W12 => ?_
  have f12_E_a0 := Exa.wr W12 f11_E_a0
  have f12_F_valueCounts_a0 := Fld.other W12 f11_F_valueCounts_a0 (Or.inr (slot_ne (Or.inr (ww hw 24 rfl)) (Or.inr (ww hw 32 rfl)) (by decide) (t := (.array .int)) (t' := (.array .int)) (by decide) (by decide)))
  have f12_F_start_a0 := Fld.other W12 f11_F_start_a0 (Or.inr (slot_ne (Or.inr (ww hw 28 rfl)) (Or.inr (ww hw 32 rfl)) (by decide) (t := (.array (.array .int))) (t' := (.array .int)) (by decide) (by decide)))
  have f12_F_firstOf_a0 := Fld.other W12 f11_F_firstOf_a0 (Or.inr (slot_ne (Or.inr (ww hw 30 rfl)) (Or.inr (ww hw 32 rfl)) (by decide) (t := (.array .int)) (t' := (.array .int)) (by decide) (by decide)))
  have f12_F_startOf_a0 := Fld.other W12 f11_F_startOf_a0 (Or.inr (slot_ne (Or.inr (ww hw 34 rfl)) (Or.inr (ww hw 32 rfl)) (by decide) (t := (.array .int)) (t' := (.array .int)) (by decide) (by decide)))
  have f12_F_count_a0 := Fld.other W12 f11_F_count_a0 (Or.inr (slot_ne (Or.inr (ww hw 36 rfl)) (Or.inr (ww hw 32 rfl)) (by decide) (t := .int) (t' := (.array .int)) (by decide) (by decide)))
  have f12_V_a1 := Arv.other f11_V_a1 W12 ne_a1_a0
  have f12_E_a1 := Exa.wr W12 f11_E_a1
  have f12_Eb4 := Exa.wr W12 f11_Eb4
  have f12_Vb4 := Arv.other f11_Vb4 W12 (Ne.symm ne_a0_b4)
  have f12_Eb7 := Exa.wr W12 f11_Eb7
  have f12_Vb7 := Arv.other f11_Vb7 W12 (Ne.symm ne_a0_b7)
  have f12_Vb7_0 := Arv.other f11_Vb7_0 W12 (Ne.symm ne_a0_b7_0)
  have f12_Eb7_0 := Exa.wr W12 f11_Eb7_0
  have f12_Eb9 := Exa.wr W12 f11_Eb9
  have f12_Vb9 := Arv.other f11_Vb9 W12 (Ne.symm ne_a0_b9)
  have f12_Eb11 := Exa.wr W12 Q11
  have f12_Vb11 := Arv.other V11 W12 (Ne.symm ne_a0_b11)
  have f12_F_secondOf_a0 := Fld.same W12 f11_F_secondOf_a0
  have N12 := Fr.snoc X12 N10 g_a0
  have SZ12 : n0 ≤ h12.size := Nat.le_trans SZ11 (Keep.of_wr W12).1
  have K12 := Keep.wr K11 W12 (Or.inl (List.mem_of_getElem? (i := 0) rfl))
  refine Gz.aloadN 86 X12 hx (dd d1_85) rfl rfl rfl ?_
  refine Gz.iload 88 X12 hx (dd d1_86) rfl rfl ?_
  obtain ⟨T13, h13, k13, X13, e13, E13, A13, Q13, st13⟩ := newPE X12 hx hZ (ww hw 0 rfl) e12 (g := (mkF m 88 #[.val (.ref a0), .val (.ref a1), .val (.long (fC1 a1 v0)), .second, .val (.int (1 : Int32)), .val (.int (0 : Int32)), .unset, .unset, .unset, .unset] [(.int (0 : Int32)), (.ref a0)])) rfl (dd d1_88) rfl (by decide) (cap := 0) (by decide) (by decide) (by decide) (by decide) (ad := "[I") rfl
  obtain ⟨b13, g13⟩ : ∃ z, z = h12.size := ⟨_, rfl⟩
  rw [← g13] at A13 Q13 st13
  have ne_a0_b13 : a0 ≠ b13 := Nat.ne_of_lt (Nat.lt_of_lt_of_le (f12_E_a0).lt (Nat.le_of_eq g13.symm))
  have ne_a1_b13 : a1 ≠ b13 := Nat.ne_of_lt (Nat.lt_of_lt_of_le (f12_V_a1).lt (Nat.le_of_eq g13.symm))
  have ne_b4_b13 : b4 ≠ b13 := Nat.ne_of_lt (Nat.lt_of_lt_of_le (f12_Eb4).lt (Nat.le_of_eq g13.symm))
  have ne_b7_b13 : b7 ≠ b13 := Nat.ne_of_lt (Nat.lt_of_lt_of_le (f12_Eb7).lt (Nat.le_of_eq g13.symm))
  have ne_b7_0_b13 : b7_0 ≠ b13 := Nat.ne_of_lt (Nat.lt_of_lt_of_le (f12_Vb7_0).lt (Nat.le_of_eq g13.symm))
  have ne_b9_b13 : b9 ≠ b13 := Nat.ne_of_lt (Nat.lt_of_lt_of_le (f12_Eb9).lt (Nat.le_of_eq g13.symm))
  have ne_b11_b13 : b11 ≠ b13 := Nat.ne_of_lt (Nat.lt_of_lt_of_le (f12_Eb11).lt (Nat.le_of_eq g13.symm))
  have g_b13 : n0 ≤ b13 := Nat.le_trans SZ12 (Nat.le_of_eq g13.symm)
  have SZ13 : n0 ≤ h13.size := Nat.le_trans SZ12 E13.1
  have sz_b13 : h0.size ≤ b13 := Nat.le_trans K12.1 (Nat.le_of_eq g13.symm)
  have K13 := Keep.ext K12 E13
  have f13_E_a0 := Exa.ext E13 f12_E_a0
  have f13_F_valueCounts_a0 := Fld.ext E13 f12_F_valueCounts_a0
  have f13_F_start_a0 := Fld.ext E13 f12_F_start_a0
  have f13_F_firstOf_a0 := Fld.ext E13 f12_F_firstOf_a0
  have f13_F_secondOf_a0 := Fld.ext E13 f12_F_secondOf_a0
  have f13_F_startOf_a0 := Fld.ext E13 f12_F_startOf_a0
  have f13_F_count_a0 := Fld.ext E13 f12_F_count_a0
  have f13_V_a1 := Arv.ext f12_V_a1 E13
  have f13_E_a1 := Exa.ext E13 f12_E_a1
  have f13_Eb4 := Exa.ext E13 f12_Eb4
  have f13_Vb4 := Arv.ext f12_Vb4 E13
  have f13_Eb7 := Exa.ext E13 f12_Eb7
  have f13_Vb7 := Arv.ext f12_Vb7 E13
  have f13_Vb7_0 := Arv.ext f12_Vb7_0 E13
  have f13_Eb7_0 := Exa.ext E13 f12_Eb7_0
  have f13_Eb9 := Exa.ext E13 f12_Eb9
  have f13_Vb9 := Arv.ext f12_Vb9 E13
  have f13_Eb11 := Exa.ext E13 f12_Eb11
  have f13_Vb11 := Arv.ext f12_Vb11 E13
  have V13 : Arv Z h13 b13 k13 .int (0 : Int32) [] (.int (0 : Int32)) := (Arv.new A13 (by decide)).pad (pad_rep [] (.int (0 : Int32)) 0)
  refine Gz.st st13 ?_
  refine Gz.putF 93 X13 hx hZ hown (.array .int) (dd d1_90) (host := "") (Or.inl (ww hw 33 rfl)) Via.refl e13 f13_F_startOf_a0 f13_E_a0 (Or.inr ⟨(ww hw 34 rfl), rfl, hnm⟩) (ww hw 2 rfl) (by decide) rfl rfl rfl fun T14 h14 X14 e14 W14 => ?_
  have f14_E_a0 := Exa.wr W14 f13_E_a0
  have f14_F_valueCounts_a0 := Fld.other W14 f13_F_valueCounts_a0 (Or.inr (slot_ne (Or.inr (ww hw 24 rfl)) (Or.inr (ww hw 34 rfl)) (by decide) (t := (.array .int)) (t' := (.array .int)) (by decide) (by decide)))
  have f14_F_start_a0 := Fld.other W14 f13_F_start_a0 (Or.inr (slot_ne (Or.inr (ww hw 28 rfl)) (Or.inr (ww hw 34 rfl)) (by decide) (t := (.array (.array .int))) (t' := (.array .int)) (by decide) (by decide)))
  have f14_F_firstOf_a0 := Fld.other W14 f13_F_firstOf_a0 (Or.inr (slot_ne (Or.inr (ww hw 30 rfl)) (Or.inr (ww hw 34 rfl)) (by decide) (t := (.array .int)) (t' := (.array .int)) (by decide) (by decide)))
  have f14_F_secondOf_a0 := Fld.other W14 f13_F_secondOf_a0 (Or.inr (slot_ne (Or.inr (ww hw 32 rfl)) (Or.inr (ww hw 34 rfl)) (by decide) (t := (.array .int)) (t' := (.array .int)) (by decide) (by decide)))
  have f14_F_count_a0 := Fld.other W14 f13_F_count_a0 (Or.inr (slot_ne (Or.inr (ww hw 36 rfl)) (Or.inr (ww hw 34 rfl)) (by decide) (t := .int) (t' := (.array .int)) (by decide) (by decide)))
  have f14_V_a1 := Arv.other f13_V_a1 W14 ne_a1_a0
  have f14_E_a1 := Exa.wr W14 f13_E_a1
  have f14_Eb4 := Exa.wr W14 f13_Eb4
  have f14_Vb4 := Arv.other f13_Vb4 W14 (Ne.symm ne_a0_b4)
  have f14_Eb7 := Exa.wr W14 f13_Eb7
  have f14_Vb7 := Arv.other f13_Vb7 W14 (Ne.symm ne_a0_b7)
  have f14_Vb7_0 := Arv.other f13_Vb7_0 W14 (Ne.symm ne_a0_b7_0)
  have f14_Eb7_0 := Exa.wr W14 f13_Eb7_0
  have f14_Eb9 := Exa.wr W14 f13_Eb9
  have f14_Vb9 := Arv.other f13_Vb9 W14 (Ne.symm ne_a0_b9)
  have f14_Eb11 := Exa.wr W14 f13_Eb11
  have f14_Vb11 := Arv.other f13_Vb11 W14 (Ne.symm ne_a0_b11)
  have f14_Eb13 := Exa.wr W14 Q13
  have f14_Vb13 := Arv.other V13 W14 (Ne.symm ne_a0_b13)
  have f14_F_startOf_a0 := Fld.same W14 f13_F_startOf_a0
  have N14 := Fr.snoc X14 N12 g_a0
  have SZ14 : n0 ≤ h14.size := Nat.le_trans SZ13 (Keep.of_wr W14).1
  have K14 := Keep.wr K13 W14 (Or.inl (List.mem_of_getElem? (i := 0) rfl))
  refine Gz.iconst 94 (0 : Int32) X14 hx (dd d1_93) rfl rfl ?_
  refine Gz.istore 96 #[.val (.ref a0), .val (.ref a1), .val (.long (fC1 a1 v0)), .second, .val (.int (1 : Int32)), .val (.int (0 : Int32)), .val (.int (0 : Int32)), .unset, .unset, .unset] X14 hx (dd d1_94) rfl rfl ?_
  refine Gz.iconst 97 (0 : Int32) X14 hx (dd d1_96) rfl rfl ?_
  refine Gz.istore 99 #[.val (.ref a0), .val (.ref a1), .val (.long (fC1 a1 v0)), .second, .val (.int (1 : Int32)), .val (.int (0 : Int32)), .val (.int (0 : Int32)), .val (.int (0 : Int32)), .unset, .unset] X14 hx (dd d1_97) rfl rfl ?_
  refine Gz.iconst 100 (0 : Int32) X14 hx (dd d1_99) rfl rfl ?_
  refine Gz.istore 102 #[.val (.ref a0), .val (.ref a1), .val (.long (fC1 a1 v0)), .second, .val (.int (1 : Int32)), .val (.int (0 : Int32)), .val (.int (0 : Int32)), .val (.int (0 : Int32)), .val (.int (0 : Int32)), .unset] X14 hx (dd d1_100) rfl rfl ?_
  refine Gz.iload 104 X14 hx (dd d1_102) rfl rfl ?_
  refine Gz.iload 106 X14 hx (dd d1_104) rfl rfl ?_
  refine Gz.icmpNo 109 X14 hx (dd d1_106) (tlt (by decide : (0 : Int32) < (1 : Int32))).2.1 rfl ?_
  refine Gz.iload 111 X14 hx (dd d1_109) rfl rfl ?_
  refine Gz.iconst 112 (1 : Int32) X14 hx (dd d1_111) rfl rfl ?_
  refine Gz.iaddV 113 (1 : Int32) X14 hx (dd d1_112) rfl rfl ?_
  refine Gz.istore 115 #[.val (.ref a0), .val (.ref a1), .val (.long (fC1 a1 v0)), .second, .val (.int (1 : Int32)), .val (.int (0 : Int32)), .val (.int (0 : Int32)), .val (.int (0 : Int32)), .val (.int (0 : Int32)), .val (.int (1 : Int32))] X14 hx (dd d1_113) rfl rfl ?_
  refine Gz.iload 117 X14 hx (dd d1_115) rfl rfl ?_
  refine Gz.iload 119 X14 hx (dd d1_117) rfl rfl ?_
  refine Gz.icmpYes 184 X14 hx (dd d1_119) (flt (by decide : ¬ ((1 : Int32) < (1 : Int32)))).2.1 (by decide) (by decide) ?_
  refine Gz.iinc 187 #[.val (.ref a0), .val (.ref a1), .val (.long (fC1 a1 v0)), .second, .val (.int (1 : Int32)), .val (.int (0 : Int32)), .val (.int (0 : Int32)), .val (.int (0 : Int32)), .val (.int (1 : Int32)), .val (.int (1 : Int32))] X14 hx (dd d1_184) rfl rfl rfl ?_
  refine Gz.goto 102 X14 hx (dd d1_187) (by decide) (by decide) ?_
  refine Gz.iload 104 X14 hx (dd d1_102) rfl rfl ?_
  refine Gz.iload 106 X14 hx (dd d1_104) rfl rfl ?_
  refine Gz.icmpYes 190 X14 hx (dd d1_106) (flt (by decide : ¬ ((1 : Int32) < (1 : Int32)))).2.1 (by decide) (by decide) ?_
  refine Gz.aloadN 191 X14 hx (dd d1_190) rfl rfl rfl ?_
  refine Gz.iload 193 X14 hx (dd d1_191) rfl rfl ?_
  refine Gz.putF 196 X14 hx hZ hown .int (dd d1_193) (host := "") (Or.inl (ww hw 35 rfl)) Via.refl e14 f14_F_count_a0 f14_E_a0 (Or.inr ⟨(ww hw 36 rfl), rfl, hnm⟩) (ww hw 2 rfl) (by decide) rfl rfl rfl fun T15 h15 X15 e15 W15 => ?_
  have f15_E_a0 := Exa.wr W15 f14_E_a0
  have f15_F_valueCounts_a0 := Fld.other W15 f14_F_valueCounts_a0 (Or.inr (slot_ne (Or.inr (ww hw 24 rfl)) (Or.inr (ww hw 36 rfl)) (by decide) (t := (.array .int)) (t' := .int) (by decide) (by decide)))
  have f15_F_start_a0 := Fld.other W15 f14_F_start_a0 (Or.inr (slot_ne (Or.inr (ww hw 28 rfl)) (Or.inr (ww hw 36 rfl)) (by decide) (t := (.array (.array .int))) (t' := .int) (by decide) (by decide)))
  have f15_F_firstOf_a0 := Fld.other W15 f14_F_firstOf_a0 (Or.inr (slot_ne (Or.inr (ww hw 30 rfl)) (Or.inr (ww hw 36 rfl)) (by decide) (t := (.array .int)) (t' := .int) (by decide) (by decide)))
  have f15_F_secondOf_a0 := Fld.other W15 f14_F_secondOf_a0 (Or.inr (slot_ne (Or.inr (ww hw 32 rfl)) (Or.inr (ww hw 36 rfl)) (by decide) (t := (.array .int)) (t' := .int) (by decide) (by decide)))
  have f15_F_startOf_a0 := Fld.other W15 f14_F_startOf_a0 (Or.inr (slot_ne (Or.inr (ww hw 34 rfl)) (Or.inr (ww hw 36 rfl)) (by decide) (t := (.array .int)) (t' := .int) (by decide) (by decide)))
  have f15_V_a1 := Arv.other f14_V_a1 W15 ne_a1_a0
  have f15_E_a1 := Exa.wr W15 f14_E_a1
  have f15_Eb4 := Exa.wr W15 f14_Eb4
  have f15_Vb4 := Arv.other f14_Vb4 W15 (Ne.symm ne_a0_b4)
  have f15_Eb7 := Exa.wr W15 f14_Eb7
  have f15_Vb7 := Arv.other f14_Vb7 W15 (Ne.symm ne_a0_b7)
  have f15_Vb7_0 := Arv.other f14_Vb7_0 W15 (Ne.symm ne_a0_b7_0)
  have f15_Eb7_0 := Exa.wr W15 f14_Eb7_0
  have f15_Eb9 := Exa.wr W15 f14_Eb9
  have f15_Vb9 := Arv.other f14_Vb9 W15 (Ne.symm ne_a0_b9)
  have f15_Eb11 := Exa.wr W15 f14_Eb11
  have f15_Vb11 := Arv.other f14_Vb11 W15 (Ne.symm ne_a0_b11)
  have f15_Eb13 := Exa.wr W15 f14_Eb13
  have f15_Vb13 := Arv.other f14_Vb13 W15 (Ne.symm ne_a0_b13)
  have f15_F_count_a0 := Fld.same W15 f14_F_count_a0
  have N15 := Fr.snoc X15 N14 g_a0
  have SZ15 : n0 ≤ h15.size := Nat.le_trans SZ14 (Keep.of_wr W15).1
  have K15 := Keep.wr K14 W15 (Or.inl (List.mem_of_getElem? (i := 0) rfl))
  refine Gz.fin X15 (v := none) (fun _ => rfl) hlk (by decide) (by decide) (fun fs hr => X15.returnOut hx hret (dd d1_196) hr) ?_
  rw [e15]
  exact ⟨rfl, N15, K15, f15_E_a0, b4, k_a1, sz_b4, f15_F_valueCounts_a0, f15_Vb4⟩
theorem d1_122 : decode prog_43_method_1_code 122 = .ok (.aload_n 0, 1) := by decide +kernel
theorem d1_123 : decode prog_43_method_1_code 123 = .ok (.getfield 37, 3) := by decide +kernel
theorem d1_126 : decode prog_43_method_1_code 126 = .ok (.iload 8, 2) := by decide +kernel
theorem d1_128 : decode prog_43_method_1_code 128 = .ok (.aaload, 1) := by decide +kernel
theorem d1_129 : decode prog_43_method_1_code 129 = .ok (.iload 9, 2) := by decide +kernel
theorem d1_131 : decode prog_43_method_1_code 131 = .ok (.iload 6, 2) := by decide +kernel
theorem d1_133 : decode prog_43_method_1_code 133 = .ok (.iastore, 1) := by decide +kernel
theorem d1_134 : decode prog_43_method_1_code 134 = .ok (.aload_n 0, 1) := by decide +kernel
theorem d1_135 : decode prog_43_method_1_code 135 = .ok (.getfield 40, 3) := by decide +kernel
theorem d1_138 : decode prog_43_method_1_code 138 = .ok (.iload 7, 2) := by decide +kernel
theorem d1_140 : decode prog_43_method_1_code 140 = .ok (.iload 8, 2) := by decide +kernel
theorem d1_142 : decode prog_43_method_1_code 142 = .ok (.iastore, 1) := by decide +kernel
theorem d1_143 : decode prog_43_method_1_code 143 = .ok (.aload_n 0, 1) := by decide +kernel
theorem d1_144 : decode prog_43_method_1_code 144 = .ok (.getfield 43, 3) := by decide +kernel
theorem d1_147 : decode prog_43_method_1_code 147 = .ok (.iload 7, 2) := by decide +kernel
theorem d1_149 : decode prog_43_method_1_code 149 = .ok (.iload 9, 2) := by decide +kernel
theorem d1_151 : decode prog_43_method_1_code 151 = .ok (.iastore, 1) := by decide +kernel
theorem d1_152 : decode prog_43_method_1_code 152 = .ok (.aload_n 0, 1) := by decide +kernel
theorem d1_153 : decode prog_43_method_1_code 153 = .ok (.getfield 46, 3) := by decide +kernel
theorem d1_156 : decode prog_43_method_1_code 156 = .ok (.iload 7, 2) := by decide +kernel
theorem d1_158 : decode prog_43_method_1_code 158 = .ok (.iload 6, 2) := by decide +kernel
theorem d1_160 : decode prog_43_method_1_code 160 = .ok (.iastore, 1) := by decide +kernel
theorem d1_161 : decode prog_43_method_1_code 161 = .ok (.iinc 7 1, 3) := by decide +kernel
theorem d1_164 : decode prog_43_method_1_code 164 = .ok (.iload 6, 2) := by decide +kernel
theorem d1_166 : decode prog_43_method_1_code 166 = .ok (.aload_n 1, 1) := by decide +kernel
theorem d1_167 : decode prog_43_method_1_code 167 = .ok (.iload 8, 2) := by decide +kernel
theorem d1_169 : decode prog_43_method_1_code 169 = .ok (.iaload, 1) := by decide +kernel
theorem d1_170 : decode prog_43_method_1_code 170 = .ok (.aload_n 1, 1) := by decide +kernel
theorem d1_171 : decode prog_43_method_1_code 171 = .ok (.iload 9, 2) := by decide +kernel
theorem d1_173 : decode prog_43_method_1_code 173 = .ok (.iaload, 1) := by decide +kernel
theorem d1_174 : decode prog_43_method_1_code 174 = .ok (.imul, 1) := by decide +kernel
theorem d1_175 : decode prog_43_method_1_code 175 = .ok (.iadd, 1) := by decide +kernel
theorem d1_176 : decode prog_43_method_1_code 176 = .ok (.istore 6, 2) := by decide +kernel
theorem d1_178 : decode prog_43_method_1_code 178 = .ok (.iinc 9 1, 3) := by decide +kernel
theorem d1_181 : decode prog_43_method_1_code 181 = .ok (.goto (-66), 3) := by decide +kernel
theorem ef_rmI2 (m : MethodId) (a0 : Addr) (a1 : Addr) : entryFrame m #[(.ref a0), (.ref a1)] 10 = mkF m 0 #[.val (.ref a0), .val (.ref a1), .unset, .unset, .unset, .unset, .unset, .unset, .unset, .unset] [] := by first | (simp [entryFrame, mkF, argsToLocals, Value.category]; done) | rfl
def Q_rmI2 (Z : State) (a0 : Addr) (a1 : Addr) (k_a1 : ClassId) (v0 : Int32) (v1 : Int32) (h0 : Heap) (n0 : Nat) (v : Option Value) (h : Heap) (L : List Loc) : Prop := v = none ∧ Fr n0 L ∧ Keep h0 h [a0] ∧ Exa Z h a0 "com/example/minsuite/minsuite/ValuePairs" ∧ ∃ (ac : Addr) (kc : ClassId), h0.size ≤ ac ∧ Fld Z h a0 "com/example/minsuite/minsuite/ValuePairs" "valueCounts" "[I" (.ref ac) ∧ Arv Z h ac kc .int (2 : Int32) [(.int v0), (.int v1)] (.int (0 : Int32))
set_option maxRecDepth 65536 in
set_option maxHeartbeats 40000000 in
theorem rmI2 (l : Launch) (Z : State) (av0 : Array Value) (hw : ∀ d ∈ tables_1, d.before av0 Z = true) (ws : List Jvm.Cond) (a0 : Addr) (a1 : Addr) (k_a1 : ClassId) (v0 : Int32) (v1 : Int32) (h0 : Heap) (n0 : Nat) (Z0 : n0 ≤ h0.size) (E_a0 : Exa Z h0 a0 "com/example/minsuite/minsuite/ValuePairs") (F_valueCounts_a0 : Fld Z h0 a0 "com/example/minsuite/minsuite/ValuePairs" "valueCounts" "[I" .null) (F_start_a0 : Fld Z h0 a0 "com/example/minsuite/minsuite/ValuePairs" "start" "[[I" .null) (F_firstOf_a0 : Fld Z h0 a0 "com/example/minsuite/minsuite/ValuePairs" "firstOf" "[I" .null) (F_secondOf_a0 : Fld Z h0 a0 "com/example/minsuite/minsuite/ValuePairs" "secondOf" "[I" .null) (F_startOf_a0 : Fld Z h0 a0 "com/example/minsuite/minsuite/ValuePairs" "startOf" "[I" .null) (F_count_a0 : Fld Z h0 a0 "com/example/minsuite/minsuite/ValuePairs" "count" "I" (.int (0 : Int32))) (g_a0 : n0 ≤ a0) (V_a1 : Arv Z h0 a1 k_a1 .int (2 : Int32) [(.int v0), (.int v1)] (.int (0 : Int32))) (E_a1 : Exa Z h0 a1 "[I") (ne_a1_a0 : a1 ≠ a0) (hcnt : ¬ ((2147483639 : Int64) < (fC2 a1 v0 v1))) :
    MetFree l (⟨"com/example/minsuite/minsuite/ValuePairs", "<init>", "([I)V"⟩ : MethodName) (head1 (Jvm.Cond.code (⟨"com/example/minsuite/minsuite/ValuePairs", "<init>", "([I)V"⟩ : MethodName) prog_43_method_1_code 10 none :: ws) ({ frames := 1, cells := 7, slots := 11, locals := 20 } : Room)) (fun a U => a = #[(.ref a0), (.ref a1)] ∧ Z.Warmed39 U.vm ∧ U.heap = h0) (fun _ _ _ _ _ => True) (fun _ U o U' => ∃ v L, o = .returned v ∧ Q_rmI2 Z a0 a1 k_a1 v0 v1 h0 n0 v U'.heap L ∧ FrameEnd U o U' L ({ frames := 1, cells := 7, slots := 11, locals := 20 } : Room).cells ({ frames := 1, cells := 7, slots := 11, locals := 20 } : Room).slots) := by
  refine MetFree.of_bodySF (plainFor_of_name pn_0) hisR ?_
  intro p e s m args below meth c s₁ Bd hml0 hP hK
  obtain ⟨rfl, hZ, hh⟩ := hP
  have hx := Bd.exec
  have hby := Bd.bytes
  have hml : c.maxLocals = 10 := hml0
  have dd : ∀ {pc : Nat} {r : Except DecodeError (Instr × Nat)}, decode prog_43_method_1_code pc = r → decode c.code pc = r := fun q => hb hby q
  have hown : s.vm.findClass "com/example/minsuite/minsuite/ValuePairs" = some m.cls := findClass_of_methodNamed Bd.named
  have hnm := (name_of_methodNamed Bd.named Bd.method).1
  have X0 : Stand p l e ({ frames := 1, cells := 7, slots := 11, locals := 20 } : Room) s m #[(.ref a0), (.ref a1)] below meth c s₁ [] 0 0 := Stand.of_body Bd
  have e0 : s₁.heap = h0 := by rw [← hh, Bd.state]; rfl
  have N0 := Fr.nil n0
  have hret := Bd.returns
  have hlk := Bd.notSynchronized
  show Gz p e below s ({ frames := 1, cells := 7, slots := 11, locals := 20 } : Room).cells ({ frames := 1, cells := 7, slots := 11, locals := 20 } : Room).slots (Q_rmI2 Z a0 a1 k_a1 v0 v1 h0 n0) (s₁.setTop (entryFrame m #[(.ref a0), (.ref a1)] 10))
  refine Gz.enter (ef_rmI2 m a0 a1) ?_
  refine Gz.aloadN 1 X0 hx (dd d1_0) rfl rfl rfl ?_
  obtain ⟨T1, X1, e1, st1⟩ := initO X0 hx hZ hown (ww hw 7 rfl) (ww hw 8 rfl) (ww hw 9 rfl) e0 (g := (mkF m 1 #[.val (.ref a0), .val (.ref a1), .unset, .unset, .unset, .unset, .unset, .unset, .unset, .unset] [(.ref a0)])) rfl (by rw [hml]; rfl) rfl (dd d1_1) (by decide) (W := 0) (by show 2 * 0 + _ ≤ _; exact Nat.le_of_eq rfl) (by decide)
  refine Gz.st st1 ?_
  refine Gz.aloadN 5 X1 hx (dd d1_4) rfl rfl rfl ?_
  obtain ⟨_, _, ⟨T2, L2, k2, n2⟩, -, X2, ⟨Lc2, hQ2, l2, y2, z2⟩, st2⟩ := Jvm.LawKit.callS X1 hx (y := (⟨"com/example/minsuite/minsuite/ValuePairs", "count", "([I)J"⟩ : MethodName)) hown (mvT hZ (ww hw 10 rfl)) (mvT hZ (ww hw 11 rfl)) (mvT hZ (ww hw 3 rfl)) (mvT hZ (ww hw 12 rfl)) (by decide) (backOf (W := 0) (rmC2 l Z av0 hw [] a1 k_a1 v0 v1 h0 n0 Z0 V_a1) hZ (ww hw 12 rfl) (ww hw 3 rfl) (by decide) (by decide)) (g := (mkF m 5 #[.val (.ref a0), .val (.ref a1), .unset, .unset, .unset, .unset, .unset, .unset, .unset, .unset] [(.ref a1)])) rfl (by rw [hml]; rfl) (argsL := [(.ref a1)]) (rest := []) (lenOf pd_0 rfl) rfl (by show 2 * 0 + _ ≤ _; exact Nat.le_of_eq rfl) (dd d1_5) (fun _ _ => ⟨rfl, e1, (by decide : 0 + 0 ≤ _), (by decide : 0 + 0 ≤ _)⟩)
  dsimp only [Pt.U, Pt.locs, Pt.cells, Pt.slots, Q_rmC2] at X2 l2 y2 z2 st2 hQ2
  subst l2 y2 z2
  obtain ⟨rfl, N2q, e2⟩ := hQ2
  have N2 := Fr.app N0 N2q
  refine Gz.st st2 ?_
  refine Gz.lstoreN 9 #[.val (.ref a0), .val (.ref a1), .val (.long (fC2 a1 v0 v1)), .second, .unset, .unset, .unset, .unset, .unset, .unset] X2 hx (dd d1_8) rfl rfl ?_
  refine Gz.lloadN 10 X2 hx (dd d1_9) rfl rfl ?_
  refine Gz.ldc2J 13 X2 hx (dd d1_10) hown (mvT hZ (ww hw 13 rfl)) rfl ?_
  refine Gz.lcmp 14 X2 hx (dd d1_13) rfl ?_
  refine Gz.ifYes 31 X2 hx (dd d1_14) ((if0 _ _).trans (flt (fun q => (hcnt : ¬ ((2147483639 : Int64) < (fC2 a1 v0 v1))) ((lw_gt _ _).mp q))).2.2.2) (by decide) (by decide) ?_
  refine Gz.aloadN 32 X2 hx (dd d1_31) rfl rfl rfl ?_
  obtain ⟨c3, A3, -, S3, N3, -, -⟩ := id V_a1
  refine Gz.alen 33 X2 hx hZ (dd d1_32) e2 A3 S3 N3 rfl ?_
  refine Gz.istore 35 #[.val (.ref a0), .val (.ref a1), .val (.long (fC2 a1 v0 v1)), .second, .val (.int (2 : Int32)), .unset, .unset, .unset, .unset, .unset] X2 hx (dd d1_33) rfl rfl ?_
  refine Gz.aloadN 36 X2 hx (dd d1_35) rfl rfl rfl ?_
  refine Gz.aloadN 37 X2 hx (dd d1_36) rfl rfl rfl ?_
  obtain ⟨T4, h4, X4, e4, E4, A4, Q4, st4⟩ := cloneH X2 hx hZ hown (ww hw 14 rfl) (ww hw 15 rfl) (ww hw 19 rfl) (ww hw 17 rfl) (ww hw 18 rfl) (ww hw 20 rfl) e2 (Arv.arh V_a1) E_a1 (g := (mkF m 37 #[.val (.ref a0), .val (.ref a1), .val (.long (fC2 a1 v0 v1)), .second, .val (.int (2 : Int32)), .unset, .unset, .unset, .unset, .unset] [(.ref a1), (.ref a0)])) rfl (by rw [hml]; rfl) rfl (dd d1_37) (by decide) (W := 1) (by show 2 * 0 + _ ≤ _; exact Nat.le_of_eq rfl) (by decide) (cap := 2) (by decide) (by decide) (by decide)
  obtain ⟨b4, g4⟩ : ∃ z, z = h0.size := ⟨_, rfl⟩
  rw [← g4] at A4 Q4 st4
  have ne_a0_b4 : a0 ≠ b4 := Nat.ne_of_lt (Nat.lt_of_lt_of_le (E_a0).lt (Nat.le_of_eq g4.symm))
  have ne_a1_b4 : a1 ≠ b4 := Nat.ne_of_lt (Nat.lt_of_lt_of_le (V_a1).lt (Nat.le_of_eq g4.symm))
  have g_b4 : n0 ≤ b4 := Nat.le_trans Z0 (Nat.le_of_eq g4.symm)
  have SZ4 : n0 ≤ h4.size := Nat.le_trans Z0 E4.1
  have sz_b4 : h0.size ≤ b4 := Nat.le_trans (Keep.refl h0 [a0]).1 (Nat.le_of_eq g4.symm)
  have K4 := Keep.ext (Keep.refl h0 [a0]) E4
  have f4_E_a0 := Exa.ext E4 E_a0
  have f4_F_valueCounts_a0 := Fld.ext E4 F_valueCounts_a0
  have f4_F_start_a0 := Fld.ext E4 F_start_a0
  have f4_F_firstOf_a0 := Fld.ext E4 F_firstOf_a0
  have f4_F_secondOf_a0 := Fld.ext E4 F_secondOf_a0
  have f4_F_startOf_a0 := Fld.ext E4 F_startOf_a0
  have f4_F_count_a0 := Fld.ext E4 F_count_a0
  have f4_V_a1 := Arv.ext V_a1 E4
  have f4_E_a1 := Exa.ext E4 E_a1
  have V4 : Arv Z h4 b4 k_a1 .int (2 : Int32) [(.int v0), (.int v1)] (.int (0 : Int32)) := A4
  refine Gz.st st4 ?_
  refine Gz.castY 43 X4 hx hZ hown (dd d1_40) (ww hw 21 rfl) e4 (Ins.self Q4) rfl fun T5 X5 e5 => ?_
  refine Gz.putF 46 X5 hx hZ hown (.array .int) (dd d1_43) (host := "") (Or.inl (ww hw 23 rfl)) Via.refl e5 f4_F_valueCounts_a0 f4_E_a0 (Or.inr ⟨(ww hw 24 rfl), rfl, hnm⟩) (ww hw 2 rfl) (by decide) rfl rfl rfl fun T6 h6 X6 e6 W6 => ?_
  have f6_E_a0 := Exa.wr W6 f4_E_a0
  have f6_F_start_a0 := Fld.other W6 f4_F_start_a0 (Or.inr (slot_ne (Or.inr (ww hw 28 rfl)) (Or.inr (ww hw 24 rfl)) (by decide) (t := (.array (.array .int))) (t' := (.array .int)) (by decide) (by decide)))
  have f6_F_firstOf_a0 := Fld.other W6 f4_F_firstOf_a0 (Or.inr (slot_ne (Or.inr (ww hw 30 rfl)) (Or.inr (ww hw 24 rfl)) (by decide) (t := (.array .int)) (t' := (.array .int)) (by decide) (by decide)))
  have f6_F_secondOf_a0 := Fld.other W6 f4_F_secondOf_a0 (Or.inr (slot_ne (Or.inr (ww hw 32 rfl)) (Or.inr (ww hw 24 rfl)) (by decide) (t := (.array .int)) (t' := (.array .int)) (by decide) (by decide)))
  have f6_F_startOf_a0 := Fld.other W6 f4_F_startOf_a0 (Or.inr (slot_ne (Or.inr (ww hw 34 rfl)) (Or.inr (ww hw 24 rfl)) (by decide) (t := (.array .int)) (t' := (.array .int)) (by decide) (by decide)))
  have f6_F_count_a0 := Fld.other W6 f4_F_count_a0 (Or.inr (slot_ne (Or.inr (ww hw 36 rfl)) (Or.inr (ww hw 24 rfl)) (by decide) (t := .int) (t' := (.array .int)) (by decide) (by decide)))
  have f6_V_a1 := Arv.other f4_V_a1 W6 ne_a1_a0
  have f6_E_a1 := Exa.wr W6 f4_E_a1
  have f6_Eb4 := Exa.wr W6 Q4
  have f6_Vb4 := Arv.other V4 W6 (Ne.symm ne_a0_b4)
  have f6_F_valueCounts_a0 := Fld.same W6 f4_F_valueCounts_a0
  have N6 := Fr.snoc X6 N2 g_a0
  have SZ6 : n0 ≤ h6.size := Nat.le_trans SZ4 (Keep.of_wr W6).1
  have K6 := Keep.wr K4 W6 (Or.inl (List.mem_of_getElem? (i := 0) rfl))
  refine Gz.aloadN 47 X6 hx (dd d1_46) rfl rfl rfl ?_
  refine Gz.iload 49 X6 hx (dd d1_47) rfl rfl ?_
  refine Gz.iload 51 X6 hx (dd d1_49) rfl rfl ?_
  obtain ⟨b7_0, gr7_0⟩ : ∃ z, z = h6.size + 1 + 0 := ⟨_, rfl⟩
  obtain ⟨b7_1, gr7_1⟩ : ∃ z, z = h6.size + 1 + 1 := ⟨_, rfl⟩
  obtain ⟨T7, h7, k7, kr7, X7, e7, E7, A7, O7, Q7, Rw7, st7⟩ := gridM X6 hx hZ hown (ty := .int) (C := "[I") (ad := "[[I") rfl rfl (ww hw 25 rfl) (ww hw 26 rfl) (ww hw 0 rfl) e6 (g := (mkF m 51 #[.val (.ref a0), .val (.ref a1), .val (.long (fC2 a1 v0 v1)), .second, .val (.int (2 : Int32)), .unset, .unset, .unset, .unset, .unset] [(.int (2 : Int32)), (.int (2 : Int32)), (.ref a0)])) rfl (dd d1_51) rfl (by decide) (by decide) (xs := [b7_0, b7_1]) (N := 2) (by decide) (by rw [gr7_0, gr7_1]; rfl) (cap := 2) (by decide) (by decide) (by decide) rfl rfl (by decide) (by decide)
  obtain ⟨b7, g7⟩ : ∃ z, z = h6.size := ⟨_, rfl⟩
  rw [← g7] at A7 Q7 st7
  have ne_a0_b7 : a0 ≠ b7 := Nat.ne_of_lt (Nat.lt_of_lt_of_le (f6_E_a0).lt (Nat.le_of_eq g7.symm))
  have ne_a1_b7 : a1 ≠ b7 := Nat.ne_of_lt (Nat.lt_of_lt_of_le (f6_V_a1).lt (Nat.le_of_eq g7.symm))
  have ne_b4_b7 : b4 ≠ b7 := Nat.ne_of_lt (Nat.lt_of_lt_of_le (f6_Eb4).lt (Nat.le_of_eq g7.symm))
  have g_b7 : n0 ≤ b7 := Nat.le_trans SZ6 (Nat.le_of_eq g7.symm)
  have SZ7 : n0 ≤ h7.size := Nat.le_trans SZ6 E7.1
  have sz_b7 : h0.size ≤ b7 := Nat.le_trans K6.1 (Nat.le_of_eq g7.symm)
  have K7 := Keep.ext K6 E7
  have f7_E_a0 := Exa.ext E7 f6_E_a0
  have f7_F_valueCounts_a0 := Fld.ext E7 f6_F_valueCounts_a0
  have f7_F_start_a0 := Fld.ext E7 f6_F_start_a0
  have f7_F_firstOf_a0 := Fld.ext E7 f6_F_firstOf_a0
  have f7_F_secondOf_a0 := Fld.ext E7 f6_F_secondOf_a0
  have f7_F_startOf_a0 := Fld.ext E7 f6_F_startOf_a0
  have f7_F_count_a0 := Fld.ext E7 f6_F_count_a0
  have f7_V_a1 := Arv.ext f6_V_a1 E7
  have f7_E_a1 := Exa.ext E7 f6_E_a1
  have f7_Eb4 := Exa.ext E7 f6_Eb4
  have f7_Vb4 := Arv.ext f6_Vb4 E7
  have ne_a0_b7_0 : a0 ≠ b7_0 := own_rl (f6_E_a0).lt gr7_0
  have ne_a1_b7_0 : a1 ≠ b7_0 := own_rl (f6_V_a1).lt gr7_0
  have ne_b4_b7_0 : b4 ≠ b7_0 := own_rl (f6_Eb4).lt gr7_0
  have ne_b7_b7_0 : b7 ≠ b7_0 := own_ro g7 gr7_0
  have g_b7_0 : n0 ≤ b7_0 := own_rg SZ6 gr7_0
  have sz_b7_0 : h0.size ≤ b7_0 := own_rg (K6).1 gr7_0
  have ne_a0_b7_1 : a0 ≠ b7_1 := own_rl (f6_E_a0).lt gr7_1
  have ne_a1_b7_1 : a1 ≠ b7_1 := own_rl (f6_V_a1).lt gr7_1
  have ne_b4_b7_1 : b4 ≠ b7_1 := own_rl (f6_Eb4).lt gr7_1
  have ne_b7_b7_1 : b7 ≠ b7_1 := own_ro g7 gr7_1
  have ne_b7_0_b7_1 : b7_0 ≠ b7_1 := own_rr gr7_0 gr7_1 (by decide)
  have g_b7_1 : n0 ≤ b7_1 := own_rg SZ6 gr7_1
  have sz_b7_1 : h0.size ≤ b7_1 := own_rg (K6).1 gr7_1
  have V7 : Arv Z h7 b7 k7 (.array .int) (2 : Int32) [.ref b7_0, .ref b7_1] .null := A7
  have V7_0 : Arv Z h7 b7_0 kr7 .int (2 : Int32) [(.int (0 : Int32)), (.int (0 : Int32))] (.int (0 : Int32)) := (Arv.new (Rw7 0 b7_0 rfl).1 (by decide)).pad (pad_rep [] (.int (0 : Int32)) 2)
  have Q7_0 := (Rw7 0 b7_0 rfl).2
  have V7_1 : Arv Z h7 b7_1 kr7 .int (2 : Int32) [(.int (0 : Int32)), (.int (0 : Int32))] (.int (0 : Int32)) := (Arv.new (Rw7 1 b7_1 rfl).1 (by decide)).pad (pad_rep [] (.int (0 : Int32)) 2)
  have Q7_1 := (Rw7 1 b7_1 rfl).2
  refine Gz.st st7 ?_
  refine Gz.putF 58 X7 hx hZ hown (.array (.array .int)) (dd d1_55) (host := "") (Or.inl (ww hw 27 rfl)) Via.refl e7 f7_F_start_a0 f7_E_a0 (Or.inr ⟨(ww hw 28 rfl), rfl, hnm⟩) (ww hw 2 rfl) (by decide) rfl rfl rfl fun T8 h8 X8 e8 W8 => ?_
  have f8_E_a0 := Exa.wr W8 f7_E_a0
  have f8_F_valueCounts_a0 := Fld.other W8 f7_F_valueCounts_a0 (Or.inr (slot_ne (Or.inr (ww hw 24 rfl)) (Or.inr (ww hw 28 rfl)) (by decide) (t := (.array .int)) (t' := (.array (.array .int))) (by decide) (by decide)))
  have f8_F_firstOf_a0 := Fld.other W8 f7_F_firstOf_a0 (Or.inr (slot_ne (Or.inr (ww hw 30 rfl)) (Or.inr (ww hw 28 rfl)) (by decide) (t := (.array .int)) (t' := (.array (.array .int))) (by decide) (by decide)))
  have f8_F_secondOf_a0 := Fld.other W8 f7_F_secondOf_a0 (Or.inr (slot_ne (Or.inr (ww hw 32 rfl)) (Or.inr (ww hw 28 rfl)) (by decide) (t := (.array .int)) (t' := (.array (.array .int))) (by decide) (by decide)))
  have f8_F_startOf_a0 := Fld.other W8 f7_F_startOf_a0 (Or.inr (slot_ne (Or.inr (ww hw 34 rfl)) (Or.inr (ww hw 28 rfl)) (by decide) (t := (.array .int)) (t' := (.array (.array .int))) (by decide) (by decide)))
  have f8_F_count_a0 := Fld.other W8 f7_F_count_a0 (Or.inr (slot_ne (Or.inr (ww hw 36 rfl)) (Or.inr (ww hw 28 rfl)) (by decide) (t := .int) (t' := (.array (.array .int))) (by decide) (by decide)))
  have f8_V_a1 := Arv.other f7_V_a1 W8 ne_a1_a0
  have f8_E_a1 := Exa.wr W8 f7_E_a1
  have f8_Eb4 := Exa.wr W8 f7_Eb4
  have f8_Vb4 := Arv.other f7_Vb4 W8 (Ne.symm ne_a0_b4)
  have f8_Eb7 := Exa.wr W8 Q7
  have f8_Vb7 := Arv.other V7 W8 (Ne.symm ne_a0_b7)
  have f8_Vb7_0 := Arv.other V7_0 W8 (Ne.symm ne_a0_b7_0)
  have f8_Eb7_0 := Exa.wr W8 Q7_0
  have f8_Vb7_1 := Arv.other V7_1 W8 (Ne.symm ne_a0_b7_1)
  have f8_Eb7_1 := Exa.wr W8 Q7_1
  have f8_F_start_a0 := Fld.same W8 f7_F_start_a0
  have N8 := Fr.snoc X8 N6 g_a0
  have SZ8 : n0 ≤ h8.size := Nat.le_trans SZ7 (Keep.of_wr W8).1
  have K8 := Keep.wr K7 W8 (Or.inl (List.mem_of_getElem? (i := 0) rfl))
  refine Gz.iload 60 X8 hx (dd d1_58) rfl rfl ?_
  refine Gz.iload 62 X8 hx (dd d1_60) rfl rfl ?_
  refine Gz.iconst 63 (1 : Int32) X8 hx (dd d1_62) rfl rfl ?_
  refine Gz.isubV 64 (1 : Int32) X8 hx (dd d1_63) rfl rfl ?_
  refine Gz.imulV 65 (2 : Int32) X8 hx (dd d1_64) rfl rfl ?_
  refine Gz.iconst 66 (2 : Int32) X8 hx (dd d1_65) rfl rfl ?_
  refine Gz.idivV 67 (1 : Int32) X8 hx (dd d1_66) (by decide) rfl rfl ?_
  refine Gz.istore 69 #[.val (.ref a0), .val (.ref a1), .val (.long (fC2 a1 v0 v1)), .second, .val (.int (2 : Int32)), .val (.int (1 : Int32)), .unset, .unset, .unset, .unset] X8 hx (dd d1_67) rfl rfl ?_
  refine Gz.aloadN 70 X8 hx (dd d1_69) rfl rfl rfl ?_
  refine Gz.iload 72 X8 hx (dd d1_70) rfl rfl ?_
  obtain ⟨T9, h9, k9, X9, e9, E9, A9, Q9, st9⟩ := newPE X8 hx hZ (ww hw 0 rfl) e8 (g := (mkF m 72 #[.val (.ref a0), .val (.ref a1), .val (.long (fC2 a1 v0 v1)), .second, .val (.int (2 : Int32)), .val (.int (1 : Int32)), .unset, .unset, .unset, .unset] [(.int (1 : Int32)), (.ref a0)])) rfl (dd d1_72) rfl (by decide) (cap := 1) (by decide) (by decide) (by decide) (by decide) (ad := "[I") rfl
  obtain ⟨b9, g9⟩ : ∃ z, z = h8.size := ⟨_, rfl⟩
  rw [← g9] at A9 Q9 st9
  have ne_a0_b9 : a0 ≠ b9 := Nat.ne_of_lt (Nat.lt_of_lt_of_le (f8_E_a0).lt (Nat.le_of_eq g9.symm))
  have ne_a1_b9 : a1 ≠ b9 := Nat.ne_of_lt (Nat.lt_of_lt_of_le (f8_V_a1).lt (Nat.le_of_eq g9.symm))
  have ne_b4_b9 : b4 ≠ b9 := Nat.ne_of_lt (Nat.lt_of_lt_of_le (f8_Eb4).lt (Nat.le_of_eq g9.symm))
  have ne_b7_b9 : b7 ≠ b9 := Nat.ne_of_lt (Nat.lt_of_lt_of_le (f8_Eb7).lt (Nat.le_of_eq g9.symm))
  have ne_b7_0_b9 : b7_0 ≠ b9 := Nat.ne_of_lt (Nat.lt_of_lt_of_le (f8_Vb7_0).lt (Nat.le_of_eq g9.symm))
  have ne_b7_1_b9 : b7_1 ≠ b9 := Nat.ne_of_lt (Nat.lt_of_lt_of_le (f8_Vb7_1).lt (Nat.le_of_eq g9.symm))
  have g_b9 : n0 ≤ b9 := Nat.le_trans SZ8 (Nat.le_of_eq g9.symm)
  have SZ9 : n0 ≤ h9.size := Nat.le_trans SZ8 E9.1
  have sz_b9 : h0.size ≤ b9 := Nat.le_trans K8.1 (Nat.le_of_eq g9.symm)
  have K9 := Keep.ext K8 E9
  have f9_E_a0 := Exa.ext E9 f8_E_a0
  have f9_F_valueCounts_a0 := Fld.ext E9 f8_F_valueCounts_a0
  have f9_F_start_a0 := Fld.ext E9 f8_F_start_a0
  have f9_F_firstOf_a0 := Fld.ext E9 f8_F_firstOf_a0
  have f9_F_secondOf_a0 := Fld.ext E9 f8_F_secondOf_a0
  have f9_F_startOf_a0 := Fld.ext E9 f8_F_startOf_a0
  have f9_F_count_a0 := Fld.ext E9 f8_F_count_a0
  have f9_V_a1 := Arv.ext f8_V_a1 E9
  have f9_E_a1 := Exa.ext E9 f8_E_a1
  have f9_Eb4 := Exa.ext E9 f8_Eb4
  have f9_Vb4 := Arv.ext f8_Vb4 E9
  have f9_Eb7 := Exa.ext E9 f8_Eb7
  have f9_Vb7 := Arv.ext f8_Vb7 E9
  have f9_Vb7_0 := Arv.ext f8_Vb7_0 E9
  have f9_Eb7_0 := Exa.ext E9 f8_Eb7_0
  have f9_Vb7_1 := Arv.ext f8_Vb7_1 E9
  have f9_Eb7_1 := Exa.ext E9 f8_Eb7_1
  have V9 : Arv Z h9 b9 k9 .int (1 : Int32) [(.int (0 : Int32))] (.int (0 : Int32)) := (Arv.new A9 (by decide)).pad (pad_rep [] (.int (0 : Int32)) 1)
  refine Gz.st st9 ?_
  refine Gz.putF 77 X9 hx hZ hown (.array .int) (dd d1_74) (host := "") (Or.inl (ww hw 29 rfl)) Via.refl e9 f9_F_firstOf_a0 f9_E_a0 (Or.inr ⟨(ww hw 30 rfl), rfl, hnm⟩) (ww hw 2 rfl) (by decide) rfl rfl rfl fun T10 h10 X10 e10 W10 => ?_
  have f10_E_a0 := Exa.wr W10 f9_E_a0
  have f10_F_valueCounts_a0 := Fld.other W10 f9_F_valueCounts_a0 (Or.inr (slot_ne (Or.inr (ww hw 24 rfl)) (Or.inr (ww hw 30 rfl)) (by decide) (t := (.array .int)) (t' := (.array .int)) (by decide) (by decide)))
  have f10_F_start_a0 := Fld.other W10 f9_F_start_a0 (Or.inr (slot_ne (Or.inr (ww hw 28 rfl)) (Or.inr (ww hw 30 rfl)) (by decide) (t := (.array (.array .int))) (t' := (.array .int)) (by decide) (by decide)))
  have f10_F_secondOf_a0 := Fld.other W10 f9_F_secondOf_a0 (Or.inr (slot_ne (Or.inr (ww hw 32 rfl)) (Or.inr (ww hw 30 rfl)) (by decide) (t := (.array .int)) (t' := (.array .int)) (by decide) (by decide)))
  have f10_F_startOf_a0 := Fld.other W10 f9_F_startOf_a0 (Or.inr (slot_ne (Or.inr (ww hw 34 rfl)) (Or.inr (ww hw 30 rfl)) (by decide) (t := (.array .int)) (t' := (.array .int)) (by decide) (by decide)))
  have f10_F_count_a0 := Fld.other W10 f9_F_count_a0 (Or.inr (slot_ne (Or.inr (ww hw 36 rfl)) (Or.inr (ww hw 30 rfl)) (by decide) (t := .int) (t' := (.array .int)) (by decide) (by decide)))
  have f10_V_a1 := Arv.other f9_V_a1 W10 ne_a1_a0
  have f10_E_a1 := Exa.wr W10 f9_E_a1
  have f10_Eb4 := Exa.wr W10 f9_Eb4
  have f10_Vb4 := Arv.other f9_Vb4 W10 (Ne.symm ne_a0_b4)
  have f10_Eb7 := Exa.wr W10 f9_Eb7
  have f10_Vb7 := Arv.other f9_Vb7 W10 (Ne.symm ne_a0_b7)
  have f10_Vb7_0 := Arv.other f9_Vb7_0 W10 (Ne.symm ne_a0_b7_0)
  have f10_Eb7_0 := Exa.wr W10 f9_Eb7_0
  have f10_Vb7_1 := Arv.other f9_Vb7_1 W10 (Ne.symm ne_a0_b7_1)
  have f10_Eb7_1 := Exa.wr W10 f9_Eb7_1
  have f10_Eb9 := Exa.wr W10 Q9
  have f10_Vb9 := Arv.other V9 W10 (Ne.symm ne_a0_b9)
  have f10_F_firstOf_a0 := Fld.same W10 f9_F_firstOf_a0
  have N10 := Fr.snoc X10 N8 g_a0
  have SZ10 : n0 ≤ h10.size := Nat.le_trans SZ9 (Keep.of_wr W10).1
  have K10 := Keep.wr K9 W10 (Or.inl (List.mem_of_getElem? (i := 0) rfl))
  refine Gz.aloadN 78 X10 hx (dd d1_77) rfl rfl rfl ?_
  refine Gz.iload 80 X10 hx (dd d1_78) rfl rfl ?_
  obtain ⟨T11, h11, k11, X11, e11, E11, A11, Q11, st11⟩ := newPE X10 hx hZ (ww hw 0 rfl) e10 (g := (mkF m 80 #[.val (.ref a0), .val (.ref a1), .val (.long (fC2 a1 v0 v1)), .second, .val (.int (2 : Int32)), .val (.int (1 : Int32)), .unset, .unset, .unset, .unset] [(.int (1 : Int32)), (.ref a0)])) rfl (dd d1_80) rfl (by decide) (cap := 1) (by decide) (by decide) (by decide) (by decide) (ad := "[I") rfl
  obtain ⟨b11, g11⟩ : ∃ z, z = h10.size := ⟨_, rfl⟩
  rw [← g11] at A11 Q11 st11
  have ne_a0_b11 : a0 ≠ b11 := Nat.ne_of_lt (Nat.lt_of_lt_of_le (f10_E_a0).lt (Nat.le_of_eq g11.symm))
  have ne_a1_b11 : a1 ≠ b11 := Nat.ne_of_lt (Nat.lt_of_lt_of_le (f10_V_a1).lt (Nat.le_of_eq g11.symm))
  have ne_b4_b11 : b4 ≠ b11 := Nat.ne_of_lt (Nat.lt_of_lt_of_le (f10_Eb4).lt (Nat.le_of_eq g11.symm))
  have ne_b7_b11 : b7 ≠ b11 := Nat.ne_of_lt (Nat.lt_of_lt_of_le (f10_Eb7).lt (Nat.le_of_eq g11.symm))
  have ne_b7_0_b11 : b7_0 ≠ b11 := Nat.ne_of_lt (Nat.lt_of_lt_of_le (f10_Vb7_0).lt (Nat.le_of_eq g11.symm))
  have ne_b7_1_b11 : b7_1 ≠ b11 := Nat.ne_of_lt (Nat.lt_of_lt_of_le (f10_Vb7_1).lt (Nat.le_of_eq g11.symm))
  have ne_b9_b11 : b9 ≠ b11 := Nat.ne_of_lt (Nat.lt_of_lt_of_le (f10_Eb9).lt (Nat.le_of_eq g11.symm))
  have g_b11 : n0 ≤ b11 := Nat.le_trans SZ10 (Nat.le_of_eq g11.symm)
  have SZ11 : n0 ≤ h11.size := Nat.le_trans SZ10 E11.1
  have sz_b11 : h0.size ≤ b11 := Nat.le_trans K10.1 (Nat.le_of_eq g11.symm)
  have K11 := Keep.ext K10 E11
  have f11_E_a0 := Exa.ext E11 f10_E_a0
  have f11_F_valueCounts_a0 := Fld.ext E11 f10_F_valueCounts_a0
  have f11_F_start_a0 := Fld.ext E11 f10_F_start_a0
  have f11_F_firstOf_a0 := Fld.ext E11 f10_F_firstOf_a0
  have f11_F_secondOf_a0 := Fld.ext E11 f10_F_secondOf_a0
  have f11_F_startOf_a0 := Fld.ext E11 f10_F_startOf_a0
  have f11_F_count_a0 := Fld.ext E11 f10_F_count_a0
  have f11_V_a1 := Arv.ext f10_V_a1 E11
  have f11_E_a1 := Exa.ext E11 f10_E_a1
  have f11_Eb4 := Exa.ext E11 f10_Eb4
  have f11_Vb4 := Arv.ext f10_Vb4 E11
  have f11_Eb7 := Exa.ext E11 f10_Eb7
  have f11_Vb7 := Arv.ext f10_Vb7 E11
  have f11_Vb7_0 := Arv.ext f10_Vb7_0 E11
  have f11_Eb7_0 := Exa.ext E11 f10_Eb7_0
  have f11_Vb7_1 := Arv.ext f10_Vb7_1 E11
  have f11_Eb7_1 := Exa.ext E11 f10_Eb7_1
  have f11_Eb9 := Exa.ext E11 f10_Eb9
  have f11_Vb9 := Arv.ext f10_Vb9 E11
  have V11 : Arv Z h11 b11 k11 .int (1 : Int32) [(.int (0 : Int32))] (.int (0 : Int32)) := (Arv.new A11 (by decide)).pad (pad_rep [] (.int (0 : Int32)) 1)
  refine Gz.st st11 ?_
  refine Gz.putF 85 X11 hx hZ hown (.array .int) (dd d1_82) (host := "") (Or.inl (ww hw 31 rfl)) Via.refl e11 f11_F_secondOf_a0 f11_E_a0 (Or.inr ⟨(ww hw 32 rfl), rfl, hnm⟩) (ww hw 2 rfl) (by decide) rfl rfl rfl fun T12 h12 X12 e12 W12 => ?_
  have f12_E_a0 := Exa.wr W12 f11_E_a0
  have f12_F_valueCounts_a0 := Fld.other W12 f11_F_valueCounts_a0 (Or.inr (slot_ne (Or.inr (ww hw 24 rfl)) (Or.inr (ww hw 32 rfl)) (by decide) (t := (.array .int)) (t' := (.array .int)) (by decide) (by decide)))
  have f12_F_start_a0 := Fld.other W12 f11_F_start_a0 (Or.inr (slot_ne (Or.inr (ww hw 28 rfl)) (Or.inr (ww hw 32 rfl)) (by decide) (t := (.array (.array .int))) (t' := (.array .int)) (by decide) (by decide)))
  have f12_F_firstOf_a0 := Fld.other W12 f11_F_firstOf_a0 (Or.inr (slot_ne (Or.inr (ww hw 30 rfl)) (Or.inr (ww hw 32 rfl)) (by decide) (t := (.array .int)) (t' := (.array .int)) (by decide) (by decide)))
  have f12_F_startOf_a0 := Fld.other W12 f11_F_startOf_a0 (Or.inr (slot_ne (Or.inr (ww hw 34 rfl)) (Or.inr (ww hw 32 rfl)) (by decide) (t := (.array .int)) (t' := (.array .int)) (by decide) (by decide)))
  have f12_F_count_a0 := Fld.other W12 f11_F_count_a0 (Or.inr (slot_ne (Or.inr (ww hw 36 rfl)) (Or.inr (ww hw 32 rfl)) (by decide) (t := .int) (t' := (.array .int)) (by decide) (by decide)))
  have f12_V_a1 := Arv.other f11_V_a1 W12 ne_a1_a0
  have f12_E_a1 := Exa.wr W12 f11_E_a1
  have f12_Eb4 := Exa.wr W12 f11_Eb4
  have f12_Vb4 := Arv.other f11_Vb4 W12 (Ne.symm ne_a0_b4)
  have f12_Eb7 := Exa.wr W12 f11_Eb7
  have f12_Vb7 := Arv.other f11_Vb7 W12 (Ne.symm ne_a0_b7)
  have f12_Vb7_0 := Arv.other f11_Vb7_0 W12 (Ne.symm ne_a0_b7_0)
  have f12_Eb7_0 := Exa.wr W12 f11_Eb7_0
  have f12_Vb7_1 := Arv.other f11_Vb7_1 W12 (Ne.symm ne_a0_b7_1)
  have f12_Eb7_1 := Exa.wr W12 f11_Eb7_1
  have f12_Eb9 := Exa.wr W12 f11_Eb9
  have f12_Vb9 := Arv.other f11_Vb9 W12 (Ne.symm ne_a0_b9)
  have f12_Eb11 := Exa.wr W12 Q11
  have f12_Vb11 := Arv.other V11 W12 (Ne.symm ne_a0_b11)
  have f12_F_secondOf_a0 := Fld.same W12 f11_F_secondOf_a0
  have N12 := Fr.snoc X12 N10 g_a0
  have SZ12 : n0 ≤ h12.size := Nat.le_trans SZ11 (Keep.of_wr W12).1
  have K12 := Keep.wr K11 W12 (Or.inl (List.mem_of_getElem? (i := 0) rfl))
  refine Gz.aloadN 86 X12 hx (dd d1_85) rfl rfl rfl ?_
  refine Gz.iload 88 X12 hx (dd d1_86) rfl rfl ?_
  obtain ⟨T13, h13, k13, X13, e13, E13, A13, Q13, st13⟩ := newPE X12 hx hZ (ww hw 0 rfl) e12 (g := (mkF m 88 #[.val (.ref a0), .val (.ref a1), .val (.long (fC2 a1 v0 v1)), .second, .val (.int (2 : Int32)), .val (.int (1 : Int32)), .unset, .unset, .unset, .unset] [(.int (1 : Int32)), (.ref a0)])) rfl (dd d1_88) rfl (by decide) (cap := 1) (by decide) (by decide) (by decide) (by decide) (ad := "[I") rfl
  obtain ⟨b13, g13⟩ : ∃ z, z = h12.size := ⟨_, rfl⟩
  rw [← g13] at A13 Q13 st13
  have ne_a0_b13 : a0 ≠ b13 := Nat.ne_of_lt (Nat.lt_of_lt_of_le (f12_E_a0).lt (Nat.le_of_eq g13.symm))
  have ne_a1_b13 : a1 ≠ b13 := Nat.ne_of_lt (Nat.lt_of_lt_of_le (f12_V_a1).lt (Nat.le_of_eq g13.symm))
  have ne_b4_b13 : b4 ≠ b13 := Nat.ne_of_lt (Nat.lt_of_lt_of_le (f12_Eb4).lt (Nat.le_of_eq g13.symm))
  have ne_b7_b13 : b7 ≠ b13 := Nat.ne_of_lt (Nat.lt_of_lt_of_le (f12_Eb7).lt (Nat.le_of_eq g13.symm))
  have ne_b7_0_b13 : b7_0 ≠ b13 := Nat.ne_of_lt (Nat.lt_of_lt_of_le (f12_Vb7_0).lt (Nat.le_of_eq g13.symm))
  have ne_b7_1_b13 : b7_1 ≠ b13 := Nat.ne_of_lt (Nat.lt_of_lt_of_le (f12_Vb7_1).lt (Nat.le_of_eq g13.symm))
  have ne_b9_b13 : b9 ≠ b13 := Nat.ne_of_lt (Nat.lt_of_lt_of_le (f12_Eb9).lt (Nat.le_of_eq g13.symm))
  have ne_b11_b13 : b11 ≠ b13 := Nat.ne_of_lt (Nat.lt_of_lt_of_le (f12_Eb11).lt (Nat.le_of_eq g13.symm))
  have g_b13 : n0 ≤ b13 := Nat.le_trans SZ12 (Nat.le_of_eq g13.symm)
  have SZ13 : n0 ≤ h13.size := Nat.le_trans SZ12 E13.1
  have sz_b13 : h0.size ≤ b13 := Nat.le_trans K12.1 (Nat.le_of_eq g13.symm)
  have K13 := Keep.ext K12 E13
  have f13_E_a0 := Exa.ext E13 f12_E_a0
  have f13_F_valueCounts_a0 := Fld.ext E13 f12_F_valueCounts_a0
  have f13_F_start_a0 := Fld.ext E13 f12_F_start_a0
  have f13_F_firstOf_a0 := Fld.ext E13 f12_F_firstOf_a0
  have f13_F_secondOf_a0 := Fld.ext E13 f12_F_secondOf_a0
  have f13_F_startOf_a0 := Fld.ext E13 f12_F_startOf_a0
  have f13_F_count_a0 := Fld.ext E13 f12_F_count_a0
  have f13_V_a1 := Arv.ext f12_V_a1 E13
  have f13_E_a1 := Exa.ext E13 f12_E_a1
  have f13_Eb4 := Exa.ext E13 f12_Eb4
  have f13_Vb4 := Arv.ext f12_Vb4 E13
  have f13_Eb7 := Exa.ext E13 f12_Eb7
  have f13_Vb7 := Arv.ext f12_Vb7 E13
  have f13_Vb7_0 := Arv.ext f12_Vb7_0 E13
  have f13_Eb7_0 := Exa.ext E13 f12_Eb7_0
  have f13_Vb7_1 := Arv.ext f12_Vb7_1 E13
  have f13_Eb7_1 := Exa.ext E13 f12_Eb7_1
  have f13_Eb9 := Exa.ext E13 f12_Eb9
  have f13_Vb9 := Arv.ext f12_Vb9 E13
  have f13_Eb11 := Exa.ext E13 f12_Eb11
  have f13_Vb11 := Arv.ext f12_Vb11 E13
  have V13 : Arv Z h13 b13 k13 .int (1 : Int32) [(.int (0 : Int32))] (.int (0 : Int32)) := (Arv.new A13 (by decide)).pad (pad_rep [] (.int (0 : Int32)) 1)
  refine Gz.st st13 ?_
  refine Gz.putF 93 X13 hx hZ hown (.array .int) (dd d1_90) (host := "") (Or.inl (ww hw 33 rfl)) Via.refl e13 f13_F_startOf_a0 f13_E_a0 (Or.inr ⟨(ww hw 34 rfl), rfl, hnm⟩) (ww hw 2 rfl) (by decide) rfl rfl rfl fun T14 h14 X14 e14 W14 => ?_
  have f14_E_a0 := Exa.wr W14 f13_E_a0
  have f14_F_valueCounts_a0 := Fld.other W14 f13_F_valueCounts_a0 (Or.inr (slot_ne (Or.inr (ww hw 24 rfl)) (Or.inr (ww hw 34 rfl)) (by decide) (t := (.array .int)) (t' := (.array .int)) (by decide) (by decide)))
  have f14_F_start_a0 := Fld.other W14 f13_F_start_a0 (Or.inr (slot_ne (Or.inr (ww hw 28 rfl)) (Or.inr (ww hw 34 rfl)) (by decide) (t := (.array (.array .int))) (t' := (.array .int)) (by decide) (by decide)))
  have f14_F_firstOf_a0 := Fld.other W14 f13_F_firstOf_a0 (Or.inr (slot_ne (Or.inr (ww hw 30 rfl)) (Or.inr (ww hw 34 rfl)) (by decide) (t := (.array .int)) (t' := (.array .int)) (by decide) (by decide)))
  have f14_F_secondOf_a0 := Fld.other W14 f13_F_secondOf_a0 (Or.inr (slot_ne (Or.inr (ww hw 32 rfl)) (Or.inr (ww hw 34 rfl)) (by decide) (t := (.array .int)) (t' := (.array .int)) (by decide) (by decide)))
  have f14_F_count_a0 := Fld.other W14 f13_F_count_a0 (Or.inr (slot_ne (Or.inr (ww hw 36 rfl)) (Or.inr (ww hw 34 rfl)) (by decide) (t := .int) (t' := (.array .int)) (by decide) (by decide)))
  have f14_V_a1 := Arv.other f13_V_a1 W14 ne_a1_a0
  have f14_E_a1 := Exa.wr W14 f13_E_a1
  have f14_Eb4 := Exa.wr W14 f13_Eb4
  have f14_Vb4 := Arv.other f13_Vb4 W14 (Ne.symm ne_a0_b4)
  have f14_Eb7 := Exa.wr W14 f13_Eb7
  have f14_Vb7 := Arv.other f13_Vb7 W14 (Ne.symm ne_a0_b7)
  have f14_Vb7_0 := Arv.other f13_Vb7_0 W14 (Ne.symm ne_a0_b7_0)
  have f14_Eb7_0 := Exa.wr W14 f13_Eb7_0
  have f14_Vb7_1 := Arv.other f13_Vb7_1 W14 (Ne.symm ne_a0_b7_1)
  have f14_Eb7_1 := Exa.wr W14 f13_Eb7_1
  have f14_Eb9 := Exa.wr W14 f13_Eb9
  have f14_Vb9 := Arv.other f13_Vb9 W14 (Ne.symm ne_a0_b9)
  have f14_Eb11 := Exa.wr W14 f13_Eb11
  have f14_Vb11 := Arv.other f13_Vb11 W14 (Ne.symm ne_a0_b11)
  have f14_Eb13 := Exa.wr W14 Q13
  have f14_Vb13 := Arv.other V13 W14 (Ne.symm ne_a0_b13)
  have f14_F_startOf_a0 := Fld.same W14 f13_F_startOf_a0
  have N14 := Fr.snoc X14 N12 g_a0
  have SZ14 : n0 ≤ h14.size := Nat.le_trans SZ13 (Keep.of_wr W14).1
  have K14 := Keep.wr K13 W14 (Or.inl (List.mem_of_getElem? (i := 0) rfl))
  refine Gz.iconst 94 (0 : Int32) X14 hx (dd d1_93) rfl rfl ?_
  refine Gz.istore 96 #[.val (.ref a0), .val (.ref a1), .val (.long (fC2 a1 v0 v1)), .second, .val (.int (2 : Int32)), .val (.int (1 : Int32)), .val (.int (0 : Int32)), .unset, .unset, .unset] X14 hx (dd d1_94) rfl rfl ?_
  refine Gz.iconst 97 (0 : Int32) X14 hx (dd d1_96) rfl rfl ?_
  refine Gz.istore 99 #[.val (.ref a0), .val (.ref a1), .val (.long (fC2 a1 v0 v1)), .second, .val (.int (2 : Int32)), .val (.int (1 : Int32)), .val (.int (0 : Int32)), .val (.int (0 : Int32)), .unset, .unset] X14 hx (dd d1_97) rfl rfl ?_
  refine Gz.iconst 100 (0 : Int32) X14 hx (dd d1_99) rfl rfl ?_
  refine Gz.istore 102 #[.val (.ref a0), .val (.ref a1), .val (.long (fC2 a1 v0 v1)), .second, .val (.int (2 : Int32)), .val (.int (1 : Int32)), .val (.int (0 : Int32)), .val (.int (0 : Int32)), .val (.int (0 : Int32)), .unset] X14 hx (dd d1_100) rfl rfl ?_
  refine Gz.iload 104 X14 hx (dd d1_102) rfl rfl ?_
  refine Gz.iload 106 X14 hx (dd d1_104) rfl rfl ?_
  refine Gz.icmpNo 109 X14 hx (dd d1_106) (tlt (by decide : (0 : Int32) < (2 : Int32))).2.1 rfl ?_
  refine Gz.iload 111 X14 hx (dd d1_109) rfl rfl ?_
  refine Gz.iconst 112 (1 : Int32) X14 hx (dd d1_111) rfl rfl ?_
  refine Gz.iaddV 113 (1 : Int32) X14 hx (dd d1_112) rfl rfl ?_
  refine Gz.istore 115 #[.val (.ref a0), .val (.ref a1), .val (.long (fC2 a1 v0 v1)), .second, .val (.int (2 : Int32)), .val (.int (1 : Int32)), .val (.int (0 : Int32)), .val (.int (0 : Int32)), .val (.int (0 : Int32)), .val (.int (1 : Int32))] X14 hx (dd d1_113) rfl rfl ?_
  refine Gz.iload 117 X14 hx (dd d1_115) rfl rfl ?_
  refine Gz.iload 119 X14 hx (dd d1_117) rfl rfl ?_
  refine Gz.icmpNo 122 X14 hx (dd d1_119) (tlt (by decide : (1 : Int32) < (2 : Int32))).2.1 rfl ?_
  refine Gz.aloadN 123 X14 hx (dd d1_122) rfl rfl rfl ?_
  refine Gz.getF 126 X14 hx hZ hown (dd d1_123) (host := "") (Or.inl (ww hw 27 rfl)) Via.refl e14 f14_F_start_a0 rfl fun T15 X15 e15 => ?_
  refine Gz.iload 128 X15 hx (dd d1_126) rfl rfl ?_
  obtain ⟨c16, A16, q16, S16, N16, H16, G16⟩ := id f14_Vb7
  have hin16 : ¬ ((0 : Int32) < 0 ∨ c16.slots.size ≤ ((0 : Int32)).toNatClampNeg) := inb_of S16 ⟨by decide, by decide⟩
  refine Gz.ldA 129 X15 hx hZ rfl (dd d1_128) e15 A16 hin16 (Has.at H16 hin16 (rfl : _ = ((.ref b7_0) : Value))) rfl ?_
  refine Gz.iload 131 X15 hx (dd d1_129) rfl rfl ?_
  refine Gz.iload 133 X15 hx (dd d1_131) rfl rfl ?_
  obtain ⟨c17, A17, q17, S17, N17, H17, G17⟩ := id f14_Vb7_0
  have hin17 : ¬ ((1 : Int32) < 0 ∨ c17.slots.size ≤ ((1 : Int32)).toNatClampNeg) := inb_of S17 ⟨by decide, by decide⟩
  refine Gz.stI 134 X15 hx hZ (dd d1_133) e15 A17 hin17 rfl fun T18 h18 X18 e18 W18 => ?_
  have V18 := Arv.set A17 q17 S17 N17 H17 G17 rfl W18 1 rfl (Nat.le_of_ble_eq_true rfl)
  replace V18 : Arv Z h18 b7_0 kr7 .int (2 : Int32) [(.int (0 : Int32)), (.int (0 : Int32))] (.int (0 : Int32)) := V18
  have f18_E_a0 := Exa.wr W18 f14_E_a0
  have f18_F_valueCounts_a0 := Fld.other W18 f14_F_valueCounts_a0 (Or.inl ne_a0_b7_0)
  have f18_F_start_a0 := Fld.other W18 f14_F_start_a0 (Or.inl ne_a0_b7_0)
  have f18_F_firstOf_a0 := Fld.other W18 f14_F_firstOf_a0 (Or.inl ne_a0_b7_0)
  have f18_F_secondOf_a0 := Fld.other W18 f14_F_secondOf_a0 (Or.inl ne_a0_b7_0)
  have f18_F_startOf_a0 := Fld.other W18 f14_F_startOf_a0 (Or.inl ne_a0_b7_0)
  have f18_F_count_a0 := Fld.other W18 f14_F_count_a0 (Or.inl ne_a0_b7_0)
  have f18_V_a1 := Arv.other f14_V_a1 W18 ne_a1_b7_0
  have f18_E_a1 := Exa.wr W18 f14_E_a1
  have f18_Eb4 := Exa.wr W18 f14_Eb4
  have f18_Vb4 := Arv.other f14_Vb4 W18 ne_b4_b7_0
  have f18_Eb7 := Exa.wr W18 f14_Eb7
  have f18_Vb7 := Arv.other f14_Vb7 W18 ne_b7_b7_0
  have f18_Eb7_0 := Exa.wr W18 f14_Eb7_0
  have f18_Vb7_1 := Arv.other f14_Vb7_1 W18 (Ne.symm ne_b7_0_b7_1)
  have f18_Eb7_1 := Exa.wr W18 f14_Eb7_1
  have f18_Eb9 := Exa.wr W18 f14_Eb9
  have f18_Vb9 := Arv.other f14_Vb9 W18 (Ne.symm ne_b7_0_b9)
  have f18_Eb11 := Exa.wr W18 f14_Eb11
  have f18_Vb11 := Arv.other f14_Vb11 W18 (Ne.symm ne_b7_0_b11)
  have f18_Eb13 := Exa.wr W18 f14_Eb13
  have f18_Vb13 := Arv.other f14_Vb13 W18 (Ne.symm ne_b7_0_b13)
  have N18 := Fr.snoc X18 N14 g_b7_0
  have SZ18 : n0 ≤ h18.size := Nat.le_trans SZ14 (Keep.of_wr W18).1
  have K18 := Keep.wr K14 W18 (Or.inr sz_b7_0)
  refine Gz.aloadN 135 X18 hx (dd d1_134) rfl rfl rfl ?_
  refine Gz.getF 138 X18 hx hZ hown (dd d1_135) (host := "") (Or.inl (ww hw 29 rfl)) Via.refl e18 f18_F_firstOf_a0 rfl fun T19 X19 e19 => ?_
  refine Gz.iload 140 X19 hx (dd d1_138) rfl rfl ?_
  refine Gz.iload 142 X19 hx (dd d1_140) rfl rfl ?_
  obtain ⟨c20, A20, q20, S20, N20, H20, G20⟩ := id f18_Vb9
  have hin20 : ¬ ((0 : Int32) < 0 ∨ c20.slots.size ≤ ((0 : Int32)).toNatClampNeg) := inb_of S20 ⟨by decide, by decide⟩
  refine Gz.stI 143 X19 hx hZ (dd d1_142) e19 A20 hin20 rfl fun T21 h21 X21 e21 W21 => ?_
  have V21 := Arv.set A20 q20 S20 N20 H20 G20 rfl W21 0 rfl (Nat.le_of_ble_eq_true rfl)
  replace V21 : Arv Z h21 b9 k9 .int (1 : Int32) [(.int (0 : Int32))] (.int (0 : Int32)) := V21
  have f21_E_a0 := Exa.wr W21 f18_E_a0
  have f21_F_valueCounts_a0 := Fld.other W21 f18_F_valueCounts_a0 (Or.inl ne_a0_b9)
  have f21_F_start_a0 := Fld.other W21 f18_F_start_a0 (Or.inl ne_a0_b9)
  have f21_F_firstOf_a0 := Fld.other W21 f18_F_firstOf_a0 (Or.inl ne_a0_b9)
  have f21_F_secondOf_a0 := Fld.other W21 f18_F_secondOf_a0 (Or.inl ne_a0_b9)
  have f21_F_startOf_a0 := Fld.other W21 f18_F_startOf_a0 (Or.inl ne_a0_b9)
  have f21_F_count_a0 := Fld.other W21 f18_F_count_a0 (Or.inl ne_a0_b9)
  have f21_V_a1 := Arv.other f18_V_a1 W21 ne_a1_b9
  have f21_E_a1 := Exa.wr W21 f18_E_a1
  have f21_Eb4 := Exa.wr W21 f18_Eb4
  have f21_Vb4 := Arv.other f18_Vb4 W21 ne_b4_b9
  have f21_Eb7 := Exa.wr W21 f18_Eb7
  have f21_Vb7 := Arv.other f18_Vb7 W21 ne_b7_b9
  have f21_Vb7_0 := Arv.other V18 W21 ne_b7_0_b9
  have f21_Eb7_0 := Exa.wr W21 f18_Eb7_0
  have f21_Vb7_1 := Arv.other f18_Vb7_1 W21 ne_b7_1_b9
  have f21_Eb7_1 := Exa.wr W21 f18_Eb7_1
  have f21_Eb9 := Exa.wr W21 f18_Eb9
  have f21_Eb11 := Exa.wr W21 f18_Eb11
  have f21_Vb11 := Arv.other f18_Vb11 W21 (Ne.symm ne_b9_b11)
  have f21_Eb13 := Exa.wr W21 f18_Eb13
  have f21_Vb13 := Arv.other f18_Vb13 W21 (Ne.symm ne_b9_b13)
  have N21 := Fr.snoc X21 N18 g_b9
  have SZ21 : n0 ≤ h21.size := Nat.le_trans SZ18 (Keep.of_wr W21).1
  have K21 := Keep.wr K18 W21 (Or.inr sz_b9)
  refine Gz.aloadN 144 X21 hx (dd d1_143) rfl rfl rfl ?_
  refine Gz.getF 147 X21 hx hZ hown (dd d1_144) (host := "") (Or.inl (ww hw 31 rfl)) Via.refl e21 f21_F_secondOf_a0 rfl fun T22 X22 e22 => ?_
  refine Gz.iload 149 X22 hx (dd d1_147) rfl rfl ?_
  refine Gz.iload 151 X22 hx (dd d1_149) rfl rfl ?_
  obtain ⟨c23, A23, q23, S23, N23, H23, G23⟩ := id f21_Vb11
  have hin23 : ¬ ((0 : Int32) < 0 ∨ c23.slots.size ≤ ((0 : Int32)).toNatClampNeg) := inb_of S23 ⟨by decide, by decide⟩
  refine Gz.stI 152 X22 hx hZ (dd d1_151) e22 A23 hin23 rfl fun T24 h24 X24 e24 W24 => ?_
  have V24 := Arv.set A23 q23 S23 N23 H23 G23 rfl W24 0 rfl (Nat.le_of_ble_eq_true rfl)
  replace V24 : Arv Z h24 b11 k11 .int (1 : Int32) [(.int (1 : Int32))] (.int (0 : Int32)) := V24
  have f24_E_a0 := Exa.wr W24 f21_E_a0
  have f24_F_valueCounts_a0 := Fld.other W24 f21_F_valueCounts_a0 (Or.inl ne_a0_b11)
  have f24_F_start_a0 := Fld.other W24 f21_F_start_a0 (Or.inl ne_a0_b11)
  have f24_F_firstOf_a0 := Fld.other W24 f21_F_firstOf_a0 (Or.inl ne_a0_b11)
  have f24_F_secondOf_a0 := Fld.other W24 f21_F_secondOf_a0 (Or.inl ne_a0_b11)
  have f24_F_startOf_a0 := Fld.other W24 f21_F_startOf_a0 (Or.inl ne_a0_b11)
  have f24_F_count_a0 := Fld.other W24 f21_F_count_a0 (Or.inl ne_a0_b11)
  have f24_V_a1 := Arv.other f21_V_a1 W24 ne_a1_b11
  have f24_E_a1 := Exa.wr W24 f21_E_a1
  have f24_Eb4 := Exa.wr W24 f21_Eb4
  have f24_Vb4 := Arv.other f21_Vb4 W24 ne_b4_b11
  have f24_Eb7 := Exa.wr W24 f21_Eb7
  have f24_Vb7 := Arv.other f21_Vb7 W24 ne_b7_b11
  have f24_Vb7_0 := Arv.other f21_Vb7_0 W24 ne_b7_0_b11
  have f24_Eb7_0 := Exa.wr W24 f21_Eb7_0
  have f24_Vb7_1 := Arv.other f21_Vb7_1 W24 ne_b7_1_b11
  have f24_Eb7_1 := Exa.wr W24 f21_Eb7_1
  have f24_Eb9 := Exa.wr W24 f21_Eb9
  have f24_Vb9 := Arv.other V21 W24 ne_b9_b11
  have f24_Eb11 := Exa.wr W24 f21_Eb11
  have f24_Eb13 := Exa.wr W24 f21_Eb13
  have f24_Vb13 := Arv.other f21_Vb13 W24 (Ne.symm ne_b11_b13)
  have N24 := Fr.snoc X24 N21 g_b11
  have SZ24 : n0 ≤ h24.size := Nat.le_trans SZ21 (Keep.of_wr W24).1
  have K24 := Keep.wr K21 W24 (Or.inr sz_b11)
  refine Gz.aloadN 153 X24 hx (dd d1_152) rfl rfl rfl ?_
  refine Gz.getF 156 X24 hx hZ hown (dd d1_153) (host := "") (Or.inl (ww hw 33 rfl)) Via.refl e24 f24_F_startOf_a0 rfl fun T25 X25 e25 => ?_
  refine Gz.iload 158 X25 hx (dd d1_156) rfl rfl ?_
  refine Gz.iload 160 X25 hx (dd d1_158) rfl rfl ?_
  obtain ⟨c26, A26, q26, S26, N26, H26, G26⟩ := id f24_Vb13
  have hin26 : ¬ ((0 : Int32) < 0 ∨ c26.slots.size ≤ ((0 : Int32)).toNatClampNeg) := inb_of S26 ⟨by decide, by decide⟩
  refine Gz.stI 161 X25 hx hZ (dd d1_160) e25 A26 hin26 rfl fun T27 h27 X27 e27 W27 => ?_
  have V27 := Arv.set A26 q26 S26 N26 H26 G26 rfl W27 0 rfl (Nat.le_of_ble_eq_true rfl)
  replace V27 : Arv Z h27 b13 k13 .int (1 : Int32) [(.int (0 : Int32))] (.int (0 : Int32)) := V27
  have f27_E_a0 := Exa.wr W27 f24_E_a0
  have f27_F_valueCounts_a0 := Fld.other W27 f24_F_valueCounts_a0 (Or.inl ne_a0_b13)
  have f27_F_start_a0 := Fld.other W27 f24_F_start_a0 (Or.inl ne_a0_b13)
  have f27_F_firstOf_a0 := Fld.other W27 f24_F_firstOf_a0 (Or.inl ne_a0_b13)
  have f27_F_secondOf_a0 := Fld.other W27 f24_F_secondOf_a0 (Or.inl ne_a0_b13)
  have f27_F_startOf_a0 := Fld.other W27 f24_F_startOf_a0 (Or.inl ne_a0_b13)
  have f27_F_count_a0 := Fld.other W27 f24_F_count_a0 (Or.inl ne_a0_b13)
  have f27_V_a1 := Arv.other f24_V_a1 W27 ne_a1_b13
  have f27_E_a1 := Exa.wr W27 f24_E_a1
  have f27_Eb4 := Exa.wr W27 f24_Eb4
  have f27_Vb4 := Arv.other f24_Vb4 W27 ne_b4_b13
  have f27_Eb7 := Exa.wr W27 f24_Eb7
  have f27_Vb7 := Arv.other f24_Vb7 W27 ne_b7_b13
  have f27_Vb7_0 := Arv.other f24_Vb7_0 W27 ne_b7_0_b13
  have f27_Eb7_0 := Exa.wr W27 f24_Eb7_0
  have f27_Vb7_1 := Arv.other f24_Vb7_1 W27 ne_b7_1_b13
  have f27_Eb7_1 := Exa.wr W27 f24_Eb7_1
  have f27_Eb9 := Exa.wr W27 f24_Eb9
  have f27_Vb9 := Arv.other f24_Vb9 W27 ne_b9_b13
  have f27_Eb11 := Exa.wr W27 f24_Eb11
  have f27_Vb11 := Arv.other V24 W27 ne_b11_b13
  have f27_Eb13 := Exa.wr W27 f24_Eb13
  have N27 := Fr.snoc X27 N24 g_b13
  have SZ27 : n0 ≤ h27.size := Nat.le_trans SZ24 (Keep.of_wr W27).1
  have K27 := Keep.wr K24 W27 (Or.inr sz_b13)
  refine Gz.iinc 164 #[.val (.ref a0), .val (.ref a1), .val (.long (fC2 a1 v0 v1)), .second, .val (.int (2 : Int32)), .val (.int (1 : Int32)), .val (.int (0 : Int32)), .val (.int (1 : Int32)), .val (.int (0 : Int32)), .val (.int (1 : Int32))] X27 hx (dd d1_161) rfl rfl rfl ?_
  refine Gz.iload 166 X27 hx (dd d1_164) rfl rfl ?_
  refine Gz.aloadN 167 X27 hx (dd d1_166) rfl rfl rfl ?_
  refine Gz.iload 169 X27 hx (dd d1_167) rfl rfl ?_
  obtain ⟨c28, A28, q28, S28, N28, H28, G28⟩ := id f27_V_a1
  have hin28 : ¬ ((0 : Int32) < 0 ∨ c28.slots.size ≤ ((0 : Int32)).toNatClampNeg) := inb_of S28 ⟨by decide, by decide⟩
  refine Gz.ldI 170 X27 hx hZ (dd d1_169) e27 A28 hin28 (Has.at H28 hin28 (rfl : _ = ((.int v0) : Value))) rfl ?_
  refine Gz.aloadN 171 X27 hx (dd d1_170) rfl rfl rfl ?_
  refine Gz.iload 173 X27 hx (dd d1_171) rfl rfl ?_
  obtain ⟨c29, A29, q29, S29, N29, H29, G29⟩ := id f27_V_a1
  have hin29 : ¬ ((1 : Int32) < 0 ∨ c29.slots.size ≤ ((1 : Int32)).toNatClampNeg) := inb_of S29 ⟨by decide, by decide⟩
  refine Gz.ldI 174 X27 hx hZ (dd d1_173) e27 A29 hin29 (Has.at H29 hin29 (rfl : _ = ((.int v1) : Value))) rfl ?_
  refine Gz.imul 175 X27 hx (dd d1_174) rfl ?_
  refine Gz.iadd 176 X27 hx (dd d1_175) rfl ?_
  refine Gz.istore 178 #[.val (.ref a0), .val (.ref a1), .val (.long (fC2 a1 v0 v1)), .second, .val (.int (2 : Int32)), .val (.int (1 : Int32)), .val (.int ((0 : Int32) + (v0 * v1))), .val (.int (1 : Int32)), .val (.int (0 : Int32)), .val (.int (1 : Int32))] X27 hx (dd d1_176) rfl rfl ?_
  refine Gz.iinc 181 #[.val (.ref a0), .val (.ref a1), .val (.long (fC2 a1 v0 v1)), .second, .val (.int (2 : Int32)), .val (.int (1 : Int32)), .val (.int ((0 : Int32) + (v0 * v1))), .val (.int (1 : Int32)), .val (.int (0 : Int32)), .val (.int (2 : Int32))] X27 hx (dd d1_178) rfl rfl rfl ?_
  refine Gz.goto 115 X27 hx (dd d1_181) (by decide) (by decide) ?_
  refine Gz.iload 117 X27 hx (dd d1_115) rfl rfl ?_
  refine Gz.iload 119 X27 hx (dd d1_117) rfl rfl ?_
  refine Gz.icmpYes 184 X27 hx (dd d1_119) (flt (by decide : ¬ ((2 : Int32) < (2 : Int32)))).2.1 (by decide) (by decide) ?_
  refine Gz.iinc 187 #[.val (.ref a0), .val (.ref a1), .val (.long (fC2 a1 v0 v1)), .second, .val (.int (2 : Int32)), .val (.int (1 : Int32)), .val (.int ((0 : Int32) + (v0 * v1))), .val (.int (1 : Int32)), .val (.int (1 : Int32)), .val (.int (2 : Int32))] X27 hx (dd d1_184) rfl rfl rfl ?_
  refine Gz.goto 102 X27 hx (dd d1_187) (by decide) (by decide) ?_
  refine Gz.iload 104 X27 hx (dd d1_102) rfl rfl ?_
  refine Gz.iload 106 X27 hx (dd d1_104) rfl rfl ?_
  refine Gz.icmpNo 109 X27 hx (dd d1_106) (tlt (by decide : (1 : Int32) < (2 : Int32))).2.1 rfl ?_
  refine Gz.iload 111 X27 hx (dd d1_109) rfl rfl ?_
  refine Gz.iconst 112 (1 : Int32) X27 hx (dd d1_111) rfl rfl ?_
  refine Gz.iaddV 113 (2 : Int32) X27 hx (dd d1_112) rfl rfl ?_
  refine Gz.istore 115 #[.val (.ref a0), .val (.ref a1), .val (.long (fC2 a1 v0 v1)), .second, .val (.int (2 : Int32)), .val (.int (1 : Int32)), .val (.int ((0 : Int32) + (v0 * v1))), .val (.int (1 : Int32)), .val (.int (1 : Int32)), .val (.int (2 : Int32))] X27 hx (dd d1_113) rfl rfl ?_
  refine Gz.iload 117 X27 hx (dd d1_115) rfl rfl ?_
  refine Gz.iload 119 X27 hx (dd d1_117) rfl rfl ?_
  refine Gz.icmpYes 184 X27 hx (dd d1_119) (flt (by decide : ¬ ((2 : Int32) < (2 : Int32)))).2.1 (by decide) (by decide) ?_
  refine Gz.iinc 187 #[.val (.ref a0), .val (.ref a1), .val (.long (fC2 a1 v0 v1)), .second, .val (.int (2 : Int32)), .val (.int (1 : Int32)), .val (.int ((0 : Int32) + (v0 * v1))), .val (.int (1 : Int32)), .val (.int (2 : Int32)), .val (.int (2 : Int32))] X27 hx (dd d1_184) rfl rfl rfl ?_
  refine Gz.goto 102 X27 hx (dd d1_187) (by decide) (by decide) ?_
  refine Gz.iload 104 X27 hx (dd d1_102) rfl rfl ?_
  refine Gz.iload 106 X27 hx (dd d1_104) rfl rfl ?_
  refine Gz.icmpYes 190 X27 hx (dd d1_106) (flt (by decide : ¬ ((2 : Int32) < (2 : Int32)))).2.1 (by decide) (by decide) ?_
  refine Gz.aloadN 191 X27 hx (dd d1_190) rfl rfl rfl ?_
  refine Gz.iload 193 X27 hx (dd d1_191) rfl rfl ?_
  refine Gz.putF 196 X27 hx hZ hown .int (dd d1_193) (host := "") (Or.inl (ww hw 35 rfl)) Via.refl e27 f27_F_count_a0 f27_E_a0 (Or.inr ⟨(ww hw 36 rfl), rfl, hnm⟩) (ww hw 2 rfl) (by decide) rfl rfl rfl fun T30 h30 X30 e30 W30 => ?_
  have f30_E_a0 := Exa.wr W30 f27_E_a0
  have f30_F_valueCounts_a0 := Fld.other W30 f27_F_valueCounts_a0 (Or.inr (slot_ne (Or.inr (ww hw 24 rfl)) (Or.inr (ww hw 36 rfl)) (by decide) (t := (.array .int)) (t' := .int) (by decide) (by decide)))
  have f30_F_start_a0 := Fld.other W30 f27_F_start_a0 (Or.inr (slot_ne (Or.inr (ww hw 28 rfl)) (Or.inr (ww hw 36 rfl)) (by decide) (t := (.array (.array .int))) (t' := .int) (by decide) (by decide)))
  have f30_F_firstOf_a0 := Fld.other W30 f27_F_firstOf_a0 (Or.inr (slot_ne (Or.inr (ww hw 30 rfl)) (Or.inr (ww hw 36 rfl)) (by decide) (t := (.array .int)) (t' := .int) (by decide) (by decide)))
  have f30_F_secondOf_a0 := Fld.other W30 f27_F_secondOf_a0 (Or.inr (slot_ne (Or.inr (ww hw 32 rfl)) (Or.inr (ww hw 36 rfl)) (by decide) (t := (.array .int)) (t' := .int) (by decide) (by decide)))
  have f30_F_startOf_a0 := Fld.other W30 f27_F_startOf_a0 (Or.inr (slot_ne (Or.inr (ww hw 34 rfl)) (Or.inr (ww hw 36 rfl)) (by decide) (t := (.array .int)) (t' := .int) (by decide) (by decide)))
  have f30_V_a1 := Arv.other f27_V_a1 W30 ne_a1_a0
  have f30_E_a1 := Exa.wr W30 f27_E_a1
  have f30_Eb4 := Exa.wr W30 f27_Eb4
  have f30_Vb4 := Arv.other f27_Vb4 W30 (Ne.symm ne_a0_b4)
  have f30_Eb7 := Exa.wr W30 f27_Eb7
  have f30_Vb7 := Arv.other f27_Vb7 W30 (Ne.symm ne_a0_b7)
  have f30_Vb7_0 := Arv.other f27_Vb7_0 W30 (Ne.symm ne_a0_b7_0)
  have f30_Eb7_0 := Exa.wr W30 f27_Eb7_0
  have f30_Vb7_1 := Arv.other f27_Vb7_1 W30 (Ne.symm ne_a0_b7_1)
  have f30_Eb7_1 := Exa.wr W30 f27_Eb7_1
  have f30_Eb9 := Exa.wr W30 f27_Eb9
  have f30_Vb9 := Arv.other f27_Vb9 W30 (Ne.symm ne_a0_b9)
  have f30_Eb11 := Exa.wr W30 f27_Eb11
  have f30_Vb11 := Arv.other f27_Vb11 W30 (Ne.symm ne_a0_b11)
  have f30_Eb13 := Exa.wr W30 f27_Eb13
  have f30_Vb13 := Arv.other V27 W30 (Ne.symm ne_a0_b13)
  have f30_F_count_a0 := Fld.same W30 f27_F_count_a0
  have N30 := Fr.snoc X30 N27 g_a0
  have SZ30 : n0 ≤ h30.size := Nat.le_trans SZ27 (Keep.of_wr W30).1
  have K30 := Keep.wr K27 W30 (Or.inl (List.mem_of_getElem? (i := 0) rfl))
  refine Gz.fin X30 (v := none) (fun _ => rfl) hlk (by decide) (by decide) (fun fs hr => X30.returnOut hx hret (dd d1_196) hr) ?_
  rw [e30]
  exact ⟨rfl, N30, K30, f30_E_a0, b4, k_a1, sz_b4, f30_F_valueCounts_a0, f30_Vb4⟩
theorem ef_rmI3 (m : MethodId) (a0 : Addr) (a1 : Addr) : entryFrame m #[(.ref a0), (.ref a1)] 10 = mkF m 0 #[.val (.ref a0), .val (.ref a1), .unset, .unset, .unset, .unset, .unset, .unset, .unset, .unset] [] := by first | (simp [entryFrame, mkF, argsToLocals, Value.category]; done) | rfl
def Q_rmI3 (Z : State) (a0 : Addr) (a1 : Addr) (k_a1 : ClassId) (v0 : Int32) (v1 : Int32) (v2 : Int32) (h0 : Heap) (n0 : Nat) (v : Option Value) (h : Heap) (L : List Loc) : Prop := v = none ∧ Fr n0 L ∧ Keep h0 h [a0] ∧ Exa Z h a0 "com/example/minsuite/minsuite/ValuePairs" ∧ ∃ (ac : Addr) (kc : ClassId), h0.size ≤ ac ∧ Fld Z h a0 "com/example/minsuite/minsuite/ValuePairs" "valueCounts" "[I" (.ref ac) ∧ Arv Z h ac kc .int (3 : Int32) [(.int v0), (.int v1), (.int v2)] (.int (0 : Int32))
set_option maxRecDepth 65536 in
set_option maxHeartbeats 40000000 in
theorem rmI3 (l : Launch) (Z : State) (av0 : Array Value) (hw : ∀ d ∈ tables_1, d.before av0 Z = true) (ws : List Jvm.Cond) (a0 : Addr) (a1 : Addr) (k_a1 : ClassId) (v0 : Int32) (v1 : Int32) (v2 : Int32) (h0 : Heap) (n0 : Nat) (Z0 : n0 ≤ h0.size) (E_a0 : Exa Z h0 a0 "com/example/minsuite/minsuite/ValuePairs") (F_valueCounts_a0 : Fld Z h0 a0 "com/example/minsuite/minsuite/ValuePairs" "valueCounts" "[I" .null) (F_start_a0 : Fld Z h0 a0 "com/example/minsuite/minsuite/ValuePairs" "start" "[[I" .null) (F_firstOf_a0 : Fld Z h0 a0 "com/example/minsuite/minsuite/ValuePairs" "firstOf" "[I" .null) (F_secondOf_a0 : Fld Z h0 a0 "com/example/minsuite/minsuite/ValuePairs" "secondOf" "[I" .null) (F_startOf_a0 : Fld Z h0 a0 "com/example/minsuite/minsuite/ValuePairs" "startOf" "[I" .null) (F_count_a0 : Fld Z h0 a0 "com/example/minsuite/minsuite/ValuePairs" "count" "I" (.int (0 : Int32))) (g_a0 : n0 ≤ a0) (V_a1 : Arv Z h0 a1 k_a1 .int (3 : Int32) [(.int v0), (.int v1), (.int v2)] (.int (0 : Int32))) (E_a1 : Exa Z h0 a1 "[I") (ne_a1_a0 : a1 ≠ a0) (hcnt : ¬ ((2147483639 : Int64) < (fC3 a1 v0 v1 v2))) :
    MetFree l (⟨"com/example/minsuite/minsuite/ValuePairs", "<init>", "([I)V"⟩ : MethodName) (head1 (Jvm.Cond.code (⟨"com/example/minsuite/minsuite/ValuePairs", "<init>", "([I)V"⟩ : MethodName) prog_43_method_1_code 10 none :: ws) ({ frames := 1, cells := 8, slots := 24, locals := 20 } : Room)) (fun a U => a = #[(.ref a0), (.ref a1)] ∧ Z.Warmed39 U.vm ∧ U.heap = h0) (fun _ _ _ _ _ => True) (fun _ U o U' => ∃ v L, o = .returned v ∧ Q_rmI3 Z a0 a1 k_a1 v0 v1 v2 h0 n0 v U'.heap L ∧ FrameEnd U o U' L ({ frames := 1, cells := 8, slots := 24, locals := 20 } : Room).cells ({ frames := 1, cells := 8, slots := 24, locals := 20 } : Room).slots) := by
  refine MetFree.of_bodySF (plainFor_of_name pn_0) hisR ?_
  intro p e s m args below meth c s₁ Bd hml0 hP hK
  obtain ⟨rfl, hZ, hh⟩ := hP
  have hx := Bd.exec
  have hby := Bd.bytes
  have hml : c.maxLocals = 10 := hml0
  have dd : ∀ {pc : Nat} {r : Except DecodeError (Instr × Nat)}, decode prog_43_method_1_code pc = r → decode c.code pc = r := fun q => hb hby q
  have hown : s.vm.findClass "com/example/minsuite/minsuite/ValuePairs" = some m.cls := findClass_of_methodNamed Bd.named
  have hnm := (name_of_methodNamed Bd.named Bd.method).1
  have X0 : Stand p l e ({ frames := 1, cells := 8, slots := 24, locals := 20 } : Room) s m #[(.ref a0), (.ref a1)] below meth c s₁ [] 0 0 := Stand.of_body Bd
  have e0 : s₁.heap = h0 := by rw [← hh, Bd.state]; rfl
  have N0 := Fr.nil n0
  have hret := Bd.returns
  have hlk := Bd.notSynchronized
  show Gz p e below s ({ frames := 1, cells := 8, slots := 24, locals := 20 } : Room).cells ({ frames := 1, cells := 8, slots := 24, locals := 20 } : Room).slots (Q_rmI3 Z a0 a1 k_a1 v0 v1 v2 h0 n0) (s₁.setTop (entryFrame m #[(.ref a0), (.ref a1)] 10))
  refine Gz.enter (ef_rmI3 m a0 a1) ?_
  refine Gz.aloadN 1 X0 hx (dd d1_0) rfl rfl rfl ?_
  obtain ⟨T1, X1, e1, st1⟩ := initO X0 hx hZ hown (ww hw 7 rfl) (ww hw 8 rfl) (ww hw 9 rfl) e0 (g := (mkF m 1 #[.val (.ref a0), .val (.ref a1), .unset, .unset, .unset, .unset, .unset, .unset, .unset, .unset] [(.ref a0)])) rfl (by rw [hml]; rfl) rfl (dd d1_1) (by decide) (W := 0) (by show 2 * 0 + _ ≤ _; exact Nat.le_of_eq rfl) (by decide)
  refine Gz.st st1 ?_
  refine Gz.aloadN 5 X1 hx (dd d1_4) rfl rfl rfl ?_
  obtain ⟨_, _, ⟨T2, L2, k2, n2⟩, -, X2, ⟨Lc2, hQ2, l2, y2, z2⟩, st2⟩ := Jvm.LawKit.callS X1 hx (y := (⟨"com/example/minsuite/minsuite/ValuePairs", "count", "([I)J"⟩ : MethodName)) hown (mvT hZ (ww hw 10 rfl)) (mvT hZ (ww hw 11 rfl)) (mvT hZ (ww hw 3 rfl)) (mvT hZ (ww hw 12 rfl)) (by decide) (backOf (W := 0) (rmC3 l Z av0 hw [] a1 k_a1 v0 v1 v2 h0 n0 Z0 V_a1) hZ (ww hw 12 rfl) (ww hw 3 rfl) (by decide) (by decide)) (g := (mkF m 5 #[.val (.ref a0), .val (.ref a1), .unset, .unset, .unset, .unset, .unset, .unset, .unset, .unset] [(.ref a1)])) rfl (by rw [hml]; rfl) (argsL := [(.ref a1)]) (rest := []) (lenOf pd_0 rfl) rfl (by show 2 * 0 + _ ≤ _; exact Nat.le_of_eq rfl) (dd d1_5) (fun _ _ => ⟨rfl, e1, (by decide : 0 + 0 ≤ _), (by decide : 0 + 0 ≤ _)⟩)
  dsimp only [Pt.U, Pt.locs, Pt.cells, Pt.slots, Q_rmC3] at X2 l2 y2 z2 st2 hQ2
  subst l2 y2 z2
  obtain ⟨rfl, N2q, e2⟩ := hQ2
  have N2 := Fr.app N0 N2q
  refine Gz.st st2 ?_
  refine Gz.lstoreN 9 #[.val (.ref a0), .val (.ref a1), .val (.long (fC3 a1 v0 v1 v2)), .second, .unset, .unset, .unset, .unset, .unset, .unset] X2 hx (dd d1_8) rfl rfl ?_
  refine Gz.lloadN 10 X2 hx (dd d1_9) rfl rfl ?_
  refine Gz.ldc2J 13 X2 hx (dd d1_10) hown (mvT hZ (ww hw 13 rfl)) rfl ?_
  refine Gz.lcmp 14 X2 hx (dd d1_13) rfl ?_
  refine Gz.ifYes 31 X2 hx (dd d1_14) ((if0 _ _).trans (flt (fun q => (hcnt : ¬ ((2147483639 : Int64) < (fC3 a1 v0 v1 v2))) ((lw_gt _ _).mp q))).2.2.2) (by decide) (by decide) ?_
  refine Gz.aloadN 32 X2 hx (dd d1_31) rfl rfl rfl ?_
  obtain ⟨c3, A3, -, S3, N3, -, -⟩ := id V_a1
  refine Gz.alen 33 X2 hx hZ (dd d1_32) e2 A3 S3 N3 rfl ?_
  refine Gz.istore 35 #[.val (.ref a0), .val (.ref a1), .val (.long (fC3 a1 v0 v1 v2)), .second, .val (.int (3 : Int32)), .unset, .unset, .unset, .unset, .unset] X2 hx (dd d1_33) rfl rfl ?_
  refine Gz.aloadN 36 X2 hx (dd d1_35) rfl rfl rfl ?_
  refine Gz.aloadN 37 X2 hx (dd d1_36) rfl rfl rfl ?_
  obtain ⟨T4, h4, X4, e4, E4, A4, Q4, st4⟩ := cloneH X2 hx hZ hown (ww hw 14 rfl) (ww hw 15 rfl) (ww hw 19 rfl) (ww hw 17 rfl) (ww hw 18 rfl) (ww hw 20 rfl) e2 (Arv.arh V_a1) E_a1 (g := (mkF m 37 #[.val (.ref a0), .val (.ref a1), .val (.long (fC3 a1 v0 v1 v2)), .second, .val (.int (3 : Int32)), .unset, .unset, .unset, .unset, .unset] [(.ref a1), (.ref a0)])) rfl (by rw [hml]; rfl) rfl (dd d1_37) (by decide) (W := 1) (by show 2 * 0 + _ ≤ _; exact Nat.le_of_eq rfl) (by decide) (cap := 3) (by decide) (by decide) (by decide)
  obtain ⟨b4, g4⟩ : ∃ z, z = h0.size := ⟨_, rfl⟩
  rw [← g4] at A4 Q4 st4
  have ne_a0_b4 : a0 ≠ b4 := Nat.ne_of_lt (Nat.lt_of_lt_of_le (E_a0).lt (Nat.le_of_eq g4.symm))
  have ne_a1_b4 : a1 ≠ b4 := Nat.ne_of_lt (Nat.lt_of_lt_of_le (V_a1).lt (Nat.le_of_eq g4.symm))
  have g_b4 : n0 ≤ b4 := Nat.le_trans Z0 (Nat.le_of_eq g4.symm)
  have SZ4 : n0 ≤ h4.size := Nat.le_trans Z0 E4.1
  have sz_b4 : h0.size ≤ b4 := Nat.le_trans (Keep.refl h0 [a0]).1 (Nat.le_of_eq g4.symm)
  have K4 := Keep.ext (Keep.refl h0 [a0]) E4
  have f4_E_a0 := Exa.ext E4 E_a0
  have f4_F_valueCounts_a0 := Fld.ext E4 F_valueCounts_a0
  have f4_F_start_a0 := Fld.ext E4 F_start_a0
  have f4_F_firstOf_a0 := Fld.ext E4 F_firstOf_a0
  have f4_F_secondOf_a0 := Fld.ext E4 F_secondOf_a0
  have f4_F_startOf_a0 := Fld.ext E4 F_startOf_a0
  have f4_F_count_a0 := Fld.ext E4 F_count_a0
  have f4_V_a1 := Arv.ext V_a1 E4
  have f4_E_a1 := Exa.ext E4 E_a1
  have V4 : Arv Z h4 b4 k_a1 .int (3 : Int32) [(.int v0), (.int v1), (.int v2)] (.int (0 : Int32)) := A4
  refine Gz.st st4 ?_
  refine Gz.castY 43 X4 hx hZ hown (dd d1_40) (ww hw 21 rfl) e4 (Ins.self Q4) rfl fun T5 X5 e5 => ?_
  refine Gz.putF 46 X5 hx hZ hown (.array .int) (dd d1_43) (host := "") (Or.inl (ww hw 23 rfl)) Via.refl e5 f4_F_valueCounts_a0 f4_E_a0 (Or.inr ⟨(ww hw 24 rfl), rfl, hnm⟩) (ww hw 2 rfl) (by decide) rfl rfl rfl fun T6 h6 X6 e6 W6 => ?_
  have f6_E_a0 := Exa.wr W6 f4_E_a0
  have f6_F_start_a0 := Fld.other W6 f4_F_start_a0 (Or.inr (slot_ne (Or.inr (ww hw 28 rfl)) (Or.inr (ww hw 24 rfl)) (by decide) (t := (.array (.array .int))) (t' := (.array .int)) (by decide) (by decide)))
  have f6_F_firstOf_a0 := Fld.other W6 f4_F_firstOf_a0 (Or.inr (slot_ne (Or.inr (ww hw 30 rfl)) (Or.inr (ww hw 24 rfl)) (by decide) (t := (.array .int)) (t' := (.array .int)) (by decide) (by decide)))
  have f6_F_secondOf_a0 := Fld.other W6 f4_F_secondOf_a0 (Or.inr (slot_ne (Or.inr (ww hw 32 rfl)) (Or.inr (ww hw 24 rfl)) (by decide) (t := (.array .int)) (t' := (.array .int)) (by decide) (by decide)))
  have f6_F_startOf_a0 := Fld.other W6 f4_F_startOf_a0 (Or.inr (slot_ne (Or.inr (ww hw 34 rfl)) (Or.inr (ww hw 24 rfl)) (by decide) (t := (.array .int)) (t' := (.array .int)) (by decide) (by decide)))
  have f6_F_count_a0 := Fld.other W6 f4_F_count_a0 (Or.inr (slot_ne (Or.inr (ww hw 36 rfl)) (Or.inr (ww hw 24 rfl)) (by decide) (t := .int) (t' := (.array .int)) (by decide) (by decide)))
  have f6_V_a1 := Arv.other f4_V_a1 W6 ne_a1_a0
  have f6_E_a1 := Exa.wr W6 f4_E_a1
  have f6_Eb4 := Exa.wr W6 Q4
  have f6_Vb4 := Arv.other V4 W6 (Ne.symm ne_a0_b4)
  have f6_F_valueCounts_a0 := Fld.same W6 f4_F_valueCounts_a0
  have N6 := Fr.snoc X6 N2 g_a0
  have SZ6 : n0 ≤ h6.size := Nat.le_trans SZ4 (Keep.of_wr W6).1
  have K6 := Keep.wr K4 W6 (Or.inl (List.mem_of_getElem? (i := 0) rfl))
  refine Gz.aloadN 47 X6 hx (dd d1_46) rfl rfl rfl ?_
  refine Gz.iload 49 X6 hx (dd d1_47) rfl rfl ?_
  refine Gz.iload 51 X6 hx (dd d1_49) rfl rfl ?_
  obtain ⟨b7_0, gr7_0⟩ : ∃ z, z = h6.size + 1 + 0 := ⟨_, rfl⟩
  obtain ⟨b7_1, gr7_1⟩ : ∃ z, z = h6.size + 1 + 1 := ⟨_, rfl⟩
  obtain ⟨b7_2, gr7_2⟩ : ∃ z, z = h6.size + 1 + 2 := ⟨_, rfl⟩
  obtain ⟨T7, h7, k7, kr7, X7, e7, E7, A7, O7, Q7, Rw7, st7⟩ := gridM X6 hx hZ hown (ty := .int) (C := "[I") (ad := "[[I") rfl rfl (ww hw 25 rfl) (ww hw 26 rfl) (ww hw 0 rfl) e6 (g := (mkF m 51 #[.val (.ref a0), .val (.ref a1), .val (.long (fC3 a1 v0 v1 v2)), .second, .val (.int (3 : Int32)), .unset, .unset, .unset, .unset, .unset] [(.int (3 : Int32)), (.int (3 : Int32)), (.ref a0)])) rfl (dd d1_51) rfl (by decide) (by decide) (xs := [b7_0, b7_1, b7_2]) (N := 3) (by decide) (by rw [gr7_0, gr7_1, gr7_2]; rfl) (cap := 3) (by decide) (by decide) (by decide) rfl rfl (by decide) (by decide)
  obtain ⟨b7, g7⟩ : ∃ z, z = h6.size := ⟨_, rfl⟩
  rw [← g7] at A7 Q7 st7
  have ne_a0_b7 : a0 ≠ b7 := Nat.ne_of_lt (Nat.lt_of_lt_of_le (f6_E_a0).lt (Nat.le_of_eq g7.symm))
  have ne_a1_b7 : a1 ≠ b7 := Nat.ne_of_lt (Nat.lt_of_lt_of_le (f6_V_a1).lt (Nat.le_of_eq g7.symm))
  have ne_b4_b7 : b4 ≠ b7 := Nat.ne_of_lt (Nat.lt_of_lt_of_le (f6_Eb4).lt (Nat.le_of_eq g7.symm))
  have g_b7 : n0 ≤ b7 := Nat.le_trans SZ6 (Nat.le_of_eq g7.symm)
  have SZ7 : n0 ≤ h7.size := Nat.le_trans SZ6 E7.1
  have sz_b7 : h0.size ≤ b7 := Nat.le_trans K6.1 (Nat.le_of_eq g7.symm)
  have K7 := Keep.ext K6 E7
  have f7_E_a0 := Exa.ext E7 f6_E_a0
  have f7_F_valueCounts_a0 := Fld.ext E7 f6_F_valueCounts_a0
  have f7_F_start_a0 := Fld.ext E7 f6_F_start_a0
  have f7_F_firstOf_a0 := Fld.ext E7 f6_F_firstOf_a0
  have f7_F_secondOf_a0 := Fld.ext E7 f6_F_secondOf_a0
  have f7_F_startOf_a0 := Fld.ext E7 f6_F_startOf_a0
  have f7_F_count_a0 := Fld.ext E7 f6_F_count_a0
  have f7_V_a1 := Arv.ext f6_V_a1 E7
  have f7_E_a1 := Exa.ext E7 f6_E_a1
  have f7_Eb4 := Exa.ext E7 f6_Eb4
  have f7_Vb4 := Arv.ext f6_Vb4 E7
  have ne_a0_b7_0 : a0 ≠ b7_0 := own_rl (f6_E_a0).lt gr7_0
  have ne_a1_b7_0 : a1 ≠ b7_0 := own_rl (f6_V_a1).lt gr7_0
  have ne_b4_b7_0 : b4 ≠ b7_0 := own_rl (f6_Eb4).lt gr7_0
  have ne_b7_b7_0 : b7 ≠ b7_0 := own_ro g7 gr7_0
  have g_b7_0 : n0 ≤ b7_0 := own_rg SZ6 gr7_0
  have sz_b7_0 : h0.size ≤ b7_0 := own_rg (K6).1 gr7_0
  have ne_a0_b7_1 : a0 ≠ b7_1 := own_rl (f6_E_a0).lt gr7_1
  have ne_a1_b7_1 : a1 ≠ b7_1 := own_rl (f6_V_a1).lt gr7_1
  have ne_b4_b7_1 : b4 ≠ b7_1 := own_rl (f6_Eb4).lt gr7_1
  have ne_b7_b7_1 : b7 ≠ b7_1 := own_ro g7 gr7_1
  have ne_b7_0_b7_1 : b7_0 ≠ b7_1 := own_rr gr7_0 gr7_1 (by decide)
  have g_b7_1 : n0 ≤ b7_1 := own_rg SZ6 gr7_1
  have sz_b7_1 : h0.size ≤ b7_1 := own_rg (K6).1 gr7_1
  have ne_a0_b7_2 : a0 ≠ b7_2 := own_rl (f6_E_a0).lt gr7_2
  have ne_a1_b7_2 : a1 ≠ b7_2 := own_rl (f6_V_a1).lt gr7_2
  have ne_b4_b7_2 : b4 ≠ b7_2 := own_rl (f6_Eb4).lt gr7_2
  have ne_b7_b7_2 : b7 ≠ b7_2 := own_ro g7 gr7_2
  have ne_b7_0_b7_2 : b7_0 ≠ b7_2 := own_rr gr7_0 gr7_2 (by decide)
  have ne_b7_1_b7_2 : b7_1 ≠ b7_2 := own_rr gr7_1 gr7_2 (by decide)
  have g_b7_2 : n0 ≤ b7_2 := own_rg SZ6 gr7_2
  have sz_b7_2 : h0.size ≤ b7_2 := own_rg (K6).1 gr7_2
  have V7 : Arv Z h7 b7 k7 (.array .int) (3 : Int32) [.ref b7_0, .ref b7_1, .ref b7_2] .null := A7
  have V7_0 : Arv Z h7 b7_0 kr7 .int (3 : Int32) [(.int (0 : Int32)), (.int (0 : Int32)), (.int (0 : Int32))] (.int (0 : Int32)) := (Arv.new (Rw7 0 b7_0 rfl).1 (by decide)).pad (pad_rep [] (.int (0 : Int32)) 3)
  have Q7_0 := (Rw7 0 b7_0 rfl).2
  have V7_1 : Arv Z h7 b7_1 kr7 .int (3 : Int32) [(.int (0 : Int32)), (.int (0 : Int32)), (.int (0 : Int32))] (.int (0 : Int32)) := (Arv.new (Rw7 1 b7_1 rfl).1 (by decide)).pad (pad_rep [] (.int (0 : Int32)) 3)
  have Q7_1 := (Rw7 1 b7_1 rfl).2
  have V7_2 : Arv Z h7 b7_2 kr7 .int (3 : Int32) [(.int (0 : Int32)), (.int (0 : Int32)), (.int (0 : Int32))] (.int (0 : Int32)) := (Arv.new (Rw7 2 b7_2 rfl).1 (by decide)).pad (pad_rep [] (.int (0 : Int32)) 3)
  have Q7_2 := (Rw7 2 b7_2 rfl).2
  refine Gz.st st7 ?_
  refine Gz.putF 58 X7 hx hZ hown (.array (.array .int)) (dd d1_55) (host := "") (Or.inl (ww hw 27 rfl)) Via.refl e7 f7_F_start_a0 f7_E_a0 (Or.inr ⟨(ww hw 28 rfl), rfl, hnm⟩) (ww hw 2 rfl) (by decide) rfl rfl rfl fun T8 h8 X8 e8 W8 => ?_
  have f8_E_a0 := Exa.wr W8 f7_E_a0
  have f8_F_valueCounts_a0 := Fld.other W8 f7_F_valueCounts_a0 (Or.inr (slot_ne (Or.inr (ww hw 24 rfl)) (Or.inr (ww hw 28 rfl)) (by decide) (t := (.array .int)) (t' := (.array (.array .int))) (by decide) (by decide)))
  have f8_F_firstOf_a0 := Fld.other W8 f7_F_firstOf_a0 (Or.inr (slot_ne (Or.inr (ww hw 30 rfl)) (Or.inr (ww hw 28 rfl)) (by decide) (t := (.array .int)) (t' := (.array (.array .int))) (by decide) (by decide)))
  have f8_F_secondOf_a0 := Fld.other W8 f7_F_secondOf_a0 (Or.inr (slot_ne (Or.inr (ww hw 32 rfl)) (Or.inr (ww hw 28 rfl)) (by decide) (t := (.array .int)) (t' := (.array (.array .int))) (by decide) (by decide)))
  have f8_F_startOf_a0 := Fld.other W8 f7_F_startOf_a0 (Or.inr (slot_ne (Or.inr (ww hw 34 rfl)) (Or.inr (ww hw 28 rfl)) (by decide) (t := (.array .int)) (t' := (.array (.array .int))) (by decide) (by decide)))
  have f8_F_count_a0 := Fld.other W8 f7_F_count_a0 (Or.inr (slot_ne (Or.inr (ww hw 36 rfl)) (Or.inr (ww hw 28 rfl)) (by decide) (t := .int) (t' := (.array (.array .int))) (by decide) (by decide)))
  have f8_V_a1 := Arv.other f7_V_a1 W8 ne_a1_a0
  have f8_E_a1 := Exa.wr W8 f7_E_a1
  have f8_Eb4 := Exa.wr W8 f7_Eb4
  have f8_Vb4 := Arv.other f7_Vb4 W8 (Ne.symm ne_a0_b4)
  have f8_Eb7 := Exa.wr W8 Q7
  have f8_Vb7 := Arv.other V7 W8 (Ne.symm ne_a0_b7)
  have f8_Vb7_0 := Arv.other V7_0 W8 (Ne.symm ne_a0_b7_0)
  have f8_Eb7_0 := Exa.wr W8 Q7_0
  have f8_Vb7_1 := Arv.other V7_1 W8 (Ne.symm ne_a0_b7_1)
  have f8_Eb7_1 := Exa.wr W8 Q7_1
  have f8_Vb7_2 := Arv.other V7_2 W8 (Ne.symm ne_a0_b7_2)
  have f8_Eb7_2 := Exa.wr W8 Q7_2
  have f8_F_start_a0 := Fld.same W8 f7_F_start_a0
  have N8 := Fr.snoc X8 N6 g_a0
  have SZ8 : n0 ≤ h8.size := Nat.le_trans SZ7 (Keep.of_wr W8).1
  have K8 := Keep.wr K7 W8 (Or.inl (List.mem_of_getElem? (i := 0) rfl))
  refine Gz.iload 60 X8 hx (dd d1_58) rfl rfl ?_
  refine Gz.iload 62 X8 hx (dd d1_60) rfl rfl ?_
  refine Gz.iconst 63 (1 : Int32) X8 hx (dd d1_62) rfl rfl ?_
  refine Gz.isubV 64 (2 : Int32) X8 hx (dd d1_63) rfl rfl ?_
  refine Gz.imulV 65 (6 : Int32) X8 hx (dd d1_64) rfl rfl ?_
  refine Gz.iconst 66 (2 : Int32) X8 hx (dd d1_65) rfl rfl ?_
  refine Gz.idivV 67 (3 : Int32) X8 hx (dd d1_66) (by decide) rfl rfl ?_
  refine Gz.istore 69 #[.val (.ref a0), .val (.ref a1), .val (.long (fC3 a1 v0 v1 v2)), .second, .val (.int (3 : Int32)), .val (.int (3 : Int32)), .unset, .unset, .unset, .unset] X8 hx (dd d1_67) rfl rfl ?_
  refine Gz.aloadN 70 X8 hx (dd d1_69) rfl rfl rfl ?_
  refine Gz.iload 72 X8 hx (dd d1_70) rfl rfl ?_
  obtain ⟨T9, h9, k9, X9, e9, E9, A9, Q9, st9⟩ := newPE X8 hx hZ (ww hw 0 rfl) e8 (g := (mkF m 72 #[.val (.ref a0), .val (.ref a1), .val (.long (fC3 a1 v0 v1 v2)), .second, .val (.int (3 : Int32)), .val (.int (3 : Int32)), .unset, .unset, .unset, .unset] [(.int (3 : Int32)), (.ref a0)])) rfl (dd d1_72) rfl (by decide) (cap := 3) (by decide) (by decide) (by decide) (by decide) (ad := "[I") rfl
  obtain ⟨b9, g9⟩ : ∃ z, z = h8.size := ⟨_, rfl⟩
  rw [← g9] at A9 Q9 st9
  have ne_a0_b9 : a0 ≠ b9 := Nat.ne_of_lt (Nat.lt_of_lt_of_le (f8_E_a0).lt (Nat.le_of_eq g9.symm))
  have ne_a1_b9 : a1 ≠ b9 := Nat.ne_of_lt (Nat.lt_of_lt_of_le (f8_V_a1).lt (Nat.le_of_eq g9.symm))
  have ne_b4_b9 : b4 ≠ b9 := Nat.ne_of_lt (Nat.lt_of_lt_of_le (f8_Eb4).lt (Nat.le_of_eq g9.symm))
  have ne_b7_b9 : b7 ≠ b9 := Nat.ne_of_lt (Nat.lt_of_lt_of_le (f8_Eb7).lt (Nat.le_of_eq g9.symm))
  have ne_b7_0_b9 : b7_0 ≠ b9 := Nat.ne_of_lt (Nat.lt_of_lt_of_le (f8_Vb7_0).lt (Nat.le_of_eq g9.symm))
  have ne_b7_1_b9 : b7_1 ≠ b9 := Nat.ne_of_lt (Nat.lt_of_lt_of_le (f8_Vb7_1).lt (Nat.le_of_eq g9.symm))
  have ne_b7_2_b9 : b7_2 ≠ b9 := Nat.ne_of_lt (Nat.lt_of_lt_of_le (f8_Vb7_2).lt (Nat.le_of_eq g9.symm))
  have g_b9 : n0 ≤ b9 := Nat.le_trans SZ8 (Nat.le_of_eq g9.symm)
  have SZ9 : n0 ≤ h9.size := Nat.le_trans SZ8 E9.1
  have sz_b9 : h0.size ≤ b9 := Nat.le_trans K8.1 (Nat.le_of_eq g9.symm)
  have K9 := Keep.ext K8 E9
  have f9_E_a0 := Exa.ext E9 f8_E_a0
  have f9_F_valueCounts_a0 := Fld.ext E9 f8_F_valueCounts_a0
  have f9_F_start_a0 := Fld.ext E9 f8_F_start_a0
  have f9_F_firstOf_a0 := Fld.ext E9 f8_F_firstOf_a0
  have f9_F_secondOf_a0 := Fld.ext E9 f8_F_secondOf_a0
  have f9_F_startOf_a0 := Fld.ext E9 f8_F_startOf_a0
  have f9_F_count_a0 := Fld.ext E9 f8_F_count_a0
  have f9_V_a1 := Arv.ext f8_V_a1 E9
  have f9_E_a1 := Exa.ext E9 f8_E_a1
  have f9_Eb4 := Exa.ext E9 f8_Eb4
  have f9_Vb4 := Arv.ext f8_Vb4 E9
  have f9_Eb7 := Exa.ext E9 f8_Eb7
  have f9_Vb7 := Arv.ext f8_Vb7 E9
  have f9_Vb7_0 := Arv.ext f8_Vb7_0 E9
  have f9_Eb7_0 := Exa.ext E9 f8_Eb7_0
  have f9_Vb7_1 := Arv.ext f8_Vb7_1 E9
  have f9_Eb7_1 := Exa.ext E9 f8_Eb7_1
  have f9_Vb7_2 := Arv.ext f8_Vb7_2 E9
  have f9_Eb7_2 := Exa.ext E9 f8_Eb7_2
  have V9 : Arv Z h9 b9 k9 .int (3 : Int32) [(.int (0 : Int32)), (.int (0 : Int32)), (.int (0 : Int32))] (.int (0 : Int32)) := (Arv.new A9 (by decide)).pad (pad_rep [] (.int (0 : Int32)) 3)
  refine Gz.st st9 ?_
  refine Gz.putF 77 X9 hx hZ hown (.array .int) (dd d1_74) (host := "") (Or.inl (ww hw 29 rfl)) Via.refl e9 f9_F_firstOf_a0 f9_E_a0 (Or.inr ⟨(ww hw 30 rfl), rfl, hnm⟩) (ww hw 2 rfl) (by decide) rfl rfl rfl fun T10 h10 X10 e10 W10 => ?_
  have f10_E_a0 := Exa.wr W10 f9_E_a0
  have f10_F_valueCounts_a0 := Fld.other W10 f9_F_valueCounts_a0 (Or.inr (slot_ne (Or.inr (ww hw 24 rfl)) (Or.inr (ww hw 30 rfl)) (by decide) (t := (.array .int)) (t' := (.array .int)) (by decide) (by decide)))
  have f10_F_start_a0 := Fld.other W10 f9_F_start_a0 (Or.inr (slot_ne (Or.inr (ww hw 28 rfl)) (Or.inr (ww hw 30 rfl)) (by decide) (t := (.array (.array .int))) (t' := (.array .int)) (by decide) (by decide)))
  have f10_F_secondOf_a0 := Fld.other W10 f9_F_secondOf_a0 (Or.inr (slot_ne (Or.inr (ww hw 32 rfl)) (Or.inr (ww hw 30 rfl)) (by decide) (t := (.array .int)) (t' := (.array .int)) (by decide) (by decide)))
  have f10_F_startOf_a0 := Fld.other W10 f9_F_startOf_a0 (Or.inr (slot_ne (Or.inr (ww hw 34 rfl)) (Or.inr (ww hw 30 rfl)) (by decide) (t := (.array .int)) (t' := (.array .int)) (by decide) (by decide)))
  have f10_F_count_a0 := Fld.other W10 f9_F_count_a0 (Or.inr (slot_ne (Or.inr (ww hw 36 rfl)) (Or.inr (ww hw 30 rfl)) (by decide) (t := .int) (t' := (.array .int)) (by decide) (by decide)))
  have f10_V_a1 := Arv.other f9_V_a1 W10 ne_a1_a0
  have f10_E_a1 := Exa.wr W10 f9_E_a1
  have f10_Eb4 := Exa.wr W10 f9_Eb4
  have f10_Vb4 := Arv.other f9_Vb4 W10 (Ne.symm ne_a0_b4)
  have f10_Eb7 := Exa.wr W10 f9_Eb7
  have f10_Vb7 := Arv.other f9_Vb7 W10 (Ne.symm ne_a0_b7)
  have f10_Vb7_0 := Arv.other f9_Vb7_0 W10 (Ne.symm ne_a0_b7_0)
  have f10_Eb7_0 := Exa.wr W10 f9_Eb7_0
  have f10_Vb7_1 := Arv.other f9_Vb7_1 W10 (Ne.symm ne_a0_b7_1)
  have f10_Eb7_1 := Exa.wr W10 f9_Eb7_1
  have f10_Vb7_2 := Arv.other f9_Vb7_2 W10 (Ne.symm ne_a0_b7_2)
  have f10_Eb7_2 := Exa.wr W10 f9_Eb7_2
  have f10_Eb9 := Exa.wr W10 Q9
  have f10_Vb9 := Arv.other V9 W10 (Ne.symm ne_a0_b9)
  have f10_F_firstOf_a0 := Fld.same W10 f9_F_firstOf_a0
  have N10 := Fr.snoc X10 N8 g_a0
  have SZ10 : n0 ≤ h10.size := Nat.le_trans SZ9 (Keep.of_wr W10).1
  have K10 := Keep.wr K9 W10 (Or.inl (List.mem_of_getElem? (i := 0) rfl))
  refine Gz.aloadN 78 X10 hx (dd d1_77) rfl rfl rfl ?_
  refine Gz.iload 80 X10 hx (dd d1_78) rfl rfl ?_
  obtain ⟨T11, h11, k11, X11, e11, E11, A11, Q11, st11⟩ := newPE X10 hx hZ (ww hw 0 rfl) e10 (g := (mkF m 80 #[.val (.ref a0), .val (.ref a1), .val (.long (fC3 a1 v0 v1 v2)), .second, .val (.int (3 : Int32)), .val (.int (3 : Int32)), .unset, .unset, .unset, .unset] [(.int (3 : Int32)), (.ref a0)])) rfl (dd d1_80) rfl (by decide) (cap := 3) (by decide) (by decide) (by decide) (by decide) (ad := "[I") rfl
  obtain ⟨b11, g11⟩ : ∃ z, z = h10.size := ⟨_, rfl⟩
  rw [← g11] at A11 Q11 st11
  have ne_a0_b11 : a0 ≠ b11 := Nat.ne_of_lt (Nat.lt_of_lt_of_le (f10_E_a0).lt (Nat.le_of_eq g11.symm))
  have ne_a1_b11 : a1 ≠ b11 := Nat.ne_of_lt (Nat.lt_of_lt_of_le (f10_V_a1).lt (Nat.le_of_eq g11.symm))
  have ne_b4_b11 : b4 ≠ b11 := Nat.ne_of_lt (Nat.lt_of_lt_of_le (f10_Eb4).lt (Nat.le_of_eq g11.symm))
  have ne_b7_b11 : b7 ≠ b11 := Nat.ne_of_lt (Nat.lt_of_lt_of_le (f10_Eb7).lt (Nat.le_of_eq g11.symm))
  have ne_b7_0_b11 : b7_0 ≠ b11 := Nat.ne_of_lt (Nat.lt_of_lt_of_le (f10_Vb7_0).lt (Nat.le_of_eq g11.symm))
  have ne_b7_1_b11 : b7_1 ≠ b11 := Nat.ne_of_lt (Nat.lt_of_lt_of_le (f10_Vb7_1).lt (Nat.le_of_eq g11.symm))
  have ne_b7_2_b11 : b7_2 ≠ b11 := Nat.ne_of_lt (Nat.lt_of_lt_of_le (f10_Vb7_2).lt (Nat.le_of_eq g11.symm))
  have ne_b9_b11 : b9 ≠ b11 := Nat.ne_of_lt (Nat.lt_of_lt_of_le (f10_Eb9).lt (Nat.le_of_eq g11.symm))
  have g_b11 : n0 ≤ b11 := Nat.le_trans SZ10 (Nat.le_of_eq g11.symm)
  have SZ11 : n0 ≤ h11.size := Nat.le_trans SZ10 E11.1
  have sz_b11 : h0.size ≤ b11 := Nat.le_trans K10.1 (Nat.le_of_eq g11.symm)
  have K11 := Keep.ext K10 E11
  have f11_E_a0 := Exa.ext E11 f10_E_a0
  have f11_F_valueCounts_a0 := Fld.ext E11 f10_F_valueCounts_a0
  have f11_F_start_a0 := Fld.ext E11 f10_F_start_a0
  have f11_F_firstOf_a0 := Fld.ext E11 f10_F_firstOf_a0
  have f11_F_secondOf_a0 := Fld.ext E11 f10_F_secondOf_a0
  have f11_F_startOf_a0 := Fld.ext E11 f10_F_startOf_a0
  have f11_F_count_a0 := Fld.ext E11 f10_F_count_a0
  have f11_V_a1 := Arv.ext f10_V_a1 E11
  have f11_E_a1 := Exa.ext E11 f10_E_a1
  have f11_Eb4 := Exa.ext E11 f10_Eb4
  have f11_Vb4 := Arv.ext f10_Vb4 E11
  have f11_Eb7 := Exa.ext E11 f10_Eb7
  have f11_Vb7 := Arv.ext f10_Vb7 E11
  have f11_Vb7_0 := Arv.ext f10_Vb7_0 E11
  have f11_Eb7_0 := Exa.ext E11 f10_Eb7_0
  have f11_Vb7_1 := Arv.ext f10_Vb7_1 E11
  have f11_Eb7_1 := Exa.ext E11 f10_Eb7_1
  have f11_Vb7_2 := Arv.ext f10_Vb7_2 E11
  have f11_Eb7_2 := Exa.ext E11 f10_Eb7_2
  have f11_Eb9 := Exa.ext E11 f10_Eb9
  have f11_Vb9 := Arv.ext f10_Vb9 E11
  have V11 : Arv Z h11 b11 k11 .int (3 : Int32) [(.int (0 : Int32)), (.int (0 : Int32)), (.int (0 : Int32))] (.int (0 : Int32)) := (Arv.new A11 (by decide)).pad (pad_rep [] (.int (0 : Int32)) 3)
  refine Gz.st st11 ?_
  refine Gz.putF 85 X11 hx hZ hown (.array .int) (dd d1_82) (host := "") (Or.inl (ww hw 31 rfl)) Via.refl e11 f11_F_secondOf_a0 f11_E_a0 (Or.inr ⟨(ww hw 32 rfl), rfl, hnm⟩) (ww hw 2 rfl) (by decide) rfl rfl rfl fun T12 h12 X12 e12 W12 => ?_
  have f12_E_a0 := Exa.wr W12 f11_E_a0
  have f12_F_valueCounts_a0 := Fld.other W12 f11_F_valueCounts_a0 (Or.inr (slot_ne (Or.inr (ww hw 24 rfl)) (Or.inr (ww hw 32 rfl)) (by decide) (t := (.array .int)) (t' := (.array .int)) (by decide) (by decide)))
  have f12_F_start_a0 := Fld.other W12 f11_F_start_a0 (Or.inr (slot_ne (Or.inr (ww hw 28 rfl)) (Or.inr (ww hw 32 rfl)) (by decide) (t := (.array (.array .int))) (t' := (.array .int)) (by decide) (by decide)))
  have f12_F_firstOf_a0 := Fld.other W12 f11_F_firstOf_a0 (Or.inr (slot_ne (Or.inr (ww hw 30 rfl)) (Or.inr (ww hw 32 rfl)) (by decide) (t := (.array .int)) (t' := (.array .int)) (by decide) (by decide)))
  have f12_F_startOf_a0 := Fld.other W12 f11_F_startOf_a0 (Or.inr (slot_ne (Or.inr (ww hw 34 rfl)) (Or.inr (ww hw 32 rfl)) (by decide) (t := (.array .int)) (t' := (.array .int)) (by decide) (by decide)))
  have f12_F_count_a0 := Fld.other W12 f11_F_count_a0 (Or.inr (slot_ne (Or.inr (ww hw 36 rfl)) (Or.inr (ww hw 32 rfl)) (by decide) (t := .int) (t' := (.array .int)) (by decide) (by decide)))
  have f12_V_a1 := Arv.other f11_V_a1 W12 ne_a1_a0
  have f12_E_a1 := Exa.wr W12 f11_E_a1
  have f12_Eb4 := Exa.wr W12 f11_Eb4
  have f12_Vb4 := Arv.other f11_Vb4 W12 (Ne.symm ne_a0_b4)
  have f12_Eb7 := Exa.wr W12 f11_Eb7
  have f12_Vb7 := Arv.other f11_Vb7 W12 (Ne.symm ne_a0_b7)
  have f12_Vb7_0 := Arv.other f11_Vb7_0 W12 (Ne.symm ne_a0_b7_0)
  have f12_Eb7_0 := Exa.wr W12 f11_Eb7_0
  have f12_Vb7_1 := Arv.other f11_Vb7_1 W12 (Ne.symm ne_a0_b7_1)
  have f12_Eb7_1 := Exa.wr W12 f11_Eb7_1
  have f12_Vb7_2 := Arv.other f11_Vb7_2 W12 (Ne.symm ne_a0_b7_2)
  have f12_Eb7_2 := Exa.wr W12 f11_Eb7_2
  have f12_Eb9 := Exa.wr W12 f11_Eb9
  have f12_Vb9 := Arv.other f11_Vb9 W12 (Ne.symm ne_a0_b9)
  have f12_Eb11 := Exa.wr W12 Q11
  have f12_Vb11 := Arv.other V11 W12 (Ne.symm ne_a0_b11)
  have f12_F_secondOf_a0 := Fld.same W12 f11_F_secondOf_a0
  have N12 := Fr.snoc X12 N10 g_a0
  have SZ12 : n0 ≤ h12.size := Nat.le_trans SZ11 (Keep.of_wr W12).1
  have K12 := Keep.wr K11 W12 (Or.inl (List.mem_of_getElem? (i := 0) rfl))
  refine Gz.aloadN 86 X12 hx (dd d1_85) rfl rfl rfl ?_
  refine Gz.iload 88 X12 hx (dd d1_86) rfl rfl ?_
  obtain ⟨T13, h13, k13, X13, e13, E13, A13, Q13, st13⟩ := newPE X12 hx hZ (ww hw 0 rfl) e12 (g := (mkF m 88 #[.val (.ref a0), .val (.ref a1), .val (.long (fC3 a1 v0 v1 v2)), .second, .val (.int (3 : Int32)), .val (.int (3 : Int32)), .unset, .unset, .unset, .unset] [(.int (3 : Int32)), (.ref a0)])) rfl (dd d1_88) rfl (by decide) (cap := 3) (by decide) (by decide) (by decide) (by decide) (ad := "[I") rfl
  obtain ⟨b13, g13⟩ : ∃ z, z = h12.size := ⟨_, rfl⟩
  rw [← g13] at A13 Q13 st13
  have ne_a0_b13 : a0 ≠ b13 := Nat.ne_of_lt (Nat.lt_of_lt_of_le (f12_E_a0).lt (Nat.le_of_eq g13.symm))
  have ne_a1_b13 : a1 ≠ b13 := Nat.ne_of_lt (Nat.lt_of_lt_of_le (f12_V_a1).lt (Nat.le_of_eq g13.symm))
  have ne_b4_b13 : b4 ≠ b13 := Nat.ne_of_lt (Nat.lt_of_lt_of_le (f12_Eb4).lt (Nat.le_of_eq g13.symm))
  have ne_b7_b13 : b7 ≠ b13 := Nat.ne_of_lt (Nat.lt_of_lt_of_le (f12_Eb7).lt (Nat.le_of_eq g13.symm))
  have ne_b7_0_b13 : b7_0 ≠ b13 := Nat.ne_of_lt (Nat.lt_of_lt_of_le (f12_Vb7_0).lt (Nat.le_of_eq g13.symm))
  have ne_b7_1_b13 : b7_1 ≠ b13 := Nat.ne_of_lt (Nat.lt_of_lt_of_le (f12_Vb7_1).lt (Nat.le_of_eq g13.symm))
  have ne_b7_2_b13 : b7_2 ≠ b13 := Nat.ne_of_lt (Nat.lt_of_lt_of_le (f12_Vb7_2).lt (Nat.le_of_eq g13.symm))
  have ne_b9_b13 : b9 ≠ b13 := Nat.ne_of_lt (Nat.lt_of_lt_of_le (f12_Eb9).lt (Nat.le_of_eq g13.symm))
  have ne_b11_b13 : b11 ≠ b13 := Nat.ne_of_lt (Nat.lt_of_lt_of_le (f12_Eb11).lt (Nat.le_of_eq g13.symm))
  have g_b13 : n0 ≤ b13 := Nat.le_trans SZ12 (Nat.le_of_eq g13.symm)
  have SZ13 : n0 ≤ h13.size := Nat.le_trans SZ12 E13.1
  have sz_b13 : h0.size ≤ b13 := Nat.le_trans K12.1 (Nat.le_of_eq g13.symm)
  have K13 := Keep.ext K12 E13
  have f13_E_a0 := Exa.ext E13 f12_E_a0
  have f13_F_valueCounts_a0 := Fld.ext E13 f12_F_valueCounts_a0
  have f13_F_start_a0 := Fld.ext E13 f12_F_start_a0
  have f13_F_firstOf_a0 := Fld.ext E13 f12_F_firstOf_a0
  have f13_F_secondOf_a0 := Fld.ext E13 f12_F_secondOf_a0
  have f13_F_startOf_a0 := Fld.ext E13 f12_F_startOf_a0
  have f13_F_count_a0 := Fld.ext E13 f12_F_count_a0
  have f13_V_a1 := Arv.ext f12_V_a1 E13
  have f13_E_a1 := Exa.ext E13 f12_E_a1
  have f13_Eb4 := Exa.ext E13 f12_Eb4
  have f13_Vb4 := Arv.ext f12_Vb4 E13
  have f13_Eb7 := Exa.ext E13 f12_Eb7
  have f13_Vb7 := Arv.ext f12_Vb7 E13
  have f13_Vb7_0 := Arv.ext f12_Vb7_0 E13
  have f13_Eb7_0 := Exa.ext E13 f12_Eb7_0
  have f13_Vb7_1 := Arv.ext f12_Vb7_1 E13
  have f13_Eb7_1 := Exa.ext E13 f12_Eb7_1
  have f13_Vb7_2 := Arv.ext f12_Vb7_2 E13
  have f13_Eb7_2 := Exa.ext E13 f12_Eb7_2
  have f13_Eb9 := Exa.ext E13 f12_Eb9
  have f13_Vb9 := Arv.ext f12_Vb9 E13
  have f13_Eb11 := Exa.ext E13 f12_Eb11
  have f13_Vb11 := Arv.ext f12_Vb11 E13
  have V13 : Arv Z h13 b13 k13 .int (3 : Int32) [(.int (0 : Int32)), (.int (0 : Int32)), (.int (0 : Int32))] (.int (0 : Int32)) := (Arv.new A13 (by decide)).pad (pad_rep [] (.int (0 : Int32)) 3)
  refine Gz.st st13 ?_
  refine Gz.putF 93 X13 hx hZ hown (.array .int) (dd d1_90) (host := "") (Or.inl (ww hw 33 rfl)) Via.refl e13 f13_F_startOf_a0 f13_E_a0 (Or.inr ⟨(ww hw 34 rfl), rfl, hnm⟩) (ww hw 2 rfl) (by decide) rfl rfl rfl fun T14 h14 X14 e14 W14 => ?_
  have f14_E_a0 := Exa.wr W14 f13_E_a0
  have f14_F_valueCounts_a0 := Fld.other W14 f13_F_valueCounts_a0 (Or.inr (slot_ne (Or.inr (ww hw 24 rfl)) (Or.inr (ww hw 34 rfl)) (by decide) (t := (.array .int)) (t' := (.array .int)) (by decide) (by decide)))
  have f14_F_start_a0 := Fld.other W14 f13_F_start_a0 (Or.inr (slot_ne (Or.inr (ww hw 28 rfl)) (Or.inr (ww hw 34 rfl)) (by decide) (t := (.array (.array .int))) (t' := (.array .int)) (by decide) (by decide)))
  have f14_F_firstOf_a0 := Fld.other W14 f13_F_firstOf_a0 (Or.inr (slot_ne (Or.inr (ww hw 30 rfl)) (Or.inr (ww hw 34 rfl)) (by decide) (t := (.array .int)) (t' := (.array .int)) (by decide) (by decide)))
  have f14_F_secondOf_a0 := Fld.other W14 f13_F_secondOf_a0 (Or.inr (slot_ne (Or.inr (ww hw 32 rfl)) (Or.inr (ww hw 34 rfl)) (by decide) (t := (.array .int)) (t' := (.array .int)) (by decide) (by decide)))
  have f14_F_count_a0 := Fld.other W14 f13_F_count_a0 (Or.inr (slot_ne (Or.inr (ww hw 36 rfl)) (Or.inr (ww hw 34 rfl)) (by decide) (t := .int) (t' := (.array .int)) (by decide) (by decide)))
  have f14_V_a1 := Arv.other f13_V_a1 W14 ne_a1_a0
  have f14_E_a1 := Exa.wr W14 f13_E_a1
  have f14_Eb4 := Exa.wr W14 f13_Eb4
  have f14_Vb4 := Arv.other f13_Vb4 W14 (Ne.symm ne_a0_b4)
  have f14_Eb7 := Exa.wr W14 f13_Eb7
  have f14_Vb7 := Arv.other f13_Vb7 W14 (Ne.symm ne_a0_b7)
  have f14_Vb7_0 := Arv.other f13_Vb7_0 W14 (Ne.symm ne_a0_b7_0)
  have f14_Eb7_0 := Exa.wr W14 f13_Eb7_0
  have f14_Vb7_1 := Arv.other f13_Vb7_1 W14 (Ne.symm ne_a0_b7_1)
  have f14_Eb7_1 := Exa.wr W14 f13_Eb7_1
  have f14_Vb7_2 := Arv.other f13_Vb7_2 W14 (Ne.symm ne_a0_b7_2)
  have f14_Eb7_2 := Exa.wr W14 f13_Eb7_2
  have f14_Eb9 := Exa.wr W14 f13_Eb9
  have f14_Vb9 := Arv.other f13_Vb9 W14 (Ne.symm ne_a0_b9)
  have f14_Eb11 := Exa.wr W14 f13_Eb11
  have f14_Vb11 := Arv.other f13_Vb11 W14 (Ne.symm ne_a0_b11)
  have f14_Eb13 := Exa.wr W14 Q13
  have f14_Vb13 := Arv.other V13 W14 (Ne.symm ne_a0_b13)
  have f14_F_startOf_a0 := Fld.same W14 f13_F_startOf_a0
  have N14 := Fr.snoc X14 N12 g_a0
  have SZ14 : n0 ≤ h14.size := Nat.le_trans SZ13 (Keep.of_wr W14).1
  have K14 := Keep.wr K13 W14 (Or.inl (List.mem_of_getElem? (i := 0) rfl))
  refine Gz.iconst 94 (0 : Int32) X14 hx (dd d1_93) rfl rfl ?_
  refine Gz.istore 96 #[.val (.ref a0), .val (.ref a1), .val (.long (fC3 a1 v0 v1 v2)), .second, .val (.int (3 : Int32)), .val (.int (3 : Int32)), .val (.int (0 : Int32)), .unset, .unset, .unset] X14 hx (dd d1_94) rfl rfl ?_
  refine Gz.iconst 97 (0 : Int32) X14 hx (dd d1_96) rfl rfl ?_
  refine Gz.istore 99 #[.val (.ref a0), .val (.ref a1), .val (.long (fC3 a1 v0 v1 v2)), .second, .val (.int (3 : Int32)), .val (.int (3 : Int32)), .val (.int (0 : Int32)), .val (.int (0 : Int32)), .unset, .unset] X14 hx (dd d1_97) rfl rfl ?_
  refine Gz.iconst 100 (0 : Int32) X14 hx (dd d1_99) rfl rfl ?_
  refine Gz.istore 102 #[.val (.ref a0), .val (.ref a1), .val (.long (fC3 a1 v0 v1 v2)), .second, .val (.int (3 : Int32)), .val (.int (3 : Int32)), .val (.int (0 : Int32)), .val (.int (0 : Int32)), .val (.int (0 : Int32)), .unset] X14 hx (dd d1_100) rfl rfl ?_
  refine Gz.iload 104 X14 hx (dd d1_102) rfl rfl ?_
  refine Gz.iload 106 X14 hx (dd d1_104) rfl rfl ?_
  refine Gz.icmpNo 109 X14 hx (dd d1_106) (tlt (by decide : (0 : Int32) < (3 : Int32))).2.1 rfl ?_
  refine Gz.iload 111 X14 hx (dd d1_109) rfl rfl ?_
  refine Gz.iconst 112 (1 : Int32) X14 hx (dd d1_111) rfl rfl ?_
  refine Gz.iaddV 113 (1 : Int32) X14 hx (dd d1_112) rfl rfl ?_
  refine Gz.istore 115 #[.val (.ref a0), .val (.ref a1), .val (.long (fC3 a1 v0 v1 v2)), .second, .val (.int (3 : Int32)), .val (.int (3 : Int32)), .val (.int (0 : Int32)), .val (.int (0 : Int32)), .val (.int (0 : Int32)), .val (.int (1 : Int32))] X14 hx (dd d1_113) rfl rfl ?_
  refine Gz.iload 117 X14 hx (dd d1_115) rfl rfl ?_
  refine Gz.iload 119 X14 hx (dd d1_117) rfl rfl ?_
  refine Gz.icmpNo 122 X14 hx (dd d1_119) (tlt (by decide : (1 : Int32) < (3 : Int32))).2.1 rfl ?_
  refine Gz.aloadN 123 X14 hx (dd d1_122) rfl rfl rfl ?_
  refine Gz.getF 126 X14 hx hZ hown (dd d1_123) (host := "") (Or.inl (ww hw 27 rfl)) Via.refl e14 f14_F_start_a0 rfl fun T15 X15 e15 => ?_
  refine Gz.iload 128 X15 hx (dd d1_126) rfl rfl ?_
  obtain ⟨c16, A16, q16, S16, N16, H16, G16⟩ := id f14_Vb7
  have hin16 : ¬ ((0 : Int32) < 0 ∨ c16.slots.size ≤ ((0 : Int32)).toNatClampNeg) := inb_of S16 ⟨by decide, by decide⟩
  refine Gz.ldA 129 X15 hx hZ rfl (dd d1_128) e15 A16 hin16 (Has.at H16 hin16 (rfl : _ = ((.ref b7_0) : Value))) rfl ?_
  refine Gz.iload 131 X15 hx (dd d1_129) rfl rfl ?_
  refine Gz.iload 133 X15 hx (dd d1_131) rfl rfl ?_
  obtain ⟨c17, A17, q17, S17, N17, H17, G17⟩ := id f14_Vb7_0
  have hin17 : ¬ ((1 : Int32) < 0 ∨ c17.slots.size ≤ ((1 : Int32)).toNatClampNeg) := inb_of S17 ⟨by decide, by decide⟩
  refine Gz.stI 134 X15 hx hZ (dd d1_133) e15 A17 hin17 rfl fun T18 h18 X18 e18 W18 => ?_
  have V18 := Arv.set A17 q17 S17 N17 H17 G17 rfl W18 1 rfl (Nat.le_of_ble_eq_true rfl)
  replace V18 : Arv Z h18 b7_0 kr7 .int (3 : Int32) [(.int (0 : Int32)), (.int (0 : Int32)), (.int (0 : Int32))] (.int (0 : Int32)) := V18
  have f18_E_a0 := Exa.wr W18 f14_E_a0
  have f18_F_valueCounts_a0 := Fld.other W18 f14_F_valueCounts_a0 (Or.inl ne_a0_b7_0)
  have f18_F_start_a0 := Fld.other W18 f14_F_start_a0 (Or.inl ne_a0_b7_0)
  have f18_F_firstOf_a0 := Fld.other W18 f14_F_firstOf_a0 (Or.inl ne_a0_b7_0)
  have f18_F_secondOf_a0 := Fld.other W18 f14_F_secondOf_a0 (Or.inl ne_a0_b7_0)
  have f18_F_startOf_a0 := Fld.other W18 f14_F_startOf_a0 (Or.inl ne_a0_b7_0)
  have f18_F_count_a0 := Fld.other W18 f14_F_count_a0 (Or.inl ne_a0_b7_0)
  have f18_V_a1 := Arv.other f14_V_a1 W18 ne_a1_b7_0
  have f18_E_a1 := Exa.wr W18 f14_E_a1
  have f18_Eb4 := Exa.wr W18 f14_Eb4
  have f18_Vb4 := Arv.other f14_Vb4 W18 ne_b4_b7_0
  have f18_Eb7 := Exa.wr W18 f14_Eb7
  have f18_Vb7 := Arv.other f14_Vb7 W18 ne_b7_b7_0
  have f18_Eb7_0 := Exa.wr W18 f14_Eb7_0
  have f18_Vb7_1 := Arv.other f14_Vb7_1 W18 (Ne.symm ne_b7_0_b7_1)
  have f18_Eb7_1 := Exa.wr W18 f14_Eb7_1
  have f18_Vb7_2 := Arv.other f14_Vb7_2 W18 (Ne.symm ne_b7_0_b7_2)
  have f18_Eb7_2 := Exa.wr W18 f14_Eb7_2
  have f18_Eb9 := Exa.wr W18 f14_Eb9
  have f18_Vb9 := Arv.other f14_Vb9 W18 (Ne.symm ne_b7_0_b9)
  have f18_Eb11 := Exa.wr W18 f14_Eb11
  have f18_Vb11 := Arv.other f14_Vb11 W18 (Ne.symm ne_b7_0_b11)
  have f18_Eb13 := Exa.wr W18 f14_Eb13
  have f18_Vb13 := Arv.other f14_Vb13 W18 (Ne.symm ne_b7_0_b13)
  have N18 := Fr.snoc X18 N14 g_b7_0
  have SZ18 : n0 ≤ h18.size := Nat.le_trans SZ14 (Keep.of_wr W18).1
  have K18 := Keep.wr K14 W18 (Or.inr sz_b7_0)
  refine Gz.aloadN 135 X18 hx (dd d1_134) rfl rfl rfl ?_
  refine Gz.getF 138 X18 hx hZ hown (dd d1_135) (host := "") (Or.inl (ww hw 29 rfl)) Via.refl e18 f18_F_firstOf_a0 rfl fun T19 X19 e19 => ?_
  refine Gz.iload 140 X19 hx (dd d1_138) rfl rfl ?_
  refine Gz.iload 142 X19 hx (dd d1_140) rfl rfl ?_
  obtain ⟨c20, A20, q20, S20, N20, H20, G20⟩ := id f18_Vb9
  have hin20 : ¬ ((0 : Int32) < 0 ∨ c20.slots.size ≤ ((0 : Int32)).toNatClampNeg) := inb_of S20 ⟨by decide, by decide⟩
  refine Gz.stI 143 X19 hx hZ (dd d1_142) e19 A20 hin20 rfl fun T21 h21 X21 e21 W21 => ?_
  have V21 := Arv.set A20 q20 S20 N20 H20 G20 rfl W21 0 rfl (Nat.le_of_ble_eq_true rfl)
  replace V21 : Arv Z h21 b9 k9 .int (3 : Int32) [(.int (0 : Int32)), (.int (0 : Int32)), (.int (0 : Int32))] (.int (0 : Int32)) := V21
  have f21_E_a0 := Exa.wr W21 f18_E_a0
  have f21_F_valueCounts_a0 := Fld.other W21 f18_F_valueCounts_a0 (Or.inl ne_a0_b9)
  have f21_F_start_a0 := Fld.other W21 f18_F_start_a0 (Or.inl ne_a0_b9)
  have f21_F_firstOf_a0 := Fld.other W21 f18_F_firstOf_a0 (Or.inl ne_a0_b9)
  have f21_F_secondOf_a0 := Fld.other W21 f18_F_secondOf_a0 (Or.inl ne_a0_b9)
  have f21_F_startOf_a0 := Fld.other W21 f18_F_startOf_a0 (Or.inl ne_a0_b9)
  have f21_F_count_a0 := Fld.other W21 f18_F_count_a0 (Or.inl ne_a0_b9)
  have f21_V_a1 := Arv.other f18_V_a1 W21 ne_a1_b9
  have f21_E_a1 := Exa.wr W21 f18_E_a1
  have f21_Eb4 := Exa.wr W21 f18_Eb4
  have f21_Vb4 := Arv.other f18_Vb4 W21 ne_b4_b9
  have f21_Eb7 := Exa.wr W21 f18_Eb7
  have f21_Vb7 := Arv.other f18_Vb7 W21 ne_b7_b9
  have f21_Vb7_0 := Arv.other V18 W21 ne_b7_0_b9
  have f21_Eb7_0 := Exa.wr W21 f18_Eb7_0
  have f21_Vb7_1 := Arv.other f18_Vb7_1 W21 ne_b7_1_b9
  have f21_Eb7_1 := Exa.wr W21 f18_Eb7_1
  have f21_Vb7_2 := Arv.other f18_Vb7_2 W21 ne_b7_2_b9
  have f21_Eb7_2 := Exa.wr W21 f18_Eb7_2
  have f21_Eb9 := Exa.wr W21 f18_Eb9
  have f21_Eb11 := Exa.wr W21 f18_Eb11
  have f21_Vb11 := Arv.other f18_Vb11 W21 (Ne.symm ne_b9_b11)
  have f21_Eb13 := Exa.wr W21 f18_Eb13
  have f21_Vb13 := Arv.other f18_Vb13 W21 (Ne.symm ne_b9_b13)
  have N21 := Fr.snoc X21 N18 g_b9
  have SZ21 : n0 ≤ h21.size := Nat.le_trans SZ18 (Keep.of_wr W21).1
  have K21 := Keep.wr K18 W21 (Or.inr sz_b9)
  refine Gz.aloadN 144 X21 hx (dd d1_143) rfl rfl rfl ?_
  refine Gz.getF 147 X21 hx hZ hown (dd d1_144) (host := "") (Or.inl (ww hw 31 rfl)) Via.refl e21 f21_F_secondOf_a0 rfl fun T22 X22 e22 => ?_
  refine Gz.iload 149 X22 hx (dd d1_147) rfl rfl ?_
  refine Gz.iload 151 X22 hx (dd d1_149) rfl rfl ?_
  obtain ⟨c23, A23, q23, S23, N23, H23, G23⟩ := id f21_Vb11
  have hin23 : ¬ ((0 : Int32) < 0 ∨ c23.slots.size ≤ ((0 : Int32)).toNatClampNeg) := inb_of S23 ⟨by decide, by decide⟩
  refine Gz.stI 152 X22 hx hZ (dd d1_151) e22 A23 hin23 rfl fun T24 h24 X24 e24 W24 => ?_
  have V24 := Arv.set A23 q23 S23 N23 H23 G23 rfl W24 0 rfl (Nat.le_of_ble_eq_true rfl)
  replace V24 : Arv Z h24 b11 k11 .int (3 : Int32) [(.int (1 : Int32)), (.int (0 : Int32)), (.int (0 : Int32))] (.int (0 : Int32)) := V24
  have f24_E_a0 := Exa.wr W24 f21_E_a0
  have f24_F_valueCounts_a0 := Fld.other W24 f21_F_valueCounts_a0 (Or.inl ne_a0_b11)
  have f24_F_start_a0 := Fld.other W24 f21_F_start_a0 (Or.inl ne_a0_b11)
  have f24_F_firstOf_a0 := Fld.other W24 f21_F_firstOf_a0 (Or.inl ne_a0_b11)
  have f24_F_secondOf_a0 := Fld.other W24 f21_F_secondOf_a0 (Or.inl ne_a0_b11)
  have f24_F_startOf_a0 := Fld.other W24 f21_F_startOf_a0 (Or.inl ne_a0_b11)
  have f24_F_count_a0 := Fld.other W24 f21_F_count_a0 (Or.inl ne_a0_b11)
  have f24_V_a1 := Arv.other f21_V_a1 W24 ne_a1_b11
  have f24_E_a1 := Exa.wr W24 f21_E_a1
  have f24_Eb4 := Exa.wr W24 f21_Eb4
  have f24_Vb4 := Arv.other f21_Vb4 W24 ne_b4_b11
  have f24_Eb7 := Exa.wr W24 f21_Eb7
  have f24_Vb7 := Arv.other f21_Vb7 W24 ne_b7_b11
  have f24_Vb7_0 := Arv.other f21_Vb7_0 W24 ne_b7_0_b11
  have f24_Eb7_0 := Exa.wr W24 f21_Eb7_0
  have f24_Vb7_1 := Arv.other f21_Vb7_1 W24 ne_b7_1_b11
  have f24_Eb7_1 := Exa.wr W24 f21_Eb7_1
  have f24_Vb7_2 := Arv.other f21_Vb7_2 W24 ne_b7_2_b11
  have f24_Eb7_2 := Exa.wr W24 f21_Eb7_2
  have f24_Eb9 := Exa.wr W24 f21_Eb9
  have f24_Vb9 := Arv.other V21 W24 ne_b9_b11
  have f24_Eb11 := Exa.wr W24 f21_Eb11
  have f24_Eb13 := Exa.wr W24 f21_Eb13
  have f24_Vb13 := Arv.other f21_Vb13 W24 (Ne.symm ne_b11_b13)
  have N24 := Fr.snoc X24 N21 g_b11
  have SZ24 : n0 ≤ h24.size := Nat.le_trans SZ21 (Keep.of_wr W24).1
  have K24 := Keep.wr K21 W24 (Or.inr sz_b11)
  refine Gz.aloadN 153 X24 hx (dd d1_152) rfl rfl rfl ?_
  refine Gz.getF 156 X24 hx hZ hown (dd d1_153) (host := "") (Or.inl (ww hw 33 rfl)) Via.refl e24 f24_F_startOf_a0 rfl fun T25 X25 e25 => ?_
  refine Gz.iload 158 X25 hx (dd d1_156) rfl rfl ?_
  refine Gz.iload 160 X25 hx (dd d1_158) rfl rfl ?_
  obtain ⟨c26, A26, q26, S26, N26, H26, G26⟩ := id f24_Vb13
  have hin26 : ¬ ((0 : Int32) < 0 ∨ c26.slots.size ≤ ((0 : Int32)).toNatClampNeg) := inb_of S26 ⟨by decide, by decide⟩
  refine Gz.stI 161 X25 hx hZ (dd d1_160) e25 A26 hin26 rfl fun T27 h27 X27 e27 W27 => ?_
  have V27 := Arv.set A26 q26 S26 N26 H26 G26 rfl W27 0 rfl (Nat.le_of_ble_eq_true rfl)
  replace V27 : Arv Z h27 b13 k13 .int (3 : Int32) [(.int (0 : Int32)), (.int (0 : Int32)), (.int (0 : Int32))] (.int (0 : Int32)) := V27
  have f27_E_a0 := Exa.wr W27 f24_E_a0
  have f27_F_valueCounts_a0 := Fld.other W27 f24_F_valueCounts_a0 (Or.inl ne_a0_b13)
  have f27_F_start_a0 := Fld.other W27 f24_F_start_a0 (Or.inl ne_a0_b13)
  have f27_F_firstOf_a0 := Fld.other W27 f24_F_firstOf_a0 (Or.inl ne_a0_b13)
  have f27_F_secondOf_a0 := Fld.other W27 f24_F_secondOf_a0 (Or.inl ne_a0_b13)
  have f27_F_startOf_a0 := Fld.other W27 f24_F_startOf_a0 (Or.inl ne_a0_b13)
  have f27_F_count_a0 := Fld.other W27 f24_F_count_a0 (Or.inl ne_a0_b13)
  have f27_V_a1 := Arv.other f24_V_a1 W27 ne_a1_b13
  have f27_E_a1 := Exa.wr W27 f24_E_a1
  have f27_Eb4 := Exa.wr W27 f24_Eb4
  have f27_Vb4 := Arv.other f24_Vb4 W27 ne_b4_b13
  have f27_Eb7 := Exa.wr W27 f24_Eb7
  have f27_Vb7 := Arv.other f24_Vb7 W27 ne_b7_b13
  have f27_Vb7_0 := Arv.other f24_Vb7_0 W27 ne_b7_0_b13
  have f27_Eb7_0 := Exa.wr W27 f24_Eb7_0
  have f27_Vb7_1 := Arv.other f24_Vb7_1 W27 ne_b7_1_b13
  have f27_Eb7_1 := Exa.wr W27 f24_Eb7_1
  have f27_Vb7_2 := Arv.other f24_Vb7_2 W27 ne_b7_2_b13
  have f27_Eb7_2 := Exa.wr W27 f24_Eb7_2
  have f27_Eb9 := Exa.wr W27 f24_Eb9
  have f27_Vb9 := Arv.other f24_Vb9 W27 ne_b9_b13
  have f27_Eb11 := Exa.wr W27 f24_Eb11
  have f27_Vb11 := Arv.other V24 W27 ne_b11_b13
  have f27_Eb13 := Exa.wr W27 f24_Eb13
  have N27 := Fr.snoc X27 N24 g_b13
  have SZ27 : n0 ≤ h27.size := Nat.le_trans SZ24 (Keep.of_wr W27).1
  have K27 := Keep.wr K24 W27 (Or.inr sz_b13)
  refine Gz.iinc 164 #[.val (.ref a0), .val (.ref a1), .val (.long (fC3 a1 v0 v1 v2)), .second, .val (.int (3 : Int32)), .val (.int (3 : Int32)), .val (.int (0 : Int32)), .val (.int (1 : Int32)), .val (.int (0 : Int32)), .val (.int (1 : Int32))] X27 hx (dd d1_161) rfl rfl rfl ?_
  refine Gz.iload 166 X27 hx (dd d1_164) rfl rfl ?_
  refine Gz.aloadN 167 X27 hx (dd d1_166) rfl rfl rfl ?_
  refine Gz.iload 169 X27 hx (dd d1_167) rfl rfl ?_
  obtain ⟨c28, A28, q28, S28, N28, H28, G28⟩ := id f27_V_a1
  have hin28 : ¬ ((0 : Int32) < 0 ∨ c28.slots.size ≤ ((0 : Int32)).toNatClampNeg) := inb_of S28 ⟨by decide, by decide⟩
  refine Gz.ldI 170 X27 hx hZ (dd d1_169) e27 A28 hin28 (Has.at H28 hin28 (rfl : _ = ((.int v0) : Value))) rfl ?_
  refine Gz.aloadN 171 X27 hx (dd d1_170) rfl rfl rfl ?_
  refine Gz.iload 173 X27 hx (dd d1_171) rfl rfl ?_
  obtain ⟨c29, A29, q29, S29, N29, H29, G29⟩ := id f27_V_a1
  have hin29 : ¬ ((1 : Int32) < 0 ∨ c29.slots.size ≤ ((1 : Int32)).toNatClampNeg) := inb_of S29 ⟨by decide, by decide⟩
  refine Gz.ldI 174 X27 hx hZ (dd d1_173) e27 A29 hin29 (Has.at H29 hin29 (rfl : _ = ((.int v1) : Value))) rfl ?_
  refine Gz.imul 175 X27 hx (dd d1_174) rfl ?_
  refine Gz.iadd 176 X27 hx (dd d1_175) rfl ?_
  refine Gz.istore 178 #[.val (.ref a0), .val (.ref a1), .val (.long (fC3 a1 v0 v1 v2)), .second, .val (.int (3 : Int32)), .val (.int (3 : Int32)), .val (.int ((0 : Int32) + (v0 * v1))), .val (.int (1 : Int32)), .val (.int (0 : Int32)), .val (.int (1 : Int32))] X27 hx (dd d1_176) rfl rfl ?_
  refine Gz.iinc 181 #[.val (.ref a0), .val (.ref a1), .val (.long (fC3 a1 v0 v1 v2)), .second, .val (.int (3 : Int32)), .val (.int (3 : Int32)), .val (.int ((0 : Int32) + (v0 * v1))), .val (.int (1 : Int32)), .val (.int (0 : Int32)), .val (.int (2 : Int32))] X27 hx (dd d1_178) rfl rfl rfl ?_
  refine Gz.goto 115 X27 hx (dd d1_181) (by decide) (by decide) ?_
  refine Gz.iload 117 X27 hx (dd d1_115) rfl rfl ?_
  refine Gz.iload 119 X27 hx (dd d1_117) rfl rfl ?_
  refine Gz.icmpNo 122 X27 hx (dd d1_119) (tlt (by decide : (2 : Int32) < (3 : Int32))).2.1 rfl ?_
  refine Gz.aloadN 123 X27 hx (dd d1_122) rfl rfl rfl ?_
  refine Gz.getF 126 X27 hx hZ hown (dd d1_123) (host := "") (Or.inl (ww hw 27 rfl)) Via.refl e27 f27_F_start_a0 rfl fun T30 X30 e30 => ?_
  refine Gz.iload 128 X30 hx (dd d1_126) rfl rfl ?_
  obtain ⟨c31, A31, q31, S31, N31, H31, G31⟩ := id f27_Vb7
  have hin31 : ¬ ((0 : Int32) < 0 ∨ c31.slots.size ≤ ((0 : Int32)).toNatClampNeg) := inb_of S31 ⟨by decide, by decide⟩
  refine Gz.ldA 129 X30 hx hZ rfl (dd d1_128) e30 A31 hin31 (Has.at H31 hin31 (rfl : _ = ((.ref b7_0) : Value))) rfl ?_
  refine Gz.iload 131 X30 hx (dd d1_129) rfl rfl ?_
  refine Gz.iload 133 X30 hx (dd d1_131) rfl rfl ?_
  obtain ⟨c32, A32, q32, S32, N32, H32, G32⟩ := id f27_Vb7_0
  have hin32 : ¬ ((2 : Int32) < 0 ∨ c32.slots.size ≤ ((2 : Int32)).toNatClampNeg) := inb_of S32 ⟨by decide, by decide⟩
  refine Gz.stI 134 X30 hx hZ (dd d1_133) e30 A32 hin32 rfl fun T33 h33 X33 e33 W33 => ?_
  have V33 := Arv.set A32 q32 S32 N32 H32 G32 rfl W33 2 rfl (Nat.le_of_ble_eq_true rfl)
  replace V33 : Arv Z h33 b7_0 kr7 .int (3 : Int32) [(.int (0 : Int32)), (.int (0 : Int32)), (.int ((0 : Int32) + (v0 * v1)))] (.int (0 : Int32)) := V33
  have f33_E_a0 := Exa.wr W33 f27_E_a0
  have f33_F_valueCounts_a0 := Fld.other W33 f27_F_valueCounts_a0 (Or.inl ne_a0_b7_0)
  have f33_F_start_a0 := Fld.other W33 f27_F_start_a0 (Or.inl ne_a0_b7_0)
  have f33_F_firstOf_a0 := Fld.other W33 f27_F_firstOf_a0 (Or.inl ne_a0_b7_0)
  have f33_F_secondOf_a0 := Fld.other W33 f27_F_secondOf_a0 (Or.inl ne_a0_b7_0)
  have f33_F_startOf_a0 := Fld.other W33 f27_F_startOf_a0 (Or.inl ne_a0_b7_0)
  have f33_F_count_a0 := Fld.other W33 f27_F_count_a0 (Or.inl ne_a0_b7_0)
  have f33_V_a1 := Arv.other f27_V_a1 W33 ne_a1_b7_0
  have f33_E_a1 := Exa.wr W33 f27_E_a1
  have f33_Eb4 := Exa.wr W33 f27_Eb4
  have f33_Vb4 := Arv.other f27_Vb4 W33 ne_b4_b7_0
  have f33_Eb7 := Exa.wr W33 f27_Eb7
  have f33_Vb7 := Arv.other f27_Vb7 W33 ne_b7_b7_0
  have f33_Eb7_0 := Exa.wr W33 f27_Eb7_0
  have f33_Vb7_1 := Arv.other f27_Vb7_1 W33 (Ne.symm ne_b7_0_b7_1)
  have f33_Eb7_1 := Exa.wr W33 f27_Eb7_1
  have f33_Vb7_2 := Arv.other f27_Vb7_2 W33 (Ne.symm ne_b7_0_b7_2)
  have f33_Eb7_2 := Exa.wr W33 f27_Eb7_2
  have f33_Eb9 := Exa.wr W33 f27_Eb9
  have f33_Vb9 := Arv.other f27_Vb9 W33 (Ne.symm ne_b7_0_b9)
  have f33_Eb11 := Exa.wr W33 f27_Eb11
  have f33_Vb11 := Arv.other f27_Vb11 W33 (Ne.symm ne_b7_0_b11)
  have f33_Eb13 := Exa.wr W33 f27_Eb13
  have f33_Vb13 := Arv.other V27 W33 (Ne.symm ne_b7_0_b13)
  have N33 := Fr.snoc X33 N27 g_b7_0
  have SZ33 : n0 ≤ h33.size := Nat.le_trans SZ27 (Keep.of_wr W33).1
  have K33 := Keep.wr K27 W33 (Or.inr sz_b7_0)
  refine Gz.aloadN 135 X33 hx (dd d1_134) rfl rfl rfl ?_
  refine Gz.getF 138 X33 hx hZ hown (dd d1_135) (host := "") (Or.inl (ww hw 29 rfl)) Via.refl e33 f33_F_firstOf_a0 rfl fun T34 X34 e34 => ?_
  refine Gz.iload 140 X34 hx (dd d1_138) rfl rfl ?_
  refine Gz.iload 142 X34 hx (dd d1_140) rfl rfl ?_
  obtain ⟨c35, A35, q35, S35, N35, H35, G35⟩ := id f33_Vb9
  have hin35 : ¬ ((1 : Int32) < 0 ∨ c35.slots.size ≤ ((1 : Int32)).toNatClampNeg) := inb_of S35 ⟨by decide, by decide⟩
  refine Gz.stI 143 X34 hx hZ (dd d1_142) e34 A35 hin35 rfl fun T36 h36 X36 e36 W36 => ?_
  have V36 := Arv.set A35 q35 S35 N35 H35 G35 rfl W36 1 rfl (Nat.le_of_ble_eq_true rfl)
  replace V36 : Arv Z h36 b9 k9 .int (3 : Int32) [(.int (0 : Int32)), (.int (0 : Int32)), (.int (0 : Int32))] (.int (0 : Int32)) := V36
  have f36_E_a0 := Exa.wr W36 f33_E_a0
  have f36_F_valueCounts_a0 := Fld.other W36 f33_F_valueCounts_a0 (Or.inl ne_a0_b9)
  have f36_F_start_a0 := Fld.other W36 f33_F_start_a0 (Or.inl ne_a0_b9)
  have f36_F_firstOf_a0 := Fld.other W36 f33_F_firstOf_a0 (Or.inl ne_a0_b9)
  have f36_F_secondOf_a0 := Fld.other W36 f33_F_secondOf_a0 (Or.inl ne_a0_b9)
  have f36_F_startOf_a0 := Fld.other W36 f33_F_startOf_a0 (Or.inl ne_a0_b9)
  have f36_F_count_a0 := Fld.other W36 f33_F_count_a0 (Or.inl ne_a0_b9)
  have f36_V_a1 := Arv.other f33_V_a1 W36 ne_a1_b9
  have f36_E_a1 := Exa.wr W36 f33_E_a1
  have f36_Eb4 := Exa.wr W36 f33_Eb4
  have f36_Vb4 := Arv.other f33_Vb4 W36 ne_b4_b9
  have f36_Eb7 := Exa.wr W36 f33_Eb7
  have f36_Vb7 := Arv.other f33_Vb7 W36 ne_b7_b9
  have f36_Vb7_0 := Arv.other V33 W36 ne_b7_0_b9
  have f36_Eb7_0 := Exa.wr W36 f33_Eb7_0
  have f36_Vb7_1 := Arv.other f33_Vb7_1 W36 ne_b7_1_b9
  have f36_Eb7_1 := Exa.wr W36 f33_Eb7_1
  have f36_Vb7_2 := Arv.other f33_Vb7_2 W36 ne_b7_2_b9
  have f36_Eb7_2 := Exa.wr W36 f33_Eb7_2
  have f36_Eb9 := Exa.wr W36 f33_Eb9
  have f36_Eb11 := Exa.wr W36 f33_Eb11
  have f36_Vb11 := Arv.other f33_Vb11 W36 (Ne.symm ne_b9_b11)
  have f36_Eb13 := Exa.wr W36 f33_Eb13
  have f36_Vb13 := Arv.other f33_Vb13 W36 (Ne.symm ne_b9_b13)
  have N36 := Fr.snoc X36 N33 g_b9
  have SZ36 : n0 ≤ h36.size := Nat.le_trans SZ33 (Keep.of_wr W36).1
  have K36 := Keep.wr K33 W36 (Or.inr sz_b9)
  refine Gz.aloadN 144 X36 hx (dd d1_143) rfl rfl rfl ?_
  refine Gz.getF 147 X36 hx hZ hown (dd d1_144) (host := "") (Or.inl (ww hw 31 rfl)) Via.refl e36 f36_F_secondOf_a0 rfl fun T37 X37 e37 => ?_
  refine Gz.iload 149 X37 hx (dd d1_147) rfl rfl ?_
  refine Gz.iload 151 X37 hx (dd d1_149) rfl rfl ?_
  obtain ⟨c38, A38, q38, S38, N38, H38, G38⟩ := id f36_Vb11
  have hin38 : ¬ ((1 : Int32) < 0 ∨ c38.slots.size ≤ ((1 : Int32)).toNatClampNeg) := inb_of S38 ⟨by decide, by decide⟩
  refine Gz.stI 152 X37 hx hZ (dd d1_151) e37 A38 hin38 rfl fun T39 h39 X39 e39 W39 => ?_
  have V39 := Arv.set A38 q38 S38 N38 H38 G38 rfl W39 1 rfl (Nat.le_of_ble_eq_true rfl)
  replace V39 : Arv Z h39 b11 k11 .int (3 : Int32) [(.int (1 : Int32)), (.int (2 : Int32)), (.int (0 : Int32))] (.int (0 : Int32)) := V39
  have f39_E_a0 := Exa.wr W39 f36_E_a0
  have f39_F_valueCounts_a0 := Fld.other W39 f36_F_valueCounts_a0 (Or.inl ne_a0_b11)
  have f39_F_start_a0 := Fld.other W39 f36_F_start_a0 (Or.inl ne_a0_b11)
  have f39_F_firstOf_a0 := Fld.other W39 f36_F_firstOf_a0 (Or.inl ne_a0_b11)
  have f39_F_secondOf_a0 := Fld.other W39 f36_F_secondOf_a0 (Or.inl ne_a0_b11)
  have f39_F_startOf_a0 := Fld.other W39 f36_F_startOf_a0 (Or.inl ne_a0_b11)
  have f39_F_count_a0 := Fld.other W39 f36_F_count_a0 (Or.inl ne_a0_b11)
  have f39_V_a1 := Arv.other f36_V_a1 W39 ne_a1_b11
  have f39_E_a1 := Exa.wr W39 f36_E_a1
  have f39_Eb4 := Exa.wr W39 f36_Eb4
  have f39_Vb4 := Arv.other f36_Vb4 W39 ne_b4_b11
  have f39_Eb7 := Exa.wr W39 f36_Eb7
  have f39_Vb7 := Arv.other f36_Vb7 W39 ne_b7_b11
  have f39_Vb7_0 := Arv.other f36_Vb7_0 W39 ne_b7_0_b11
  have f39_Eb7_0 := Exa.wr W39 f36_Eb7_0
  have f39_Vb7_1 := Arv.other f36_Vb7_1 W39 ne_b7_1_b11
  have f39_Eb7_1 := Exa.wr W39 f36_Eb7_1
  have f39_Vb7_2 := Arv.other f36_Vb7_2 W39 ne_b7_2_b11
  have f39_Eb7_2 := Exa.wr W39 f36_Eb7_2
  have f39_Eb9 := Exa.wr W39 f36_Eb9
  have f39_Vb9 := Arv.other V36 W39 ne_b9_b11
  have f39_Eb11 := Exa.wr W39 f36_Eb11
  have f39_Eb13 := Exa.wr W39 f36_Eb13
  have f39_Vb13 := Arv.other f36_Vb13 W39 (Ne.symm ne_b11_b13)
  have N39 := Fr.snoc X39 N36 g_b11
  have SZ39 : n0 ≤ h39.size := Nat.le_trans SZ36 (Keep.of_wr W39).1
  have K39 := Keep.wr K36 W39 (Or.inr sz_b11)
  refine Gz.aloadN 153 X39 hx (dd d1_152) rfl rfl rfl ?_
  refine Gz.getF 156 X39 hx hZ hown (dd d1_153) (host := "") (Or.inl (ww hw 33 rfl)) Via.refl e39 f39_F_startOf_a0 rfl fun T40 X40 e40 => ?_
  refine Gz.iload 158 X40 hx (dd d1_156) rfl rfl ?_
  refine Gz.iload 160 X40 hx (dd d1_158) rfl rfl ?_
  obtain ⟨c41, A41, q41, S41, N41, H41, G41⟩ := id f39_Vb13
  have hin41 : ¬ ((1 : Int32) < 0 ∨ c41.slots.size ≤ ((1 : Int32)).toNatClampNeg) := inb_of S41 ⟨by decide, by decide⟩
  refine Gz.stI 161 X40 hx hZ (dd d1_160) e40 A41 hin41 rfl fun T42 h42 X42 e42 W42 => ?_
  have V42 := Arv.set A41 q41 S41 N41 H41 G41 rfl W42 1 rfl (Nat.le_of_ble_eq_true rfl)
  replace V42 : Arv Z h42 b13 k13 .int (3 : Int32) [(.int (0 : Int32)), (.int ((0 : Int32) + (v0 * v1))), (.int (0 : Int32))] (.int (0 : Int32)) := V42
  have f42_E_a0 := Exa.wr W42 f39_E_a0
  have f42_F_valueCounts_a0 := Fld.other W42 f39_F_valueCounts_a0 (Or.inl ne_a0_b13)
  have f42_F_start_a0 := Fld.other W42 f39_F_start_a0 (Or.inl ne_a0_b13)
  have f42_F_firstOf_a0 := Fld.other W42 f39_F_firstOf_a0 (Or.inl ne_a0_b13)
  have f42_F_secondOf_a0 := Fld.other W42 f39_F_secondOf_a0 (Or.inl ne_a0_b13)
  have f42_F_startOf_a0 := Fld.other W42 f39_F_startOf_a0 (Or.inl ne_a0_b13)
  have f42_F_count_a0 := Fld.other W42 f39_F_count_a0 (Or.inl ne_a0_b13)
  have f42_V_a1 := Arv.other f39_V_a1 W42 ne_a1_b13
  have f42_E_a1 := Exa.wr W42 f39_E_a1
  have f42_Eb4 := Exa.wr W42 f39_Eb4
  have f42_Vb4 := Arv.other f39_Vb4 W42 ne_b4_b13
  have f42_Eb7 := Exa.wr W42 f39_Eb7
  have f42_Vb7 := Arv.other f39_Vb7 W42 ne_b7_b13
  have f42_Vb7_0 := Arv.other f39_Vb7_0 W42 ne_b7_0_b13
  have f42_Eb7_0 := Exa.wr W42 f39_Eb7_0
  have f42_Vb7_1 := Arv.other f39_Vb7_1 W42 ne_b7_1_b13
  have f42_Eb7_1 := Exa.wr W42 f39_Eb7_1
  have f42_Vb7_2 := Arv.other f39_Vb7_2 W42 ne_b7_2_b13
  have f42_Eb7_2 := Exa.wr W42 f39_Eb7_2
  have f42_Eb9 := Exa.wr W42 f39_Eb9
  have f42_Vb9 := Arv.other f39_Vb9 W42 ne_b9_b13
  have f42_Eb11 := Exa.wr W42 f39_Eb11
  have f42_Vb11 := Arv.other V39 W42 ne_b11_b13
  have f42_Eb13 := Exa.wr W42 f39_Eb13
  have N42 := Fr.snoc X42 N39 g_b13
  have SZ42 : n0 ≤ h42.size := Nat.le_trans SZ39 (Keep.of_wr W42).1
  have K42 := Keep.wr K39 W42 (Or.inr sz_b13)
  refine Gz.iinc 164 #[.val (.ref a0), .val (.ref a1), .val (.long (fC3 a1 v0 v1 v2)), .second, .val (.int (3 : Int32)), .val (.int (3 : Int32)), .val (.int ((0 : Int32) + (v0 * v1))), .val (.int (2 : Int32)), .val (.int (0 : Int32)), .val (.int (2 : Int32))] X42 hx (dd d1_161) rfl rfl rfl ?_
  refine Gz.iload 166 X42 hx (dd d1_164) rfl rfl ?_
  refine Gz.aloadN 167 X42 hx (dd d1_166) rfl rfl rfl ?_
  refine Gz.iload 169 X42 hx (dd d1_167) rfl rfl ?_
  obtain ⟨c43, A43, q43, S43, N43, H43, G43⟩ := id f42_V_a1
  have hin43 : ¬ ((0 : Int32) < 0 ∨ c43.slots.size ≤ ((0 : Int32)).toNatClampNeg) := inb_of S43 ⟨by decide, by decide⟩
  refine Gz.ldI 170 X42 hx hZ (dd d1_169) e42 A43 hin43 (Has.at H43 hin43 (rfl : _ = ((.int v0) : Value))) rfl ?_
  refine Gz.aloadN 171 X42 hx (dd d1_170) rfl rfl rfl ?_
  refine Gz.iload 173 X42 hx (dd d1_171) rfl rfl ?_
  obtain ⟨c44, A44, q44, S44, N44, H44, G44⟩ := id f42_V_a1
  have hin44 : ¬ ((2 : Int32) < 0 ∨ c44.slots.size ≤ ((2 : Int32)).toNatClampNeg) := inb_of S44 ⟨by decide, by decide⟩
  refine Gz.ldI 174 X42 hx hZ (dd d1_173) e42 A44 hin44 (Has.at H44 hin44 (rfl : _ = ((.int v2) : Value))) rfl ?_
  refine Gz.imul 175 X42 hx (dd d1_174) rfl ?_
  refine Gz.iadd 176 X42 hx (dd d1_175) rfl ?_
  refine Gz.istore 178 #[.val (.ref a0), .val (.ref a1), .val (.long (fC3 a1 v0 v1 v2)), .second, .val (.int (3 : Int32)), .val (.int (3 : Int32)), .val (.int (((0 : Int32) + (v0 * v1)) + (v0 * v2))), .val (.int (2 : Int32)), .val (.int (0 : Int32)), .val (.int (2 : Int32))] X42 hx (dd d1_176) rfl rfl ?_
  refine Gz.iinc 181 #[.val (.ref a0), .val (.ref a1), .val (.long (fC3 a1 v0 v1 v2)), .second, .val (.int (3 : Int32)), .val (.int (3 : Int32)), .val (.int (((0 : Int32) + (v0 * v1)) + (v0 * v2))), .val (.int (2 : Int32)), .val (.int (0 : Int32)), .val (.int (3 : Int32))] X42 hx (dd d1_178) rfl rfl rfl ?_
  refine Gz.goto 115 X42 hx (dd d1_181) (by decide) (by decide) ?_
  refine Gz.iload 117 X42 hx (dd d1_115) rfl rfl ?_
  refine Gz.iload 119 X42 hx (dd d1_117) rfl rfl ?_
  refine Gz.icmpYes 184 X42 hx (dd d1_119) (flt (by decide : ¬ ((3 : Int32) < (3 : Int32)))).2.1 (by decide) (by decide) ?_
  refine Gz.iinc 187 #[.val (.ref a0), .val (.ref a1), .val (.long (fC3 a1 v0 v1 v2)), .second, .val (.int (3 : Int32)), .val (.int (3 : Int32)), .val (.int (((0 : Int32) + (v0 * v1)) + (v0 * v2))), .val (.int (2 : Int32)), .val (.int (1 : Int32)), .val (.int (3 : Int32))] X42 hx (dd d1_184) rfl rfl rfl ?_
  refine Gz.goto 102 X42 hx (dd d1_187) (by decide) (by decide) ?_
  refine Gz.iload 104 X42 hx (dd d1_102) rfl rfl ?_
  refine Gz.iload 106 X42 hx (dd d1_104) rfl rfl ?_
  refine Gz.icmpNo 109 X42 hx (dd d1_106) (tlt (by decide : (1 : Int32) < (3 : Int32))).2.1 rfl ?_
  refine Gz.iload 111 X42 hx (dd d1_109) rfl rfl ?_
  refine Gz.iconst 112 (1 : Int32) X42 hx (dd d1_111) rfl rfl ?_
  refine Gz.iaddV 113 (2 : Int32) X42 hx (dd d1_112) rfl rfl ?_
  refine Gz.istore 115 #[.val (.ref a0), .val (.ref a1), .val (.long (fC3 a1 v0 v1 v2)), .second, .val (.int (3 : Int32)), .val (.int (3 : Int32)), .val (.int (((0 : Int32) + (v0 * v1)) + (v0 * v2))), .val (.int (2 : Int32)), .val (.int (1 : Int32)), .val (.int (2 : Int32))] X42 hx (dd d1_113) rfl rfl ?_
  refine Gz.iload 117 X42 hx (dd d1_115) rfl rfl ?_
  refine Gz.iload 119 X42 hx (dd d1_117) rfl rfl ?_
  refine Gz.icmpNo 122 X42 hx (dd d1_119) (tlt (by decide : (2 : Int32) < (3 : Int32))).2.1 rfl ?_
  refine Gz.aloadN 123 X42 hx (dd d1_122) rfl rfl rfl ?_
  refine Gz.getF 126 X42 hx hZ hown (dd d1_123) (host := "") (Or.inl (ww hw 27 rfl)) Via.refl e42 f42_F_start_a0 rfl fun T45 X45 e45 => ?_
  refine Gz.iload 128 X45 hx (dd d1_126) rfl rfl ?_
  obtain ⟨c46, A46, q46, S46, N46, H46, G46⟩ := id f42_Vb7
  have hin46 : ¬ ((1 : Int32) < 0 ∨ c46.slots.size ≤ ((1 : Int32)).toNatClampNeg) := inb_of S46 ⟨by decide, by decide⟩
  refine Gz.ldA 129 X45 hx hZ rfl (dd d1_128) e45 A46 hin46 (Has.at H46 hin46 (rfl : _ = ((.ref b7_1) : Value))) rfl ?_
  refine Gz.iload 131 X45 hx (dd d1_129) rfl rfl ?_
  refine Gz.iload 133 X45 hx (dd d1_131) rfl rfl ?_
  obtain ⟨c47, A47, q47, S47, N47, H47, G47⟩ := id f42_Vb7_1
  have hin47 : ¬ ((2 : Int32) < 0 ∨ c47.slots.size ≤ ((2 : Int32)).toNatClampNeg) := inb_of S47 ⟨by decide, by decide⟩
  refine Gz.stI 134 X45 hx hZ (dd d1_133) e45 A47 hin47 rfl fun T48 h48 X48 e48 W48 => ?_
  have V48 := Arv.set A47 q47 S47 N47 H47 G47 rfl W48 2 rfl (Nat.le_of_ble_eq_true rfl)
  replace V48 : Arv Z h48 b7_1 kr7 .int (3 : Int32) [(.int (0 : Int32)), (.int (0 : Int32)), (.int (((0 : Int32) + (v0 * v1)) + (v0 * v2)))] (.int (0 : Int32)) := V48
  have f48_E_a0 := Exa.wr W48 f42_E_a0
  have f48_F_valueCounts_a0 := Fld.other W48 f42_F_valueCounts_a0 (Or.inl ne_a0_b7_1)
  have f48_F_start_a0 := Fld.other W48 f42_F_start_a0 (Or.inl ne_a0_b7_1)
  have f48_F_firstOf_a0 := Fld.other W48 f42_F_firstOf_a0 (Or.inl ne_a0_b7_1)
  have f48_F_secondOf_a0 := Fld.other W48 f42_F_secondOf_a0 (Or.inl ne_a0_b7_1)
  have f48_F_startOf_a0 := Fld.other W48 f42_F_startOf_a0 (Or.inl ne_a0_b7_1)
  have f48_F_count_a0 := Fld.other W48 f42_F_count_a0 (Or.inl ne_a0_b7_1)
  have f48_V_a1 := Arv.other f42_V_a1 W48 ne_a1_b7_1
  have f48_E_a1 := Exa.wr W48 f42_E_a1
  have f48_Eb4 := Exa.wr W48 f42_Eb4
  have f48_Vb4 := Arv.other f42_Vb4 W48 ne_b4_b7_1
  have f48_Eb7 := Exa.wr W48 f42_Eb7
  have f48_Vb7 := Arv.other f42_Vb7 W48 ne_b7_b7_1
  have f48_Vb7_0 := Arv.other f42_Vb7_0 W48 ne_b7_0_b7_1
  have f48_Eb7_0 := Exa.wr W48 f42_Eb7_0
  have f48_Eb7_1 := Exa.wr W48 f42_Eb7_1
  have f48_Vb7_2 := Arv.other f42_Vb7_2 W48 (Ne.symm ne_b7_1_b7_2)
  have f48_Eb7_2 := Exa.wr W48 f42_Eb7_2
  have f48_Eb9 := Exa.wr W48 f42_Eb9
  have f48_Vb9 := Arv.other f42_Vb9 W48 (Ne.symm ne_b7_1_b9)
  have f48_Eb11 := Exa.wr W48 f42_Eb11
  have f48_Vb11 := Arv.other f42_Vb11 W48 (Ne.symm ne_b7_1_b11)
  have f48_Eb13 := Exa.wr W48 f42_Eb13
  have f48_Vb13 := Arv.other V42 W48 (Ne.symm ne_b7_1_b13)
  have N48 := Fr.snoc X48 N42 g_b7_1
  have SZ48 : n0 ≤ h48.size := Nat.le_trans SZ42 (Keep.of_wr W48).1
  have K48 := Keep.wr K42 W48 (Or.inr sz_b7_1)
  refine Gz.aloadN 135 X48 hx (dd d1_134) rfl rfl rfl ?_
  refine Gz.getF 138 X48 hx hZ hown (dd d1_135) (host := "") (Or.inl (ww hw 29 rfl)) Via.refl e48 f48_F_firstOf_a0 rfl fun T49 X49 e49 => ?_
  refine Gz.iload 140 X49 hx (dd d1_138) rfl rfl ?_
  refine Gz.iload 142 X49 hx (dd d1_140) rfl rfl ?_
  obtain ⟨c50, A50, q50, S50, N50, H50, G50⟩ := id f48_Vb9
  have hin50 : ¬ ((2 : Int32) < 0 ∨ c50.slots.size ≤ ((2 : Int32)).toNatClampNeg) := inb_of S50 ⟨by decide, by decide⟩
  refine Gz.stI 143 X49 hx hZ (dd d1_142) e49 A50 hin50 rfl fun T51 h51 X51 e51 W51 => ?_
  have V51 := Arv.set A50 q50 S50 N50 H50 G50 rfl W51 2 rfl (Nat.le_of_ble_eq_true rfl)
  replace V51 : Arv Z h51 b9 k9 .int (3 : Int32) [(.int (0 : Int32)), (.int (0 : Int32)), (.int (1 : Int32))] (.int (0 : Int32)) := V51
  have f51_E_a0 := Exa.wr W51 f48_E_a0
  have f51_F_valueCounts_a0 := Fld.other W51 f48_F_valueCounts_a0 (Or.inl ne_a0_b9)
  have f51_F_start_a0 := Fld.other W51 f48_F_start_a0 (Or.inl ne_a0_b9)
  have f51_F_firstOf_a0 := Fld.other W51 f48_F_firstOf_a0 (Or.inl ne_a0_b9)
  have f51_F_secondOf_a0 := Fld.other W51 f48_F_secondOf_a0 (Or.inl ne_a0_b9)
  have f51_F_startOf_a0 := Fld.other W51 f48_F_startOf_a0 (Or.inl ne_a0_b9)
  have f51_F_count_a0 := Fld.other W51 f48_F_count_a0 (Or.inl ne_a0_b9)
  have f51_V_a1 := Arv.other f48_V_a1 W51 ne_a1_b9
  have f51_E_a1 := Exa.wr W51 f48_E_a1
  have f51_Eb4 := Exa.wr W51 f48_Eb4
  have f51_Vb4 := Arv.other f48_Vb4 W51 ne_b4_b9
  have f51_Eb7 := Exa.wr W51 f48_Eb7
  have f51_Vb7 := Arv.other f48_Vb7 W51 ne_b7_b9
  have f51_Vb7_0 := Arv.other f48_Vb7_0 W51 ne_b7_0_b9
  have f51_Eb7_0 := Exa.wr W51 f48_Eb7_0
  have f51_Vb7_1 := Arv.other V48 W51 ne_b7_1_b9
  have f51_Eb7_1 := Exa.wr W51 f48_Eb7_1
  have f51_Vb7_2 := Arv.other f48_Vb7_2 W51 ne_b7_2_b9
  have f51_Eb7_2 := Exa.wr W51 f48_Eb7_2
  have f51_Eb9 := Exa.wr W51 f48_Eb9
  have f51_Eb11 := Exa.wr W51 f48_Eb11
  have f51_Vb11 := Arv.other f48_Vb11 W51 (Ne.symm ne_b9_b11)
  have f51_Eb13 := Exa.wr W51 f48_Eb13
  have f51_Vb13 := Arv.other f48_Vb13 W51 (Ne.symm ne_b9_b13)
  have N51 := Fr.snoc X51 N48 g_b9
  have SZ51 : n0 ≤ h51.size := Nat.le_trans SZ48 (Keep.of_wr W51).1
  have K51 := Keep.wr K48 W51 (Or.inr sz_b9)
  refine Gz.aloadN 144 X51 hx (dd d1_143) rfl rfl rfl ?_
  refine Gz.getF 147 X51 hx hZ hown (dd d1_144) (host := "") (Or.inl (ww hw 31 rfl)) Via.refl e51 f51_F_secondOf_a0 rfl fun T52 X52 e52 => ?_
  refine Gz.iload 149 X52 hx (dd d1_147) rfl rfl ?_
  refine Gz.iload 151 X52 hx (dd d1_149) rfl rfl ?_
  obtain ⟨c53, A53, q53, S53, N53, H53, G53⟩ := id f51_Vb11
  have hin53 : ¬ ((2 : Int32) < 0 ∨ c53.slots.size ≤ ((2 : Int32)).toNatClampNeg) := inb_of S53 ⟨by decide, by decide⟩
  refine Gz.stI 152 X52 hx hZ (dd d1_151) e52 A53 hin53 rfl fun T54 h54 X54 e54 W54 => ?_
  have V54 := Arv.set A53 q53 S53 N53 H53 G53 rfl W54 2 rfl (Nat.le_of_ble_eq_true rfl)
  replace V54 : Arv Z h54 b11 k11 .int (3 : Int32) [(.int (1 : Int32)), (.int (2 : Int32)), (.int (2 : Int32))] (.int (0 : Int32)) := V54
  have f54_E_a0 := Exa.wr W54 f51_E_a0
  have f54_F_valueCounts_a0 := Fld.other W54 f51_F_valueCounts_a0 (Or.inl ne_a0_b11)
  have f54_F_start_a0 := Fld.other W54 f51_F_start_a0 (Or.inl ne_a0_b11)
  have f54_F_firstOf_a0 := Fld.other W54 f51_F_firstOf_a0 (Or.inl ne_a0_b11)
  have f54_F_secondOf_a0 := Fld.other W54 f51_F_secondOf_a0 (Or.inl ne_a0_b11)
  have f54_F_startOf_a0 := Fld.other W54 f51_F_startOf_a0 (Or.inl ne_a0_b11)
  have f54_F_count_a0 := Fld.other W54 f51_F_count_a0 (Or.inl ne_a0_b11)
  have f54_V_a1 := Arv.other f51_V_a1 W54 ne_a1_b11
  have f54_E_a1 := Exa.wr W54 f51_E_a1
  have f54_Eb4 := Exa.wr W54 f51_Eb4
  have f54_Vb4 := Arv.other f51_Vb4 W54 ne_b4_b11
  have f54_Eb7 := Exa.wr W54 f51_Eb7
  have f54_Vb7 := Arv.other f51_Vb7 W54 ne_b7_b11
  have f54_Vb7_0 := Arv.other f51_Vb7_0 W54 ne_b7_0_b11
  have f54_Eb7_0 := Exa.wr W54 f51_Eb7_0
  have f54_Vb7_1 := Arv.other f51_Vb7_1 W54 ne_b7_1_b11
  have f54_Eb7_1 := Exa.wr W54 f51_Eb7_1
  have f54_Vb7_2 := Arv.other f51_Vb7_2 W54 ne_b7_2_b11
  have f54_Eb7_2 := Exa.wr W54 f51_Eb7_2
  have f54_Eb9 := Exa.wr W54 f51_Eb9
  have f54_Vb9 := Arv.other V51 W54 ne_b9_b11
  have f54_Eb11 := Exa.wr W54 f51_Eb11
  have f54_Eb13 := Exa.wr W54 f51_Eb13
  have f54_Vb13 := Arv.other f51_Vb13 W54 (Ne.symm ne_b11_b13)
  have N54 := Fr.snoc X54 N51 g_b11
  have SZ54 : n0 ≤ h54.size := Nat.le_trans SZ51 (Keep.of_wr W54).1
  have K54 := Keep.wr K51 W54 (Or.inr sz_b11)
  refine Gz.aloadN 153 X54 hx (dd d1_152) rfl rfl rfl ?_
  refine Gz.getF 156 X54 hx hZ hown (dd d1_153) (host := "") (Or.inl (ww hw 33 rfl)) Via.refl e54 f54_F_startOf_a0 rfl fun T55 X55 e55 => ?_
  refine Gz.iload 158 X55 hx (dd d1_156) rfl rfl ?_
  refine Gz.iload 160 X55 hx (dd d1_158) rfl rfl ?_
  obtain ⟨c56, A56, q56, S56, N56, H56, G56⟩ := id f54_Vb13
  have hin56 : ¬ ((2 : Int32) < 0 ∨ c56.slots.size ≤ ((2 : Int32)).toNatClampNeg) := inb_of S56 ⟨by decide, by decide⟩
  refine Gz.stI 161 X55 hx hZ (dd d1_160) e55 A56 hin56 rfl fun T57 h57 X57 e57 W57 => ?_
  have V57 := Arv.set A56 q56 S56 N56 H56 G56 rfl W57 2 rfl (Nat.le_of_ble_eq_true rfl)
  replace V57 : Arv Z h57 b13 k13 .int (3 : Int32) [(.int (0 : Int32)), (.int ((0 : Int32) + (v0 * v1))), (.int (((0 : Int32) + (v0 * v1)) + (v0 * v2)))] (.int (0 : Int32)) := V57
  have f57_E_a0 := Exa.wr W57 f54_E_a0
  have f57_F_valueCounts_a0 := Fld.other W57 f54_F_valueCounts_a0 (Or.inl ne_a0_b13)
  have f57_F_start_a0 := Fld.other W57 f54_F_start_a0 (Or.inl ne_a0_b13)
  have f57_F_firstOf_a0 := Fld.other W57 f54_F_firstOf_a0 (Or.inl ne_a0_b13)
  have f57_F_secondOf_a0 := Fld.other W57 f54_F_secondOf_a0 (Or.inl ne_a0_b13)
  have f57_F_startOf_a0 := Fld.other W57 f54_F_startOf_a0 (Or.inl ne_a0_b13)
  have f57_F_count_a0 := Fld.other W57 f54_F_count_a0 (Or.inl ne_a0_b13)
  have f57_V_a1 := Arv.other f54_V_a1 W57 ne_a1_b13
  have f57_E_a1 := Exa.wr W57 f54_E_a1
  have f57_Eb4 := Exa.wr W57 f54_Eb4
  have f57_Vb4 := Arv.other f54_Vb4 W57 ne_b4_b13
  have f57_Eb7 := Exa.wr W57 f54_Eb7
  have f57_Vb7 := Arv.other f54_Vb7 W57 ne_b7_b13
  have f57_Vb7_0 := Arv.other f54_Vb7_0 W57 ne_b7_0_b13
  have f57_Eb7_0 := Exa.wr W57 f54_Eb7_0
  have f57_Vb7_1 := Arv.other f54_Vb7_1 W57 ne_b7_1_b13
  have f57_Eb7_1 := Exa.wr W57 f54_Eb7_1
  have f57_Vb7_2 := Arv.other f54_Vb7_2 W57 ne_b7_2_b13
  have f57_Eb7_2 := Exa.wr W57 f54_Eb7_2
  have f57_Eb9 := Exa.wr W57 f54_Eb9
  have f57_Vb9 := Arv.other f54_Vb9 W57 ne_b9_b13
  have f57_Eb11 := Exa.wr W57 f54_Eb11
  have f57_Vb11 := Arv.other V54 W57 ne_b11_b13
  have f57_Eb13 := Exa.wr W57 f54_Eb13
  have N57 := Fr.snoc X57 N54 g_b13
  have SZ57 : n0 ≤ h57.size := Nat.le_trans SZ54 (Keep.of_wr W57).1
  have K57 := Keep.wr K54 W57 (Or.inr sz_b13)
  refine Gz.iinc 164 #[.val (.ref a0), .val (.ref a1), .val (.long (fC3 a1 v0 v1 v2)), .second, .val (.int (3 : Int32)), .val (.int (3 : Int32)), .val (.int (((0 : Int32) + (v0 * v1)) + (v0 * v2))), .val (.int (3 : Int32)), .val (.int (1 : Int32)), .val (.int (2 : Int32))] X57 hx (dd d1_161) rfl rfl rfl ?_
  refine Gz.iload 166 X57 hx (dd d1_164) rfl rfl ?_
  refine Gz.aloadN 167 X57 hx (dd d1_166) rfl rfl rfl ?_
  refine Gz.iload 169 X57 hx (dd d1_167) rfl rfl ?_
  obtain ⟨c58, A58, q58, S58, N58, H58, G58⟩ := id f57_V_a1
  have hin58 : ¬ ((1 : Int32) < 0 ∨ c58.slots.size ≤ ((1 : Int32)).toNatClampNeg) := inb_of S58 ⟨by decide, by decide⟩
  refine Gz.ldI 170 X57 hx hZ (dd d1_169) e57 A58 hin58 (Has.at H58 hin58 (rfl : _ = ((.int v1) : Value))) rfl ?_
  refine Gz.aloadN 171 X57 hx (dd d1_170) rfl rfl rfl ?_
  refine Gz.iload 173 X57 hx (dd d1_171) rfl rfl ?_
  obtain ⟨c59, A59, q59, S59, N59, H59, G59⟩ := id f57_V_a1
  have hin59 : ¬ ((2 : Int32) < 0 ∨ c59.slots.size ≤ ((2 : Int32)).toNatClampNeg) := inb_of S59 ⟨by decide, by decide⟩
  refine Gz.ldI 174 X57 hx hZ (dd d1_173) e57 A59 hin59 (Has.at H59 hin59 (rfl : _ = ((.int v2) : Value))) rfl ?_
  refine Gz.imul 175 X57 hx (dd d1_174) rfl ?_
  refine Gz.iadd 176 X57 hx (dd d1_175) rfl ?_
  refine Gz.istore 178 #[.val (.ref a0), .val (.ref a1), .val (.long (fC3 a1 v0 v1 v2)), .second, .val (.int (3 : Int32)), .val (.int (3 : Int32)), .val (.int ((((0 : Int32) + (v0 * v1)) + (v0 * v2)) + (v1 * v2))), .val (.int (3 : Int32)), .val (.int (1 : Int32)), .val (.int (2 : Int32))] X57 hx (dd d1_176) rfl rfl ?_
  refine Gz.iinc 181 #[.val (.ref a0), .val (.ref a1), .val (.long (fC3 a1 v0 v1 v2)), .second, .val (.int (3 : Int32)), .val (.int (3 : Int32)), .val (.int ((((0 : Int32) + (v0 * v1)) + (v0 * v2)) + (v1 * v2))), .val (.int (3 : Int32)), .val (.int (1 : Int32)), .val (.int (3 : Int32))] X57 hx (dd d1_178) rfl rfl rfl ?_
  refine Gz.goto 115 X57 hx (dd d1_181) (by decide) (by decide) ?_
  refine Gz.iload 117 X57 hx (dd d1_115) rfl rfl ?_
  refine Gz.iload 119 X57 hx (dd d1_117) rfl rfl ?_
  refine Gz.icmpYes 184 X57 hx (dd d1_119) (flt (by decide : ¬ ((3 : Int32) < (3 : Int32)))).2.1 (by decide) (by decide) ?_
  refine Gz.iinc 187 #[.val (.ref a0), .val (.ref a1), .val (.long (fC3 a1 v0 v1 v2)), .second, .val (.int (3 : Int32)), .val (.int (3 : Int32)), .val (.int ((((0 : Int32) + (v0 * v1)) + (v0 * v2)) + (v1 * v2))), .val (.int (3 : Int32)), .val (.int (2 : Int32)), .val (.int (3 : Int32))] X57 hx (dd d1_184) rfl rfl rfl ?_
  refine Gz.goto 102 X57 hx (dd d1_187) (by decide) (by decide) ?_
  refine Gz.iload 104 X57 hx (dd d1_102) rfl rfl ?_
  refine Gz.iload 106 X57 hx (dd d1_104) rfl rfl ?_
  refine Gz.icmpNo 109 X57 hx (dd d1_106) (tlt (by decide : (2 : Int32) < (3 : Int32))).2.1 rfl ?_
  refine Gz.iload 111 X57 hx (dd d1_109) rfl rfl ?_
  refine Gz.iconst 112 (1 : Int32) X57 hx (dd d1_111) rfl rfl ?_
  refine Gz.iaddV 113 (3 : Int32) X57 hx (dd d1_112) rfl rfl ?_
  refine Gz.istore 115 #[.val (.ref a0), .val (.ref a1), .val (.long (fC3 a1 v0 v1 v2)), .second, .val (.int (3 : Int32)), .val (.int (3 : Int32)), .val (.int ((((0 : Int32) + (v0 * v1)) + (v0 * v2)) + (v1 * v2))), .val (.int (3 : Int32)), .val (.int (2 : Int32)), .val (.int (3 : Int32))] X57 hx (dd d1_113) rfl rfl ?_
  refine Gz.iload 117 X57 hx (dd d1_115) rfl rfl ?_
  refine Gz.iload 119 X57 hx (dd d1_117) rfl rfl ?_
  refine Gz.icmpYes 184 X57 hx (dd d1_119) (flt (by decide : ¬ ((3 : Int32) < (3 : Int32)))).2.1 (by decide) (by decide) ?_
  refine Gz.iinc 187 #[.val (.ref a0), .val (.ref a1), .val (.long (fC3 a1 v0 v1 v2)), .second, .val (.int (3 : Int32)), .val (.int (3 : Int32)), .val (.int ((((0 : Int32) + (v0 * v1)) + (v0 * v2)) + (v1 * v2))), .val (.int (3 : Int32)), .val (.int (3 : Int32)), .val (.int (3 : Int32))] X57 hx (dd d1_184) rfl rfl rfl ?_
  refine Gz.goto 102 X57 hx (dd d1_187) (by decide) (by decide) ?_
  refine Gz.iload 104 X57 hx (dd d1_102) rfl rfl ?_
  refine Gz.iload 106 X57 hx (dd d1_104) rfl rfl ?_
  refine Gz.icmpYes 190 X57 hx (dd d1_106) (flt (by decide : ¬ ((3 : Int32) < (3 : Int32)))).2.1 (by decide) (by decide) ?_
  refine Gz.aloadN 191 X57 hx (dd d1_190) rfl rfl rfl ?_
  refine Gz.iload 193 X57 hx (dd d1_191) rfl rfl ?_
  refine Gz.putF 196 X57 hx hZ hown .int (dd d1_193) (host := "") (Or.inl (ww hw 35 rfl)) Via.refl e57 f57_F_count_a0 f57_E_a0 (Or.inr ⟨(ww hw 36 rfl), rfl, hnm⟩) (ww hw 2 rfl) (by decide) rfl rfl rfl fun T60 h60 X60 e60 W60 => ?_
  have f60_E_a0 := Exa.wr W60 f57_E_a0
  have f60_F_valueCounts_a0 := Fld.other W60 f57_F_valueCounts_a0 (Or.inr (slot_ne (Or.inr (ww hw 24 rfl)) (Or.inr (ww hw 36 rfl)) (by decide) (t := (.array .int)) (t' := .int) (by decide) (by decide)))
  have f60_F_start_a0 := Fld.other W60 f57_F_start_a0 (Or.inr (slot_ne (Or.inr (ww hw 28 rfl)) (Or.inr (ww hw 36 rfl)) (by decide) (t := (.array (.array .int))) (t' := .int) (by decide) (by decide)))
  have f60_F_firstOf_a0 := Fld.other W60 f57_F_firstOf_a0 (Or.inr (slot_ne (Or.inr (ww hw 30 rfl)) (Or.inr (ww hw 36 rfl)) (by decide) (t := (.array .int)) (t' := .int) (by decide) (by decide)))
  have f60_F_secondOf_a0 := Fld.other W60 f57_F_secondOf_a0 (Or.inr (slot_ne (Or.inr (ww hw 32 rfl)) (Or.inr (ww hw 36 rfl)) (by decide) (t := (.array .int)) (t' := .int) (by decide) (by decide)))
  have f60_F_startOf_a0 := Fld.other W60 f57_F_startOf_a0 (Or.inr (slot_ne (Or.inr (ww hw 34 rfl)) (Or.inr (ww hw 36 rfl)) (by decide) (t := (.array .int)) (t' := .int) (by decide) (by decide)))
  have f60_V_a1 := Arv.other f57_V_a1 W60 ne_a1_a0
  have f60_E_a1 := Exa.wr W60 f57_E_a1
  have f60_Eb4 := Exa.wr W60 f57_Eb4
  have f60_Vb4 := Arv.other f57_Vb4 W60 (Ne.symm ne_a0_b4)
  have f60_Eb7 := Exa.wr W60 f57_Eb7
  have f60_Vb7 := Arv.other f57_Vb7 W60 (Ne.symm ne_a0_b7)
  have f60_Vb7_0 := Arv.other f57_Vb7_0 W60 (Ne.symm ne_a0_b7_0)
  have f60_Eb7_0 := Exa.wr W60 f57_Eb7_0
  have f60_Vb7_1 := Arv.other f57_Vb7_1 W60 (Ne.symm ne_a0_b7_1)
  have f60_Eb7_1 := Exa.wr W60 f57_Eb7_1
  have f60_Vb7_2 := Arv.other f57_Vb7_2 W60 (Ne.symm ne_a0_b7_2)
  have f60_Eb7_2 := Exa.wr W60 f57_Eb7_2
  have f60_Eb9 := Exa.wr W60 f57_Eb9
  have f60_Vb9 := Arv.other f57_Vb9 W60 (Ne.symm ne_a0_b9)
  have f60_Eb11 := Exa.wr W60 f57_Eb11
  have f60_Vb11 := Arv.other f57_Vb11 W60 (Ne.symm ne_a0_b11)
  have f60_Eb13 := Exa.wr W60 f57_Eb13
  have f60_Vb13 := Arv.other V57 W60 (Ne.symm ne_a0_b13)
  have f60_F_count_a0 := Fld.same W60 f57_F_count_a0
  have N60 := Fr.snoc X60 N57 g_a0
  have SZ60 : n0 ≤ h60.size := Nat.le_trans SZ57 (Keep.of_wr W60).1
  have K60 := Keep.wr K57 W60 (Or.inl (List.mem_of_getElem? (i := 0) rfl))
  refine Gz.fin X60 (v := none) (fun _ => rfl) hlk (by decide) (by decide) (fun fs hr => X60.returnOut hx hret (dd d1_196) hr) ?_
  rw [e60]
  exact ⟨rfl, N60, K60, f60_E_a0, b4, k_a1, sz_b4, f60_F_valueCounts_a0, f60_Vb4⟩
theorem own_and3 (x : Int32) : (x &&& (3 : Int32)) = (0 : Int32) ∨ (x &&& (3 : Int32)) = (1 : Int32) ∨ (x &&& (3 : Int32)) = (2 : Int32) ∨ (x &&& (3 : Int32)) = (3 : Int32) := by
  have hm := c_mask x 3 2 (by decide) (by decide)
  obtain ⟨k, hk, e⟩ := own_nat (x &&& (3 : Int32)) 4 (by decide) (by rw [hm]; omega) (by rw [hm]; omega)
  rw [e]
  have : k = 0 ∨ k = 1 ∨ k = 2 ∨ k = 3 := by omega
  rcases this with rfl | rfl | rfl | rfl <;> decide
theorem own_b15 (x : Int32) : 0 ≤ ((x &&& (32767 : Int32)) + (1 : Int32)).toInt ∧ ((x &&& (32767 : Int32)) + (1 : Int32)).toInt ≤ 32768 := by
  have hm := c_mask x 32767 15 (by decide) (by decide)
  have ha := c_iadd (x &&& (32767 : Int32)) 1
  have hr := rng32 ((x &&& (32767 : Int32)) + (1 : Int32))
  have h1 : (1 : Int32).toInt = 1 := rfl
  omega
theorem own_b14 (x : Int32) : 0 ≤ ((x &&& (16383 : Int32)) + (1 : Int32)).toInt ∧ ((x &&& (16383 : Int32)) + (1 : Int32)).toInt ≤ 16384 := by
  have hm := c_mask x 16383 14 (by decide) (by decide)
  have ha := c_iadd (x &&& (16383 : Int32)) 1
  have hr := rng32 ((x &&& (16383 : Int32)) + (1 : Int32))
  have h1 : (1 : Int32).toInt = 1 := rfl
  omega
theorem own_cnt0 (a : Addr) : ¬ ((2147483639 : Int64) < fC0 a) := by unfold fC0; decide
theorem own_cnt1 (a : Addr) (v0 : Int32) : ¬ ((2147483639 : Int64) < fC1 a v0) := by
  unfold fC1
  rw [Int64.zero_mul, Int64.zero_add]
  decide
theorem own_pm {x y : Int64} {m n : Int} (hx : 0 ≤ x.toInt ∧ x.toInt ≤ m) (hy : 0 ≤ y.toInt ∧ y.toInt ≤ n) (hm : m ≤ 1048576) (hn : n ≤ 1048576) : 0 ≤ (x * y).toInt ∧ (x * y).toInt ≤ m * n ∧ m * n ≤ 1099511627776 := by
  have h0 : 0 ≤ x.toInt * y.toInt := Int.mul_nonneg hx.1 hy.1
  have h1 : x.toInt * y.toInt ≤ m * n := Int.mul_le_mul hx.2 hy.2 hy.1 (by omega)
  have h2 : m * n ≤ 1048576 * 1048576 := Int.mul_le_mul hm hn (by omega) (by omega)
  have e : (x * y).toInt = x.toInt * y.toInt := by
    rw [Int64.toInt_mul]
    exact Int.bmod_eq_of_le (by omega) (by omega)
  omega
theorem own_cnt2 (a : Addr) (v0 v1 : Int32) (h0 : 0 ≤ v0.toInt ∧ v0.toInt ≤ 32768) (h1 : 0 ≤ v1.toInt ∧ v1.toInt ≤ 32768) : ¬ ((2147483639 : Int64) < fC2 a v0 v1) := by
  unfold fC2
  rw [Int64.zero_mul, Int64.zero_add, Int64.zero_add, Int64.zero_add]
  have e0 := c_i2l v0
  have e1 := c_i2l v1
  have p := own_pm (x := v0.toInt64) (y := v1.toInt64) (m := 32768) (n := 32768) (by omega) (by omega) (by omega) (by omega)
  rw [Int64.lt_iff_toInt_lt, show (2147483639 : Int64).toInt = 2147483639 from rfl]
  omega
theorem own_cnt3 (a : Addr) (v0 v1 v2 : Int32) (h0 : 0 ≤ v0.toInt ∧ v0.toInt ≤ 16384) (h1 : 0 ≤ v1.toInt ∧ v1.toInt ≤ 16384) (h2 : 0 ≤ v2.toInt ∧ v2.toInt ≤ 16384) : ¬ ((2147483639 : Int64) < fC3 a v0 v1 v2) := by
  unfold fC3
  rw [Int64.zero_mul, Int64.zero_add, Int64.zero_add, Int64.zero_add]
  have e0 := c_i2l v0
  have e1 := c_i2l v1
  have e2 := c_i2l v2
  have p := own_pm (x := v0.toInt64) (y := v1.toInt64) (m := 16384) (n := 16384) (by omega) (by omega) (by omega) (by omega)
  have hs := c_ladd v0.toInt64 v1.toInt64
  have hr := rng64 (v0.toInt64 + v1.toInt64)
  have q := own_pm (x := v0.toInt64 + v1.toInt64) (y := v2.toInt64) (m := 32768) (n := 16384) (by omega) (by omega) (by omega) (by omega)
  have ht := c_ladd (v0.toInt64 * v1.toInt64) ((v0.toInt64 + v1.toInt64) * v2.toInt64)
  have hu := rng64 (v0.toInt64 * v1.toInt64 + (v0.toInt64 + v1.toInt64) * v2.toInt64)
  rw [Int64.lt_iff_toInt_lt, show (2147483639 : Int64).toInt = 2147483639 from rfl]
  omega
theorem pd_1 : parseMethodDescriptor "([I)V" = some ⟨[(.array .int)], none⟩ := by decide +kernel
theorem pd_2 : parseMethodDescriptor "()I" = some ⟨[], some .int⟩ := by decide +kernel
theorem pd_3 : parseMethodDescriptor "(II)I" = some ⟨[.int, .int], some .int⟩ := by decide +kernel
theorem pn_1 : plainName "com/example/minsuite/minsuite/ValuePairsAllValuesPinLaw" = true := by first | (simp [plainName, overriddenIn]; done) | decide +kernel
theorem ef_rm0 (m : MethodId) (p0 : Int32) (p1 : Int32) (p2 : Int32) (p3 : Int32) : entryFrame m #[(.int p0), (.int p1), (.int p2), (.int p3)] maxLocals = mkF m 0 #[.val (.int p0), .val (.int p1), .val (.int p2), .val (.int p3), .unset, .unset, .unset, .unset, .unset, .unset] [] := by first | (simp [entryFrame, mkF, argsToLocals, Value.category, maxLocals]; done) | rfl
def Q_law (n0 : Nat) (v : Option Value) (h : Heap) (L : List Loc) : Prop := v = some (.int 1) ∧ Fr n0 L
set_option maxRecDepth 65536 in
set_option maxHeartbeats 40000000 in
theorem rm0 (l : Launch) (Z : State) (av0 : Array Value) (hw : ∀ d ∈ tables_1, d.before av0 Z = true) (ws : List Jvm.Cond) (p0 : Int32) (p1 : Int32) (p2 : Int32) (p3 : Int32) (h0 : Heap) (n0 : Nat) (Z0 : n0 ≤ h0.size)  :
    MetFree l x (head1 (Jvm.Cond.code x code maxLocals ret :: ws) room_1) (fun a U => a = #[(.int p0), (.int p1), (.int p2), (.int p3)] ∧ Z.Warmed39 U.vm ∧ U.heap = h0) (fun _ _ _ _ _ => True) (fun _ U o U' => ∃ v L, o = .returned v ∧ Q_law n0 v U'.heap L ∧ FrameEnd U o U' L 32 192) := by
  refine MetFree.of_bodySF (plainFor_of_name pn_1) hisR ?_
  intro p e s m args below meth c s₁ Bd hml0 hP hK
  obtain ⟨rfl, hZ, hh⟩ := hP
  have hx := Bd.exec
  have hby := Bd.bytes
  have hml : c.maxLocals = 10 := hml0
  have dd : ∀ {pc : Nat} {r : Except DecodeError (Instr × Nat)}, decode code pc = r → decode c.code pc = r := fun q => hb hby q
  have hown : s.vm.findClass "com/example/minsuite/minsuite/ValuePairsAllValuesPinLaw" = some m.cls := findClass_of_methodNamed Bd.named
  have hnm := (name_of_methodNamed Bd.named Bd.method).1
  have X0 : Stand p l e room_1 s m #[(.int p0), (.int p1), (.int p2), (.int p3)] below meth c s₁ [] 0 0 := Stand.of_body Bd
  have e0 : s₁.heap = h0 := by rw [← hh, Bd.state]; rfl
  have N0 := Fr.nil n0
  have hret := Bd.returns
  have hlk := Bd.notSynchronized
  show Gz p e below s 32 192 (Q_law n0) (s₁.setTop (entryFrame m #[(.int p0), (.int p1), (.int p2), (.int p3)] maxLocals))
  refine Gz.enter (ef_rm0 m p0 p1 p2 p3) ?_
  refine Gz.iloadN 1 X0 hx (dd at_0) rfl rfl ?_
  refine Gz.iconst 2 (3 : Int32) X0 hx (dd at_1) rfl rfl ?_
  refine Gz.iand 3 X0 hx (dd at_2) rfl ?_
  show Gz p e below s _ _ _ (s₁.setTop (mkF m 3 #[.val (.int p0), .val (.int p1), .val (.int p2), .val (.int p3), .unset, .unset, .unset, .unset, .unset, .unset] [(.int (p0 &&& (3 : Int32)))]))
  rcases own_and3 p0 with hs1 | hs1 | hs1 | hs1
  · rw [hs1]
    refine Gz.istore 5 #[.val (.int p0), .val (.int p1), .val (.int p2), .val (.int p3), .val (.int (0 : Int32)), .unset, .unset, .unset, .unset, .unset] X0 hx (dd at_3) rfl rfl ?_
    refine Gz.iload 7 X0 hx (dd at_5) rfl rfl ?_
    refine Gz.ifNo 10 X0 hx (dd at_7) ((if0 _ _).trans (teq (by decide : (0 : Int32) = (0 : Int32))).2) rfl ?_
    refine Gz.iconst 11 (0 : Int32) X0 hx (dd at_10) rfl rfl ?_
    obtain ⟨T2, h2, k2, X2, e2, E2, A2, Q2, st2⟩ := newPE X0 hx hZ (ww hw 0 rfl) e0 (g := (mkF m 11 #[.val (.int p0), .val (.int p1), .val (.int p2), .val (.int p3), .val (.int (0 : Int32)), .unset, .unset, .unset, .unset, .unset] [(.int (0 : Int32))])) rfl (dd at_11) rfl (by decide) (cap := 0) (by decide) (by decide) (by decide) (by decide) (ad := "[I") rfl
    obtain ⟨b2, g2⟩ : ∃ z, z = h0.size := ⟨_, rfl⟩
    rw [← g2] at A2 Q2 st2
    have g_b2 : n0 ≤ b2 := Nat.le_trans Z0 (Nat.le_of_eq g2.symm)
    have SZ2 : n0 ≤ h2.size := Nat.le_trans Z0 E2.1
    have V2 : Arv Z h2 b2 k2 .int (0 : Int32) [] (.int (0 : Int32)) := (Arv.new A2 (by decide)).pad (pad_rep [] (.int (0 : Int32)) 0)
    refine Gz.st st2 ?_
    refine Gz.astore 15 #[.val (.int p0), .val (.int p1), .val (.int p2), .val (.int p3), .val (.int (0 : Int32)), .val (.ref b2), .unset, .unset, .unset, .unset] X2 hx (dd at_13) rfl rfl rfl ?_
    refine Gz.iconst 16 (0 : Int32) X2 hx (dd at_15) rfl rfl ?_
    refine Gz.istore 18 #[.val (.int p0), .val (.int p1), .val (.int p2), .val (.int p3), .val (.int (0 : Int32)), .val (.ref b2), .val (.int (0 : Int32)), .unset, .unset, .unset] X2 hx (dd at_16) rfl rfl ?_
    refine Gz.goto 160 X2 hx (dd at_18) (by decide) (by decide) ?_
    obtain ⟨T3, h3, X3, e3, E3, A3, D3, -, st3⟩ := newO X2 hx hZ hown (ww hw 1 rfl) (ww hw 2 rfl) (ww hw 3 rfl) e2 (g := (mkF m 160 #[.val (.int p0), .val (.int p1), .val (.int p2), .val (.int p3), .val (.int (0 : Int32)), .val (.ref b2), .val (.int (0 : Int32)), .unset, .unset, .unset] [])) rfl (dd at_160) (by decide) (by decide)
    obtain ⟨b3, g3⟩ : ∃ z, z = h2.size := ⟨_, rfl⟩
    rw [← g3] at A3 D3 st3
    have ne_b2_b3 : b2 ≠ b3 := Nat.ne_of_lt (Nat.lt_of_lt_of_le (Q2).lt (Nat.le_of_eq g3.symm))
    have g_b3 : n0 ≤ b3 := Nat.le_trans SZ2 (Nat.le_of_eq g3.symm)
    have SZ3 : n0 ≤ h3.size := Nat.le_trans SZ2 E3.1
    have f3_Eb2 := Exa.ext E3 Q2
    have f3_Vb2 := Arv.ext V2 E3
    have F_valueCounts_b3 : Fld Z h3 b3 "com/example/minsuite/minsuite/ValuePairs" "valueCounts" "[I" .null := D3 (Or.inr (ww hw 24 rfl)) (ty := (.array .int)) (by decide)
    have F_start_b3 : Fld Z h3 b3 "com/example/minsuite/minsuite/ValuePairs" "start" "[[I" .null := D3 (Or.inr (ww hw 28 rfl)) (ty := (.array (.array .int))) (by decide)
    have F_firstOf_b3 : Fld Z h3 b3 "com/example/minsuite/minsuite/ValuePairs" "firstOf" "[I" .null := D3 (Or.inr (ww hw 30 rfl)) (ty := (.array .int)) (by decide)
    have F_secondOf_b3 : Fld Z h3 b3 "com/example/minsuite/minsuite/ValuePairs" "secondOf" "[I" .null := D3 (Or.inr (ww hw 32 rfl)) (ty := (.array .int)) (by decide)
    have F_startOf_b3 : Fld Z h3 b3 "com/example/minsuite/minsuite/ValuePairs" "startOf" "[I" .null := D3 (Or.inr (ww hw 34 rfl)) (ty := (.array .int)) (by decide)
    have F_count_b3 : Fld Z h3 b3 "com/example/minsuite/minsuite/ValuePairs" "count" "I" (.int (0 : Int32)) := D3 (Or.inr (ww hw 36 rfl)) (ty := .int) (by decide)
    refine Gz.st st3 ?_
    refine Gz.dup 164 X3 hx (dd at_163) rfl rfl ?_
    refine Gz.aload 166 X3 hx (dd at_164) rfl rfl rfl ?_
    obtain ⟨_, _, ⟨T4, L4, k4, n4⟩, -, X4, ⟨Lc4, hQ4, l4, y4, z4⟩, st4⟩ := X3.specialBack hx (y := (⟨"com/example/minsuite/minsuite/ValuePairs", "<init>", "([I)V"⟩ : MethodName)) rfl hown (mvT hZ (ww hw 4 rfl)) (mvT hZ (ww hw 5 rfl)) (mvT hZ (ww hw 6 rfl)) (by decide) (backOf (W := 1) (rmI0 l Z av0 hw [] b3 b2 k2 h3 n0 SZ3 A3 F_valueCounts_b3 F_start_b3 F_firstOf_b3 F_secondOf_b3 F_startOf_b3 F_count_b3 g_b3 f3_Vb2 f3_Eb2 ne_b2_b3 (own_cnt0 b2)) hZ (ww hw 6 rfl) (ww hw 3 rfl) (by decide) (by decide)) (g := (mkF m 166 #[.val (.int p0), .val (.int p1), .val (.int p2), .val (.int p3), .val (.int (0 : Int32)), .val (.ref b2), .val (.int (0 : Int32)), .unset, .unset, .unset] [(.ref b2), (.ref b3), (.ref b3)])) rfl (by rw [hml]; rfl) (Steps.refl _) (a := b3) (argsL := [(.ref b2)]) (rest := [(.ref b3)]) (lenOf pd_1 rfl) rfl (by show 2 * 0 + _ ≤ _; exact Nat.le_of_eq rfl) (dd at_166) (fun _ _ => ⟨rfl, e3, (by decide : 2 + 5 ≤ _), (by decide : 6 + 0 ≤ _)⟩)
    dsimp only [Pt.U, Pt.locs, Pt.cells, Pt.slots, Q_rmI0] at X4 l4 y4 z4 st4 hQ4
    subst l4 y4 z4
    obtain ⟨rfl, N4q, K4q, QE4, ac4, kc4, sz4, QF4, QA4⟩ := hQ4
    have N4 := Fr.app N0 N4q
    have f4_Eb2 := Exa.keep f3_Eb2 K4q
    have f4_Vb2 := Arv.keep f3_Vb2 K4q (ninS ne_b2_b3 nin0)
    have f4_Eb3 := Exa.keep A3 K4q
    have SZ4 := Nat.le_trans SZ3 K4q.1
    refine Gz.tr st4 ?_
    refine Gz.astore 171 #[.val (.int p0), .val (.int p1), .val (.int p2), .val (.int p3), .val (.int (0 : Int32)), .val (.ref b2), .val (.int (0 : Int32)), .val (.ref b3), .unset, .unset] X4 hx (dd at_169) rfl rfl rfl ?_
    refine Gz.aload 173 X4 hx (dd at_171) rfl rfl rfl ?_
    obtain ⟨cq5, kq5, q5a, q5b, q5c⟩ := isOf hZ rfl QE4
    obtain ⟨_, _, ⟨T5, L5, k5, n5⟩, -, X5, ⟨Lc5, hQ5, l5, y5, z5⟩, st5⟩ := X4.virtualBack hx (y := (⟨"com/example/minsuite/minsuite/ValuePairs", "allValues", "()I"⟩ : MethodName)) (z := (⟨"com/example/minsuite/minsuite/ValuePairs", "allValues", "()I"⟩ : MethodName)) hown (mvT hZ (ww hw 37 rfl)) (mvT hZ (ww hw 38 rfl)) (notFace_of_selects (args := #[]) (mvT hZ (ww hw 40 rfl))) (mvT hZ (ww hw 40 rfl)) (mvT hZ (ww hw 39 rfl)) (by decide) (backOf (W := 0) (rmA0 l Z av0 hw [] b3 ac4 kc4 T4.heap n0 SZ4 QF4 QA4) hZ (ww hw 41 rfl) (ww hw 3 rfl) (by decide) (by decide)) q5a q5c (g := (mkF m 173 #[.val (.int p0), .val (.int p1), .val (.int p2), .val (.int p3), .val (.int (0 : Int32)), .val (.ref b2), .val (.int (0 : Int32)), .val (.ref b3), .unset, .unset] [(.ref b3)])) rfl (by rw [hml]; rfl) (Steps.refl _) (argsL := []) (rest := []) (lenOf pd_2 rfl) rfl (by show 2 * 0 + _ ≤ _; exact Nat.le_of_eq rfl) (dd at_173) (fun _ _ => ⟨rfl, rfl, (by decide : 7 + 0 ≤ _), (by decide : 6 + 0 ≤ _)⟩)
    dsimp only [Pt.U, Pt.locs, Pt.cells, Pt.slots, Q_rmA0] at X5 l5 y5 z5 st5 hQ5
    subst l5 y5 z5
    obtain ⟨rfl, N5q, e5⟩ := hQ5
    have N5 := Fr.app N4 N5q
    refine Gz.tr st5 ?_
    refine Gz.iload 178 X5 hx (dd at_176) rfl rfl ?_
    refine Gz.icmpNo 181 X5 hx (dd at_178) (teq ((by unfold fA0; rfl) : (fA0 b3 ac4) = (0 : Int32))).2 rfl ?_
    refine Gz.iconst 182 (1 : Int32) X5 hx (dd at_181) rfl rfl ?_
    refine Gz.goto 186 X5 hx (dd at_182) (by decide) (by decide) ?_
    refine Gz.fin X5 (v := some (.int (1 : Int32))) (fun h => by rw [hret] at h; cases h) hlk (by decide) (by decide) (fun fs hr => retN X5 hx (t := .boolean) hret (by simp) (dd at_186) hr) ?_
    exact ⟨rfl, N5⟩
  · rw [hs1]
    refine Gz.istore 5 #[.val (.int p0), .val (.int p1), .val (.int p2), .val (.int p3), .val (.int (1 : Int32)), .unset, .unset, .unset, .unset, .unset] X0 hx (dd at_3) rfl rfl ?_
    refine Gz.iload 7 X0 hx (dd at_5) rfl rfl ?_
    refine Gz.ifYes 21 X0 hx (dd at_7) ((if0 _ _).trans (feq (by decide : ¬ ((1 : Int32) = (0 : Int32)))).2) (by decide) (by decide) ?_
    refine Gz.iload 23 X0 hx (dd at_21) rfl rfl ?_
    refine Gz.iconst 24 (1 : Int32) X0 hx (dd at_23) rfl rfl ?_
    refine Gz.icmpNo 27 X0 hx (dd at_24) (teq (by decide : (1 : Int32) = (1 : Int32))).2 rfl ?_
    refine Gz.iconst 28 (1 : Int32) X0 hx (dd at_27) rfl rfl ?_
    refine Gz.iloadN 29 X0 hx (dd at_28) rfl rfl ?_
    refine Gz.ldcI 31 X0 hx (dd at_29) hown (mvT hZ (ww hw 42 rfl)) rfl ?_
    refine Gz.iand 32 X0 hx (dd at_31) rfl ?_
    obtain ⟨_, _, ⟨T6, L6, k6, n6⟩, -, X6, ⟨Lc6, hQ6, l6, y6, z6⟩, st6⟩ := Jvm.LawKit.callS X0 hx (y := (⟨"java/lang/Math", "max", "(II)I"⟩ : MethodName)) hown (mvT hZ (ww hw 43 rfl)) (mvT hZ (ww hw 44 rfl)) (mvT hZ (ww hw 45 rfl)) (mvT hZ (ww hw 46 rfl)) (by decide) (backOf (W := 0) (rm5 l Z av0 hw [] (1 : Int32) (p1 &&& (2147483647 : Int32))  h0 n0 Z0 ) hZ (ww hw 46 rfl) (ww hw 45 rfl) (by decide) (by decide)) (g := (mkF m 32 #[.val (.int p0), .val (.int p1), .val (.int p2), .val (.int p3), .val (.int (1 : Int32)), .unset, .unset, .unset, .unset, .unset] [(.int (p1 &&& (2147483647 : Int32))), (.int (1 : Int32))])) rfl (by rw [hml]; rfl) (argsL := [(.int (1 : Int32)), (.int (p1 &&& (2147483647 : Int32)))]) (rest := []) (lenOf pd_3 rfl) rfl (by show 2 * 0 + _ ≤ _; exact Nat.le_of_eq rfl) (dd at_32) (fun _ _ => ⟨rfl, e0, (by decide : 0 + 0 ≤ _), (by decide : 0 + 0 ≤ _)⟩)
    dsimp only [Pt.U, Pt.locs, Pt.cells, Pt.slots, Q_rm5] at X6 l6 y6 z6 st6 hQ6
    subst l6 y6 z6
    generalize (fMax (1 : Int32) (p1 &&& (2147483647 : Int32))) = r6 at hQ6
    obtain ⟨rfl, N6q, e6⟩ := hQ6
    have N6 := Fr.app N0 N6q
    refine Gz.st st6 ?_
    refine Gz.istore 37 #[.val (.int p0), .val (.int p1), .val (.int p2), .val (.int p3), .val (.int (1 : Int32)), .unset, .unset, .val (.int r6), .unset, .unset] X6 hx (dd at_35) rfl rfl ?_
    refine Gz.iconst 38 (1 : Int32) X6 hx (dd at_37) rfl rfl ?_
    obtain ⟨T7, h7, k7, X7, e7, E7, A7, Q7, st7⟩ := newPE X6 hx hZ (ww hw 0 rfl) e6 (g := (mkF m 38 #[.val (.int p0), .val (.int p1), .val (.int p2), .val (.int p3), .val (.int (1 : Int32)), .unset, .unset, .val (.int r6), .unset, .unset] [(.int (1 : Int32))])) rfl (dd at_38) rfl (by decide) (cap := 1) (by decide) (by decide) (by decide) (by decide) (ad := "[I") rfl
    obtain ⟨b7, g7⟩ : ∃ z, z = h0.size := ⟨_, rfl⟩
    rw [← g7] at A7 Q7 st7
    have g_b7 : n0 ≤ b7 := Nat.le_trans Z0 (Nat.le_of_eq g7.symm)
    have SZ7 : n0 ≤ h7.size := Nat.le_trans Z0 E7.1
    have V7 : Arv Z h7 b7 k7 .int (1 : Int32) [(.int (0 : Int32))] (.int (0 : Int32)) := (Arv.new A7 (by decide)).pad (pad_rep [] (.int (0 : Int32)) 1)
    refine Gz.st st7 ?_
    refine Gz.dup 41 X7 hx (dd at_40) rfl rfl ?_
    refine Gz.iconst 42 (0 : Int32) X7 hx (dd at_41) rfl rfl ?_
    refine Gz.iload 44 X7 hx (dd at_42) rfl rfl ?_
    obtain ⟨c8, A8, q8, S8, N8, H8, G8⟩ := id V7
    have hin8 : ¬ ((0 : Int32) < 0 ∨ c8.slots.size ≤ ((0 : Int32)).toNatClampNeg) := inb_of S8 ⟨by decide, by decide⟩
    refine Gz.stI 45 X7 hx hZ (dd at_44) e7 A8 hin8 rfl fun T9 h9 X9 e9 W9 => ?_
    have V9 := Arv.set A8 q8 S8 N8 H8 G8 rfl W9 0 rfl (Nat.le_of_ble_eq_true rfl)
    replace V9 : Arv Z h9 b7 k7 .int (1 : Int32) [(.int r6)] (.int (0 : Int32)) := V9
    have f9_Eb7 := Exa.wr W9 Q7
    have N9 := Fr.snoc X9 N6 g_b7
    have SZ9 : n0 ≤ h9.size := Nat.le_trans SZ7 (Keep.of_wr W9).1
    refine Gz.astore 47 #[.val (.int p0), .val (.int p1), .val (.int p2), .val (.int p3), .val (.int (1 : Int32)), .val (.ref b7), .unset, .val (.int r6), .unset, .unset] X9 hx (dd at_45) rfl rfl rfl ?_
    refine Gz.iload 49 X9 hx (dd at_47) rfl rfl ?_
    refine Gz.istore 51 #[.val (.int p0), .val (.int p1), .val (.int p2), .val (.int p3), .val (.int (1 : Int32)), .val (.ref b7), .val (.int r6), .val (.int r6), .unset, .unset] X9 hx (dd at_49) rfl rfl ?_
    refine Gz.goto 160 X9 hx (dd at_51) (by decide) (by decide) ?_
    obtain ⟨T10, h10, X10, e10, E10, A10, D10, -, st10⟩ := newO X9 hx hZ hown (ww hw 1 rfl) (ww hw 2 rfl) (ww hw 3 rfl) e9 (g := (mkF m 160 #[.val (.int p0), .val (.int p1), .val (.int p2), .val (.int p3), .val (.int (1 : Int32)), .val (.ref b7), .val (.int r6), .val (.int r6), .unset, .unset] [])) rfl (dd at_160) (by decide) (by decide)
    obtain ⟨b10, g10⟩ : ∃ z, z = h9.size := ⟨_, rfl⟩
    rw [← g10] at A10 D10 st10
    have ne_b7_b10 : b7 ≠ b10 := Nat.ne_of_lt (Nat.lt_of_lt_of_le (f9_Eb7).lt (Nat.le_of_eq g10.symm))
    have g_b10 : n0 ≤ b10 := Nat.le_trans SZ9 (Nat.le_of_eq g10.symm)
    have SZ10 : n0 ≤ h10.size := Nat.le_trans SZ9 E10.1
    have f10_Eb7 := Exa.ext E10 f9_Eb7
    have f10_Vb7 := Arv.ext V9 E10
    have F_valueCounts_b10 : Fld Z h10 b10 "com/example/minsuite/minsuite/ValuePairs" "valueCounts" "[I" .null := D10 (Or.inr (ww hw 24 rfl)) (ty := (.array .int)) (by decide)
    have F_start_b10 : Fld Z h10 b10 "com/example/minsuite/minsuite/ValuePairs" "start" "[[I" .null := D10 (Or.inr (ww hw 28 rfl)) (ty := (.array (.array .int))) (by decide)
    have F_firstOf_b10 : Fld Z h10 b10 "com/example/minsuite/minsuite/ValuePairs" "firstOf" "[I" .null := D10 (Or.inr (ww hw 30 rfl)) (ty := (.array .int)) (by decide)
    have F_secondOf_b10 : Fld Z h10 b10 "com/example/minsuite/minsuite/ValuePairs" "secondOf" "[I" .null := D10 (Or.inr (ww hw 32 rfl)) (ty := (.array .int)) (by decide)
    have F_startOf_b10 : Fld Z h10 b10 "com/example/minsuite/minsuite/ValuePairs" "startOf" "[I" .null := D10 (Or.inr (ww hw 34 rfl)) (ty := (.array .int)) (by decide)
    have F_count_b10 : Fld Z h10 b10 "com/example/minsuite/minsuite/ValuePairs" "count" "I" (.int (0 : Int32)) := D10 (Or.inr (ww hw 36 rfl)) (ty := .int) (by decide)
    refine Gz.st st10 ?_
    refine Gz.dup 164 X10 hx (dd at_163) rfl rfl ?_
    refine Gz.aload 166 X10 hx (dd at_164) rfl rfl rfl ?_
    obtain ⟨_, _, ⟨T11, L11, k11, n11⟩, -, X11, ⟨Lc11, hQ11, l11, y11, z11⟩, st11⟩ := X10.specialBack hx (y := (⟨"com/example/minsuite/minsuite/ValuePairs", "<init>", "([I)V"⟩ : MethodName)) rfl hown (mvT hZ (ww hw 4 rfl)) (mvT hZ (ww hw 5 rfl)) (mvT hZ (ww hw 6 rfl)) (by decide) (backOf (W := 1) (rmI1 l Z av0 hw [] b10 b7 k7 r6 h10 n0 SZ10 A10 F_valueCounts_b10 F_start_b10 F_firstOf_b10 F_secondOf_b10 F_startOf_b10 F_count_b10 g_b10 f10_Vb7 f10_Eb7 ne_b7_b10 (own_cnt1 b7 r6)) hZ (ww hw 6 rfl) (ww hw 3 rfl) (by decide) (by decide)) (g := (mkF m 166 #[.val (.int p0), .val (.int p1), .val (.int p2), .val (.int p3), .val (.int (1 : Int32)), .val (.ref b7), .val (.int r6), .val (.int r6), .unset, .unset] [(.ref b7), (.ref b10), (.ref b10)])) rfl (by rw [hml]; rfl) (Steps.refl _) (a := b10) (argsL := [(.ref b7)]) (rest := [(.ref b10)]) (lenOf pd_1 rfl) rfl (by show 2 * 0 + _ ≤ _; exact Nat.le_of_eq rfl) (dd at_166) (fun _ _ => ⟨rfl, e10, (by decide : 2 + 6 ≤ _), (by decide : 7 + 3 ≤ _)⟩)
    dsimp only [Pt.U, Pt.locs, Pt.cells, Pt.slots, Q_rmI1] at X11 l11 y11 z11 st11 hQ11
    subst l11 y11 z11
    obtain ⟨rfl, N11q, K11q, QE11, ac11, kc11, sz11, QF11, QA11⟩ := hQ11
    have N11 := Fr.app N9 N11q
    have f11_Eb7 := Exa.keep f10_Eb7 K11q
    have f11_Vb7 := Arv.keep f10_Vb7 K11q (ninS ne_b7_b10 nin0)
    have f11_Eb10 := Exa.keep A10 K11q
    have SZ11 := Nat.le_trans SZ10 K11q.1
    refine Gz.tr st11 ?_
    refine Gz.astore 171 #[.val (.int p0), .val (.int p1), .val (.int p2), .val (.int p3), .val (.int (1 : Int32)), .val (.ref b7), .val (.int r6), .val (.ref b10), .unset, .unset] X11 hx (dd at_169) rfl rfl rfl ?_
    refine Gz.aload 173 X11 hx (dd at_171) rfl rfl rfl ?_
    obtain ⟨cq12, kq12, q12a, q12b, q12c⟩ := isOf hZ rfl QE11
    obtain ⟨_, _, ⟨T12, L12, k12, n12⟩, -, X12, ⟨Lc12, hQ12, l12, y12, z12⟩, st12⟩ := X11.virtualBack hx (y := (⟨"com/example/minsuite/minsuite/ValuePairs", "allValues", "()I"⟩ : MethodName)) (z := (⟨"com/example/minsuite/minsuite/ValuePairs", "allValues", "()I"⟩ : MethodName)) hown (mvT hZ (ww hw 37 rfl)) (mvT hZ (ww hw 38 rfl)) (notFace_of_selects (args := #[]) (mvT hZ (ww hw 40 rfl))) (mvT hZ (ww hw 40 rfl)) (mvT hZ (ww hw 39 rfl)) (by decide) (backOf (W := 0) (rmA1 l Z av0 hw [] b10 ac11 kc11 r6 T11.heap n0 SZ11 QF11 QA11) hZ (ww hw 41 rfl) (ww hw 3 rfl) (by decide) (by decide)) q12a q12c (g := (mkF m 173 #[.val (.int p0), .val (.int p1), .val (.int p2), .val (.int p3), .val (.int (1 : Int32)), .val (.ref b7), .val (.int r6), .val (.ref b10), .unset, .unset] [(.ref b10)])) rfl (by rw [hml]; rfl) (Steps.refl _) (argsL := []) (rest := []) (lenOf pd_2 rfl) rfl (by show 2 * 0 + _ ≤ _; exact Nat.le_of_eq rfl) (dd at_173) (fun _ _ => ⟨rfl, rfl, (by decide : 8 + 0 ≤ _), (by decide : 10 + 0 ≤ _)⟩)
    dsimp only [Pt.U, Pt.locs, Pt.cells, Pt.slots, Q_rmA1] at X12 l12 y12 z12 st12 hQ12
    subst l12 y12 z12
    obtain ⟨rfl, N12q, e12⟩ := hQ12
    have N12 := Fr.app N11 N12q
    refine Gz.tr st12 ?_
    refine Gz.iload 178 X12 hx (dd at_176) rfl rfl ?_
    refine Gz.icmpNo 181 X12 hx (dd at_178) (teq ((by unfold fA1; simp only [Int32.zero_add]) : (fA1 b10 ac11 r6) = r6)).2 rfl ?_
    refine Gz.iconst 182 (1 : Int32) X12 hx (dd at_181) rfl rfl ?_
    refine Gz.goto 186 X12 hx (dd at_182) (by decide) (by decide) ?_
    refine Gz.fin X12 (v := some (.int (1 : Int32))) (fun h => by rw [hret] at h; cases h) hlk (by decide) (by decide) (fun fs hr => retN X12 hx (t := .boolean) hret (by simp) (dd at_186) hr) ?_
    exact ⟨rfl, N12⟩
  · rw [hs1]
    refine Gz.istore 5 #[.val (.int p0), .val (.int p1), .val (.int p2), .val (.int p3), .val (.int (2 : Int32)), .unset, .unset, .unset, .unset, .unset] X0 hx (dd at_3) rfl rfl ?_
    refine Gz.iload 7 X0 hx (dd at_5) rfl rfl ?_
    refine Gz.ifYes 21 X0 hx (dd at_7) ((if0 _ _).trans (feq (by decide : ¬ ((2 : Int32) = (0 : Int32)))).2) (by decide) (by decide) ?_
    refine Gz.iload 23 X0 hx (dd at_21) rfl rfl ?_
    refine Gz.iconst 24 (1 : Int32) X0 hx (dd at_23) rfl rfl ?_
    refine Gz.icmpYes 54 X0 hx (dd at_24) (feq (by decide : ¬ ((2 : Int32) = (1 : Int32)))).2 (by decide) (by decide) ?_
    refine Gz.iload 56 X0 hx (dd at_54) rfl rfl ?_
    refine Gz.iconst 57 (2 : Int32) X0 hx (dd at_56) rfl rfl ?_
    refine Gz.icmpNo 60 X0 hx (dd at_57) (teq (by decide : (2 : Int32) = (2 : Int32))).2 rfl ?_
    refine Gz.iloadN 61 X0 hx (dd at_60) rfl rfl ?_
    refine Gz.sipush 64 (32767 : Int32) X0 hx (dd at_61) rfl rfl ?_
    refine Gz.iand 65 X0 hx (dd at_64) rfl ?_
    refine Gz.iconst 66 (1 : Int32) X0 hx (dd at_65) rfl rfl ?_
    refine Gz.iadd 67 X0 hx (dd at_66) rfl ?_
    refine Gz.istore 69 #[.val (.int p0), .val (.int p1), .val (.int p2), .val (.int p3), .val (.int (2 : Int32)), .unset, .unset, .val (.int ((p1 &&& (32767 : Int32)) + (1 : Int32))), .unset, .unset] X0 hx (dd at_67) rfl rfl ?_
    refine Gz.iloadN 70 X0 hx (dd at_69) rfl rfl ?_
    refine Gz.sipush 73 (32767 : Int32) X0 hx (dd at_70) rfl rfl ?_
    refine Gz.iand 74 X0 hx (dd at_73) rfl ?_
    refine Gz.iconst 75 (1 : Int32) X0 hx (dd at_74) rfl rfl ?_
    refine Gz.iadd 76 X0 hx (dd at_75) rfl ?_
    refine Gz.istore 78 #[.val (.int p0), .val (.int p1), .val (.int p2), .val (.int p3), .val (.int (2 : Int32)), .unset, .unset, .val (.int ((p1 &&& (32767 : Int32)) + (1 : Int32))), .val (.int ((p2 &&& (32767 : Int32)) + (1 : Int32))), .unset] X0 hx (dd at_76) rfl rfl ?_
    refine Gz.iconst 79 (2 : Int32) X0 hx (dd at_78) rfl rfl ?_
    obtain ⟨T13, h13, k13, X13, e13, E13, A13, Q13, st13⟩ := newPE X0 hx hZ (ww hw 0 rfl) e0 (g := (mkF m 79 #[.val (.int p0), .val (.int p1), .val (.int p2), .val (.int p3), .val (.int (2 : Int32)), .unset, .unset, .val (.int ((p1 &&& (32767 : Int32)) + (1 : Int32))), .val (.int ((p2 &&& (32767 : Int32)) + (1 : Int32))), .unset] [(.int (2 : Int32))])) rfl (dd at_79) rfl (by decide) (cap := 2) (by decide) (by decide) (by decide) (by decide) (ad := "[I") rfl
    obtain ⟨b13, g13⟩ : ∃ z, z = h0.size := ⟨_, rfl⟩
    rw [← g13] at A13 Q13 st13
    have g_b13 : n0 ≤ b13 := Nat.le_trans Z0 (Nat.le_of_eq g13.symm)
    have SZ13 : n0 ≤ h13.size := Nat.le_trans Z0 E13.1
    have V13 : Arv Z h13 b13 k13 .int (2 : Int32) [(.int (0 : Int32)), (.int (0 : Int32))] (.int (0 : Int32)) := (Arv.new A13 (by decide)).pad (pad_rep [] (.int (0 : Int32)) 2)
    refine Gz.st st13 ?_
    refine Gz.dup 82 X13 hx (dd at_81) rfl rfl ?_
    refine Gz.iconst 83 (0 : Int32) X13 hx (dd at_82) rfl rfl ?_
    refine Gz.iload 85 X13 hx (dd at_83) rfl rfl ?_
    obtain ⟨c14, A14, q14, S14, N14, H14, G14⟩ := id V13
    have hin14 : ¬ ((0 : Int32) < 0 ∨ c14.slots.size ≤ ((0 : Int32)).toNatClampNeg) := inb_of S14 ⟨by decide, by decide⟩
    refine Gz.stI 86 X13 hx hZ (dd at_85) e13 A14 hin14 rfl fun T15 h15 X15 e15 W15 => ?_
    have V15 := Arv.set A14 q14 S14 N14 H14 G14 rfl W15 0 rfl (Nat.le_of_ble_eq_true rfl)
    replace V15 : Arv Z h15 b13 k13 .int (2 : Int32) [(.int ((p1 &&& (32767 : Int32)) + (1 : Int32))), (.int (0 : Int32))] (.int (0 : Int32)) := V15
    have f15_Eb13 := Exa.wr W15 Q13
    have N15 := Fr.snoc X15 N0 g_b13
    have SZ15 : n0 ≤ h15.size := Nat.le_trans SZ13 (Keep.of_wr W15).1
    refine Gz.dup 87 X15 hx (dd at_86) rfl rfl ?_
    refine Gz.iconst 88 (1 : Int32) X15 hx (dd at_87) rfl rfl ?_
    refine Gz.iload 90 X15 hx (dd at_88) rfl rfl ?_
    obtain ⟨c16, A16, q16, S16, N16, H16, G16⟩ := id V15
    have hin16 : ¬ ((1 : Int32) < 0 ∨ c16.slots.size ≤ ((1 : Int32)).toNatClampNeg) := inb_of S16 ⟨by decide, by decide⟩
    refine Gz.stI 91 X15 hx hZ (dd at_90) e15 A16 hin16 rfl fun T17 h17 X17 e17 W17 => ?_
    have V17 := Arv.set A16 q16 S16 N16 H16 G16 rfl W17 1 rfl (Nat.le_of_ble_eq_true rfl)
    replace V17 : Arv Z h17 b13 k13 .int (2 : Int32) [(.int ((p1 &&& (32767 : Int32)) + (1 : Int32))), (.int ((p2 &&& (32767 : Int32)) + (1 : Int32)))] (.int (0 : Int32)) := V17
    have f17_Eb13 := Exa.wr W17 f15_Eb13
    have N17 := Fr.snoc X17 N15 g_b13
    have SZ17 : n0 ≤ h17.size := Nat.le_trans SZ15 (Keep.of_wr W17).1
    refine Gz.astore 93 #[.val (.int p0), .val (.int p1), .val (.int p2), .val (.int p3), .val (.int (2 : Int32)), .val (.ref b13), .unset, .val (.int ((p1 &&& (32767 : Int32)) + (1 : Int32))), .val (.int ((p2 &&& (32767 : Int32)) + (1 : Int32))), .unset] X17 hx (dd at_91) rfl rfl rfl ?_
    refine Gz.iload 95 X17 hx (dd at_93) rfl rfl ?_
    refine Gz.iload 97 X17 hx (dd at_95) rfl rfl ?_
    refine Gz.iadd 98 X17 hx (dd at_97) rfl ?_
    refine Gz.istore 100 #[.val (.int p0), .val (.int p1), .val (.int p2), .val (.int p3), .val (.int (2 : Int32)), .val (.ref b13), .val (.int (((p1 &&& (32767 : Int32)) + (1 : Int32)) + ((p2 &&& (32767 : Int32)) + (1 : Int32)))), .val (.int ((p1 &&& (32767 : Int32)) + (1 : Int32))), .val (.int ((p2 &&& (32767 : Int32)) + (1 : Int32))), .unset] X17 hx (dd at_98) rfl rfl ?_
    refine Gz.goto 160 X17 hx (dd at_100) (by decide) (by decide) ?_
    obtain ⟨T18, h18, X18, e18, E18, A18, D18, -, st18⟩ := newO X17 hx hZ hown (ww hw 1 rfl) (ww hw 2 rfl) (ww hw 3 rfl) e17 (g := (mkF m 160 #[.val (.int p0), .val (.int p1), .val (.int p2), .val (.int p3), .val (.int (2 : Int32)), .val (.ref b13), .val (.int (((p1 &&& (32767 : Int32)) + (1 : Int32)) + ((p2 &&& (32767 : Int32)) + (1 : Int32)))), .val (.int ((p1 &&& (32767 : Int32)) + (1 : Int32))), .val (.int ((p2 &&& (32767 : Int32)) + (1 : Int32))), .unset] [])) rfl (dd at_160) (by decide) (by decide)
    obtain ⟨b18, g18⟩ : ∃ z, z = h17.size := ⟨_, rfl⟩
    rw [← g18] at A18 D18 st18
    have ne_b13_b18 : b13 ≠ b18 := Nat.ne_of_lt (Nat.lt_of_lt_of_le (f17_Eb13).lt (Nat.le_of_eq g18.symm))
    have g_b18 : n0 ≤ b18 := Nat.le_trans SZ17 (Nat.le_of_eq g18.symm)
    have SZ18 : n0 ≤ h18.size := Nat.le_trans SZ17 E18.1
    have f18_Eb13 := Exa.ext E18 f17_Eb13
    have f18_Vb13 := Arv.ext V17 E18
    have F_valueCounts_b18 : Fld Z h18 b18 "com/example/minsuite/minsuite/ValuePairs" "valueCounts" "[I" .null := D18 (Or.inr (ww hw 24 rfl)) (ty := (.array .int)) (by decide)
    have F_start_b18 : Fld Z h18 b18 "com/example/minsuite/minsuite/ValuePairs" "start" "[[I" .null := D18 (Or.inr (ww hw 28 rfl)) (ty := (.array (.array .int))) (by decide)
    have F_firstOf_b18 : Fld Z h18 b18 "com/example/minsuite/minsuite/ValuePairs" "firstOf" "[I" .null := D18 (Or.inr (ww hw 30 rfl)) (ty := (.array .int)) (by decide)
    have F_secondOf_b18 : Fld Z h18 b18 "com/example/minsuite/minsuite/ValuePairs" "secondOf" "[I" .null := D18 (Or.inr (ww hw 32 rfl)) (ty := (.array .int)) (by decide)
    have F_startOf_b18 : Fld Z h18 b18 "com/example/minsuite/minsuite/ValuePairs" "startOf" "[I" .null := D18 (Or.inr (ww hw 34 rfl)) (ty := (.array .int)) (by decide)
    have F_count_b18 : Fld Z h18 b18 "com/example/minsuite/minsuite/ValuePairs" "count" "I" (.int (0 : Int32)) := D18 (Or.inr (ww hw 36 rfl)) (ty := .int) (by decide)
    refine Gz.st st18 ?_
    refine Gz.dup 164 X18 hx (dd at_163) rfl rfl ?_
    refine Gz.aload 166 X18 hx (dd at_164) rfl rfl rfl ?_
    obtain ⟨_, _, ⟨T19, L19, k19, n19⟩, -, X19, ⟨Lc19, hQ19, l19, y19, z19⟩, st19⟩ := X18.specialBack hx (y := (⟨"com/example/minsuite/minsuite/ValuePairs", "<init>", "([I)V"⟩ : MethodName)) rfl hown (mvT hZ (ww hw 4 rfl)) (mvT hZ (ww hw 5 rfl)) (mvT hZ (ww hw 6 rfl)) (by decide) (backOf (W := 1) (rmI2 l Z av0 hw [] b18 b13 k13 ((p1 &&& (32767 : Int32)) + (1 : Int32)) ((p2 &&& (32767 : Int32)) + (1 : Int32)) h18 n0 SZ18 A18 F_valueCounts_b18 F_start_b18 F_firstOf_b18 F_secondOf_b18 F_startOf_b18 F_count_b18 g_b18 f18_Vb13 f18_Eb13 ne_b13_b18 (own_cnt2 b13 ((p1 &&& (32767 : Int32)) + (1 : Int32)) ((p2 &&& (32767 : Int32)) + (1 : Int32)) (own_b15 _) (own_b15 _))) hZ (ww hw 6 rfl) (ww hw 3 rfl) (by decide) (by decide)) (g := (mkF m 166 #[.val (.int p0), .val (.int p1), .val (.int p2), .val (.int p3), .val (.int (2 : Int32)), .val (.ref b13), .val (.int (((p1 &&& (32767 : Int32)) + (1 : Int32)) + ((p2 &&& (32767 : Int32)) + (1 : Int32)))), .val (.int ((p1 &&& (32767 : Int32)) + (1 : Int32))), .val (.int ((p2 &&& (32767 : Int32)) + (1 : Int32))), .unset] [(.ref b13), (.ref b18), (.ref b18)])) rfl (by rw [hml]; rfl) (Steps.refl _) (a := b18) (argsL := [(.ref b13)]) (rest := [(.ref b18)]) (lenOf pd_1 rfl) rfl (by show 2 * 0 + _ ≤ _; exact Nat.le_of_eq rfl) (dd at_166) (fun _ _ => ⟨rfl, e18, (by decide : 2 + 7 ≤ _), (by decide : 8 + 11 ≤ _)⟩)
    dsimp only [Pt.U, Pt.locs, Pt.cells, Pt.slots, Q_rmI2] at X19 l19 y19 z19 st19 hQ19
    subst l19 y19 z19
    obtain ⟨rfl, N19q, K19q, QE19, ac19, kc19, sz19, QF19, QA19⟩ := hQ19
    have N19 := Fr.app N17 N19q
    have f19_Eb13 := Exa.keep f18_Eb13 K19q
    have f19_Vb13 := Arv.keep f18_Vb13 K19q (ninS ne_b13_b18 nin0)
    have f19_Eb18 := Exa.keep A18 K19q
    have SZ19 := Nat.le_trans SZ18 K19q.1
    refine Gz.tr st19 ?_
    refine Gz.astore 171 #[.val (.int p0), .val (.int p1), .val (.int p2), .val (.int p3), .val (.int (2 : Int32)), .val (.ref b13), .val (.int (((p1 &&& (32767 : Int32)) + (1 : Int32)) + ((p2 &&& (32767 : Int32)) + (1 : Int32)))), .val (.ref b18), .val (.int ((p2 &&& (32767 : Int32)) + (1 : Int32))), .unset] X19 hx (dd at_169) rfl rfl rfl ?_
    refine Gz.aload 173 X19 hx (dd at_171) rfl rfl rfl ?_
    obtain ⟨cq20, kq20, q20a, q20b, q20c⟩ := isOf hZ rfl QE19
    obtain ⟨_, _, ⟨T20, L20, k20, n20⟩, -, X20, ⟨Lc20, hQ20, l20, y20, z20⟩, st20⟩ := X19.virtualBack hx (y := (⟨"com/example/minsuite/minsuite/ValuePairs", "allValues", "()I"⟩ : MethodName)) (z := (⟨"com/example/minsuite/minsuite/ValuePairs", "allValues", "()I"⟩ : MethodName)) hown (mvT hZ (ww hw 37 rfl)) (mvT hZ (ww hw 38 rfl)) (notFace_of_selects (args := #[]) (mvT hZ (ww hw 40 rfl))) (mvT hZ (ww hw 40 rfl)) (mvT hZ (ww hw 39 rfl)) (by decide) (backOf (W := 0) (rmA2 l Z av0 hw [] b18 ac19 kc19 ((p1 &&& (32767 : Int32)) + (1 : Int32)) ((p2 &&& (32767 : Int32)) + (1 : Int32)) T19.heap n0 SZ19 QF19 QA19) hZ (ww hw 41 rfl) (ww hw 3 rfl) (by decide) (by decide)) q20a q20c (g := (mkF m 173 #[.val (.int p0), .val (.int p1), .val (.int p2), .val (.int p3), .val (.int (2 : Int32)), .val (.ref b13), .val (.int (((p1 &&& (32767 : Int32)) + (1 : Int32)) + ((p2 &&& (32767 : Int32)) + (1 : Int32)))), .val (.ref b18), .val (.int ((p2 &&& (32767 : Int32)) + (1 : Int32))), .unset] [(.ref b18)])) rfl (by rw [hml]; rfl) (Steps.refl _) (argsL := []) (rest := []) (lenOf pd_2 rfl) rfl (by show 2 * 0 + _ ≤ _; exact Nat.le_of_eq rfl) (dd at_173) (fun _ _ => ⟨rfl, rfl, (by decide : 9 + 0 ≤ _), (by decide : 19 + 0 ≤ _)⟩)
    dsimp only [Pt.U, Pt.locs, Pt.cells, Pt.slots, Q_rmA2] at X20 l20 y20 z20 st20 hQ20
    subst l20 y20 z20
    obtain ⟨rfl, N20q, e20⟩ := hQ20
    have N20 := Fr.app N19 N20q
    refine Gz.tr st20 ?_
    refine Gz.iload 178 X20 hx (dd at_176) rfl rfl ?_
    refine Gz.icmpNo 181 X20 hx (dd at_178) (teq ((by unfold fA2; simp only [Int32.zero_add]) : (fA2 b18 ac19 ((p1 &&& (32767 : Int32)) + (1 : Int32)) ((p2 &&& (32767 : Int32)) + (1 : Int32))) = (((p1 &&& (32767 : Int32)) + (1 : Int32)) + ((p2 &&& (32767 : Int32)) + (1 : Int32))))).2 rfl ?_
    refine Gz.iconst 182 (1 : Int32) X20 hx (dd at_181) rfl rfl ?_
    refine Gz.goto 186 X20 hx (dd at_182) (by decide) (by decide) ?_
    refine Gz.fin X20 (v := some (.int (1 : Int32))) (fun h => by rw [hret] at h; cases h) hlk (by decide) (by decide) (fun fs hr => retN X20 hx (t := .boolean) hret (by simp) (dd at_186) hr) ?_
    exact ⟨rfl, N20⟩
  · rw [hs1]
    refine Gz.istore 5 #[.val (.int p0), .val (.int p1), .val (.int p2), .val (.int p3), .val (.int (3 : Int32)), .unset, .unset, .unset, .unset, .unset] X0 hx (dd at_3) rfl rfl ?_
    refine Gz.iload 7 X0 hx (dd at_5) rfl rfl ?_
    refine Gz.ifYes 21 X0 hx (dd at_7) ((if0 _ _).trans (feq (by decide : ¬ ((3 : Int32) = (0 : Int32)))).2) (by decide) (by decide) ?_
    refine Gz.iload 23 X0 hx (dd at_21) rfl rfl ?_
    refine Gz.iconst 24 (1 : Int32) X0 hx (dd at_23) rfl rfl ?_
    refine Gz.icmpYes 54 X0 hx (dd at_24) (feq (by decide : ¬ ((3 : Int32) = (1 : Int32)))).2 (by decide) (by decide) ?_
    refine Gz.iload 56 X0 hx (dd at_54) rfl rfl ?_
    refine Gz.iconst 57 (2 : Int32) X0 hx (dd at_56) rfl rfl ?_
    refine Gz.icmpYes 103 X0 hx (dd at_57) (feq (by decide : ¬ ((3 : Int32) = (2 : Int32)))).2 (by decide) (by decide) ?_
    refine Gz.iloadN 104 X0 hx (dd at_103) rfl rfl ?_
    refine Gz.sipush 107 (16383 : Int32) X0 hx (dd at_104) rfl rfl ?_
    refine Gz.iand 108 X0 hx (dd at_107) rfl ?_
    refine Gz.iconst 109 (1 : Int32) X0 hx (dd at_108) rfl rfl ?_
    refine Gz.iadd 110 X0 hx (dd at_109) rfl ?_
    refine Gz.istore 112 #[.val (.int p0), .val (.int p1), .val (.int p2), .val (.int p3), .val (.int (3 : Int32)), .unset, .unset, .val (.int ((p1 &&& (16383 : Int32)) + (1 : Int32))), .unset, .unset] X0 hx (dd at_110) rfl rfl ?_
    refine Gz.iloadN 113 X0 hx (dd at_112) rfl rfl ?_
    refine Gz.sipush 116 (16383 : Int32) X0 hx (dd at_113) rfl rfl ?_
    refine Gz.iand 117 X0 hx (dd at_116) rfl ?_
    refine Gz.iconst 118 (1 : Int32) X0 hx (dd at_117) rfl rfl ?_
    refine Gz.iadd 119 X0 hx (dd at_118) rfl ?_
    refine Gz.istore 121 #[.val (.int p0), .val (.int p1), .val (.int p2), .val (.int p3), .val (.int (3 : Int32)), .unset, .unset, .val (.int ((p1 &&& (16383 : Int32)) + (1 : Int32))), .val (.int ((p2 &&& (16383 : Int32)) + (1 : Int32))), .unset] X0 hx (dd at_119) rfl rfl ?_
    refine Gz.iloadN 122 X0 hx (dd at_121) rfl rfl ?_
    refine Gz.sipush 125 (16383 : Int32) X0 hx (dd at_122) rfl rfl ?_
    refine Gz.iand 126 X0 hx (dd at_125) rfl ?_
    refine Gz.iconst 127 (1 : Int32) X0 hx (dd at_126) rfl rfl ?_
    refine Gz.iadd 128 X0 hx (dd at_127) rfl ?_
    refine Gz.istore 130 #[.val (.int p0), .val (.int p1), .val (.int p2), .val (.int p3), .val (.int (3 : Int32)), .unset, .unset, .val (.int ((p1 &&& (16383 : Int32)) + (1 : Int32))), .val (.int ((p2 &&& (16383 : Int32)) + (1 : Int32))), .val (.int ((p3 &&& (16383 : Int32)) + (1 : Int32)))] X0 hx (dd at_128) rfl rfl ?_
    refine Gz.iconst 131 (3 : Int32) X0 hx (dd at_130) rfl rfl ?_
    obtain ⟨T21, h21, k21, X21, e21, E21, A21, Q21, st21⟩ := newPE X0 hx hZ (ww hw 0 rfl) e0 (g := (mkF m 131 #[.val (.int p0), .val (.int p1), .val (.int p2), .val (.int p3), .val (.int (3 : Int32)), .unset, .unset, .val (.int ((p1 &&& (16383 : Int32)) + (1 : Int32))), .val (.int ((p2 &&& (16383 : Int32)) + (1 : Int32))), .val (.int ((p3 &&& (16383 : Int32)) + (1 : Int32)))] [(.int (3 : Int32))])) rfl (dd at_131) rfl (by decide) (cap := 3) (by decide) (by decide) (by decide) (by decide) (ad := "[I") rfl
    obtain ⟨b21, g21⟩ : ∃ z, z = h0.size := ⟨_, rfl⟩
    rw [← g21] at A21 Q21 st21
    have g_b21 : n0 ≤ b21 := Nat.le_trans Z0 (Nat.le_of_eq g21.symm)
    have SZ21 : n0 ≤ h21.size := Nat.le_trans Z0 E21.1
    have V21 : Arv Z h21 b21 k21 .int (3 : Int32) [(.int (0 : Int32)), (.int (0 : Int32)), (.int (0 : Int32))] (.int (0 : Int32)) := (Arv.new A21 (by decide)).pad (pad_rep [] (.int (0 : Int32)) 3)
    refine Gz.st st21 ?_
    refine Gz.dup 134 X21 hx (dd at_133) rfl rfl ?_
    refine Gz.iconst 135 (0 : Int32) X21 hx (dd at_134) rfl rfl ?_
    refine Gz.iload 137 X21 hx (dd at_135) rfl rfl ?_
    obtain ⟨c22, A22, q22, S22, N22, H22, G22⟩ := id V21
    have hin22 : ¬ ((0 : Int32) < 0 ∨ c22.slots.size ≤ ((0 : Int32)).toNatClampNeg) := inb_of S22 ⟨by decide, by decide⟩
    refine Gz.stI 138 X21 hx hZ (dd at_137) e21 A22 hin22 rfl fun T23 h23 X23 e23 W23 => ?_
    have V23 := Arv.set A22 q22 S22 N22 H22 G22 rfl W23 0 rfl (Nat.le_of_ble_eq_true rfl)
    replace V23 : Arv Z h23 b21 k21 .int (3 : Int32) [(.int ((p1 &&& (16383 : Int32)) + (1 : Int32))), (.int (0 : Int32)), (.int (0 : Int32))] (.int (0 : Int32)) := V23
    have f23_Eb21 := Exa.wr W23 Q21
    have N23 := Fr.snoc X23 N0 g_b21
    have SZ23 : n0 ≤ h23.size := Nat.le_trans SZ21 (Keep.of_wr W23).1
    refine Gz.dup 139 X23 hx (dd at_138) rfl rfl ?_
    refine Gz.iconst 140 (1 : Int32) X23 hx (dd at_139) rfl rfl ?_
    refine Gz.iload 142 X23 hx (dd at_140) rfl rfl ?_
    obtain ⟨c24, A24, q24, S24, N24, H24, G24⟩ := id V23
    have hin24 : ¬ ((1 : Int32) < 0 ∨ c24.slots.size ≤ ((1 : Int32)).toNatClampNeg) := inb_of S24 ⟨by decide, by decide⟩
    refine Gz.stI 143 X23 hx hZ (dd at_142) e23 A24 hin24 rfl fun T25 h25 X25 e25 W25 => ?_
    have V25 := Arv.set A24 q24 S24 N24 H24 G24 rfl W25 1 rfl (Nat.le_of_ble_eq_true rfl)
    replace V25 : Arv Z h25 b21 k21 .int (3 : Int32) [(.int ((p1 &&& (16383 : Int32)) + (1 : Int32))), (.int ((p2 &&& (16383 : Int32)) + (1 : Int32))), (.int (0 : Int32))] (.int (0 : Int32)) := V25
    have f25_Eb21 := Exa.wr W25 f23_Eb21
    have N25 := Fr.snoc X25 N23 g_b21
    have SZ25 : n0 ≤ h25.size := Nat.le_trans SZ23 (Keep.of_wr W25).1
    refine Gz.dup 144 X25 hx (dd at_143) rfl rfl ?_
    refine Gz.iconst 145 (2 : Int32) X25 hx (dd at_144) rfl rfl ?_
    refine Gz.iload 147 X25 hx (dd at_145) rfl rfl ?_
    obtain ⟨c26, A26, q26, S26, N26, H26, G26⟩ := id V25
    have hin26 : ¬ ((2 : Int32) < 0 ∨ c26.slots.size ≤ ((2 : Int32)).toNatClampNeg) := inb_of S26 ⟨by decide, by decide⟩
    refine Gz.stI 148 X25 hx hZ (dd at_147) e25 A26 hin26 rfl fun T27 h27 X27 e27 W27 => ?_
    have V27 := Arv.set A26 q26 S26 N26 H26 G26 rfl W27 2 rfl (Nat.le_of_ble_eq_true rfl)
    replace V27 : Arv Z h27 b21 k21 .int (3 : Int32) [(.int ((p1 &&& (16383 : Int32)) + (1 : Int32))), (.int ((p2 &&& (16383 : Int32)) + (1 : Int32))), (.int ((p3 &&& (16383 : Int32)) + (1 : Int32)))] (.int (0 : Int32)) := V27
    have f27_Eb21 := Exa.wr W27 f25_Eb21
    have N27 := Fr.snoc X27 N25 g_b21
    have SZ27 : n0 ≤ h27.size := Nat.le_trans SZ25 (Keep.of_wr W27).1
    refine Gz.astore 150 #[.val (.int p0), .val (.int p1), .val (.int p2), .val (.int p3), .val (.int (3 : Int32)), .val (.ref b21), .unset, .val (.int ((p1 &&& (16383 : Int32)) + (1 : Int32))), .val (.int ((p2 &&& (16383 : Int32)) + (1 : Int32))), .val (.int ((p3 &&& (16383 : Int32)) + (1 : Int32)))] X27 hx (dd at_148) rfl rfl rfl ?_
    refine Gz.iload 152 X27 hx (dd at_150) rfl rfl ?_
    refine Gz.iload 154 X27 hx (dd at_152) rfl rfl ?_
    refine Gz.iadd 155 X27 hx (dd at_154) rfl ?_
    refine Gz.iload 157 X27 hx (dd at_155) rfl rfl ?_
    refine Gz.iadd 158 X27 hx (dd at_157) rfl ?_
    refine Gz.istore 160 #[.val (.int p0), .val (.int p1), .val (.int p2), .val (.int p3), .val (.int (3 : Int32)), .val (.ref b21), .val (.int ((((p1 &&& (16383 : Int32)) + (1 : Int32)) + ((p2 &&& (16383 : Int32)) + (1 : Int32))) + ((p3 &&& (16383 : Int32)) + (1 : Int32)))), .val (.int ((p1 &&& (16383 : Int32)) + (1 : Int32))), .val (.int ((p2 &&& (16383 : Int32)) + (1 : Int32))), .val (.int ((p3 &&& (16383 : Int32)) + (1 : Int32)))] X27 hx (dd at_158) rfl rfl ?_
    obtain ⟨T28, h28, X28, e28, E28, A28, D28, -, st28⟩ := newO X27 hx hZ hown (ww hw 1 rfl) (ww hw 2 rfl) (ww hw 3 rfl) e27 (g := (mkF m 160 #[.val (.int p0), .val (.int p1), .val (.int p2), .val (.int p3), .val (.int (3 : Int32)), .val (.ref b21), .val (.int ((((p1 &&& (16383 : Int32)) + (1 : Int32)) + ((p2 &&& (16383 : Int32)) + (1 : Int32))) + ((p3 &&& (16383 : Int32)) + (1 : Int32)))), .val (.int ((p1 &&& (16383 : Int32)) + (1 : Int32))), .val (.int ((p2 &&& (16383 : Int32)) + (1 : Int32))), .val (.int ((p3 &&& (16383 : Int32)) + (1 : Int32)))] [])) rfl (dd at_160) (by decide) (by decide)
    obtain ⟨b28, g28⟩ : ∃ z, z = h27.size := ⟨_, rfl⟩
    rw [← g28] at A28 D28 st28
    have ne_b21_b28 : b21 ≠ b28 := Nat.ne_of_lt (Nat.lt_of_lt_of_le (f27_Eb21).lt (Nat.le_of_eq g28.symm))
    have g_b28 : n0 ≤ b28 := Nat.le_trans SZ27 (Nat.le_of_eq g28.symm)
    have SZ28 : n0 ≤ h28.size := Nat.le_trans SZ27 E28.1
    have f28_Eb21 := Exa.ext E28 f27_Eb21
    have f28_Vb21 := Arv.ext V27 E28
    have F_valueCounts_b28 : Fld Z h28 b28 "com/example/minsuite/minsuite/ValuePairs" "valueCounts" "[I" .null := D28 (Or.inr (ww hw 24 rfl)) (ty := (.array .int)) (by decide)
    have F_start_b28 : Fld Z h28 b28 "com/example/minsuite/minsuite/ValuePairs" "start" "[[I" .null := D28 (Or.inr (ww hw 28 rfl)) (ty := (.array (.array .int))) (by decide)
    have F_firstOf_b28 : Fld Z h28 b28 "com/example/minsuite/minsuite/ValuePairs" "firstOf" "[I" .null := D28 (Or.inr (ww hw 30 rfl)) (ty := (.array .int)) (by decide)
    have F_secondOf_b28 : Fld Z h28 b28 "com/example/minsuite/minsuite/ValuePairs" "secondOf" "[I" .null := D28 (Or.inr (ww hw 32 rfl)) (ty := (.array .int)) (by decide)
    have F_startOf_b28 : Fld Z h28 b28 "com/example/minsuite/minsuite/ValuePairs" "startOf" "[I" .null := D28 (Or.inr (ww hw 34 rfl)) (ty := (.array .int)) (by decide)
    have F_count_b28 : Fld Z h28 b28 "com/example/minsuite/minsuite/ValuePairs" "count" "I" (.int (0 : Int32)) := D28 (Or.inr (ww hw 36 rfl)) (ty := .int) (by decide)
    refine Gz.st st28 ?_
    refine Gz.dup 164 X28 hx (dd at_163) rfl rfl ?_
    refine Gz.aload 166 X28 hx (dd at_164) rfl rfl rfl ?_
    obtain ⟨_, _, ⟨T29, L29, k29, n29⟩, -, X29, ⟨Lc29, hQ29, l29, y29, z29⟩, st29⟩ := X28.specialBack hx (y := (⟨"com/example/minsuite/minsuite/ValuePairs", "<init>", "([I)V"⟩ : MethodName)) rfl hown (mvT hZ (ww hw 4 rfl)) (mvT hZ (ww hw 5 rfl)) (mvT hZ (ww hw 6 rfl)) (by decide) (backOf (W := 1) (rmI3 l Z av0 hw [] b28 b21 k21 ((p1 &&& (16383 : Int32)) + (1 : Int32)) ((p2 &&& (16383 : Int32)) + (1 : Int32)) ((p3 &&& (16383 : Int32)) + (1 : Int32)) h28 n0 SZ28 A28 F_valueCounts_b28 F_start_b28 F_firstOf_b28 F_secondOf_b28 F_startOf_b28 F_count_b28 g_b28 f28_Vb21 f28_Eb21 ne_b21_b28 (own_cnt3 b21 ((p1 &&& (16383 : Int32)) + (1 : Int32)) ((p2 &&& (16383 : Int32)) + (1 : Int32)) ((p3 &&& (16383 : Int32)) + (1 : Int32)) (own_b14 _) (own_b14 _) (own_b14 _))) hZ (ww hw 6 rfl) (ww hw 3 rfl) (by decide) (by decide)) (g := (mkF m 166 #[.val (.int p0), .val (.int p1), .val (.int p2), .val (.int p3), .val (.int (3 : Int32)), .val (.ref b21), .val (.int ((((p1 &&& (16383 : Int32)) + (1 : Int32)) + ((p2 &&& (16383 : Int32)) + (1 : Int32))) + ((p3 &&& (16383 : Int32)) + (1 : Int32)))), .val (.int ((p1 &&& (16383 : Int32)) + (1 : Int32))), .val (.int ((p2 &&& (16383 : Int32)) + (1 : Int32))), .val (.int ((p3 &&& (16383 : Int32)) + (1 : Int32)))] [(.ref b21), (.ref b28), (.ref b28)])) rfl (by rw [hml]; rfl) (Steps.refl _) (a := b28) (argsL := [(.ref b21)]) (rest := [(.ref b28)]) (lenOf pd_1 rfl) rfl (by show 2 * 0 + _ ≤ _; exact Nat.le_of_eq rfl) (dd at_166) (fun _ _ => ⟨rfl, e28, (by decide : 2 + 8 ≤ _), (by decide : 9 + 24 ≤ _)⟩)
    dsimp only [Pt.U, Pt.locs, Pt.cells, Pt.slots, Q_rmI3] at X29 l29 y29 z29 st29 hQ29
    subst l29 y29 z29
    obtain ⟨rfl, N29q, K29q, QE29, ac29, kc29, sz29, QF29, QA29⟩ := hQ29
    have N29 := Fr.app N27 N29q
    have f29_Eb21 := Exa.keep f28_Eb21 K29q
    have f29_Vb21 := Arv.keep f28_Vb21 K29q (ninS ne_b21_b28 nin0)
    have f29_Eb28 := Exa.keep A28 K29q
    have SZ29 := Nat.le_trans SZ28 K29q.1
    refine Gz.tr st29 ?_
    refine Gz.astore 171 #[.val (.int p0), .val (.int p1), .val (.int p2), .val (.int p3), .val (.int (3 : Int32)), .val (.ref b21), .val (.int ((((p1 &&& (16383 : Int32)) + (1 : Int32)) + ((p2 &&& (16383 : Int32)) + (1 : Int32))) + ((p3 &&& (16383 : Int32)) + (1 : Int32)))), .val (.ref b28), .val (.int ((p2 &&& (16383 : Int32)) + (1 : Int32))), .val (.int ((p3 &&& (16383 : Int32)) + (1 : Int32)))] X29 hx (dd at_169) rfl rfl rfl ?_
    refine Gz.aload 173 X29 hx (dd at_171) rfl rfl rfl ?_
    obtain ⟨cq30, kq30, q30a, q30b, q30c⟩ := isOf hZ rfl QE29
    obtain ⟨_, _, ⟨T30, L30, k30, n30⟩, -, X30, ⟨Lc30, hQ30, l30, y30, z30⟩, st30⟩ := X29.virtualBack hx (y := (⟨"com/example/minsuite/minsuite/ValuePairs", "allValues", "()I"⟩ : MethodName)) (z := (⟨"com/example/minsuite/minsuite/ValuePairs", "allValues", "()I"⟩ : MethodName)) hown (mvT hZ (ww hw 37 rfl)) (mvT hZ (ww hw 38 rfl)) (notFace_of_selects (args := #[]) (mvT hZ (ww hw 40 rfl))) (mvT hZ (ww hw 40 rfl)) (mvT hZ (ww hw 39 rfl)) (by decide) (backOf (W := 0) (rmA3 l Z av0 hw [] b28 ac29 kc29 ((p1 &&& (16383 : Int32)) + (1 : Int32)) ((p2 &&& (16383 : Int32)) + (1 : Int32)) ((p3 &&& (16383 : Int32)) + (1 : Int32)) T29.heap n0 SZ29 QF29 QA29) hZ (ww hw 41 rfl) (ww hw 3 rfl) (by decide) (by decide)) q30a q30c (g := (mkF m 173 #[.val (.int p0), .val (.int p1), .val (.int p2), .val (.int p3), .val (.int (3 : Int32)), .val (.ref b21), .val (.int ((((p1 &&& (16383 : Int32)) + (1 : Int32)) + ((p2 &&& (16383 : Int32)) + (1 : Int32))) + ((p3 &&& (16383 : Int32)) + (1 : Int32)))), .val (.ref b28), .val (.int ((p2 &&& (16383 : Int32)) + (1 : Int32))), .val (.int ((p3 &&& (16383 : Int32)) + (1 : Int32)))] [(.ref b28)])) rfl (by rw [hml]; rfl) (Steps.refl _) (argsL := []) (rest := []) (lenOf pd_2 rfl) rfl (by show 2 * 0 + _ ≤ _; exact Nat.le_of_eq rfl) (dd at_173) (fun _ _ => ⟨rfl, rfl, (by decide : 10 + 0 ≤ _), (by decide : 33 + 0 ≤ _)⟩)
    dsimp only [Pt.U, Pt.locs, Pt.cells, Pt.slots, Q_rmA3] at X30 l30 y30 z30 st30 hQ30
    subst l30 y30 z30
    obtain ⟨rfl, N30q, e30⟩ := hQ30
    have N30 := Fr.app N29 N30q
    refine Gz.tr st30 ?_
    refine Gz.iload 178 X30 hx (dd at_176) rfl rfl ?_
    refine Gz.icmpNo 181 X30 hx (dd at_178) (teq ((by unfold fA3; simp only [Int32.zero_add]) : (fA3 b28 ac29 ((p1 &&& (16383 : Int32)) + (1 : Int32)) ((p2 &&& (16383 : Int32)) + (1 : Int32)) ((p3 &&& (16383 : Int32)) + (1 : Int32))) = ((((p1 &&& (16383 : Int32)) + (1 : Int32)) + ((p2 &&& (16383 : Int32)) + (1 : Int32))) + ((p3 &&& (16383 : Int32)) + (1 : Int32))))).2 rfl ?_
    refine Gz.iconst 182 (1 : Int32) X30 hx (dd at_181) rfl rfl ?_
    refine Gz.goto 186 X30 hx (dd at_182) (by decide) (by decide) ?_
    refine Gz.fin X30 (v := some (.int (1 : Int32))) (fun h => by rw [hret] at h; cases h) hlk (by decide) (by decide) (fun fs hr => retN X30 hx (t := .boolean) hret (by simp) (dd at_186) hr) ?_
    exact ⟨rfl, N30⟩
set_option maxRecDepth 65536 in
set_option maxHeartbeats 40000000 in
theorem comes_1 {Post : Tables → Env → Array Value → State → Outcome → State → Prop} (hpost : ∀ tb e args s v u, (limb_1_1.after args s (.returned v) u = true ∧ limb_1_2.after args s (.returned v) u = true ∧ True) → FrameEnd s (.returned v) u (Jvm.fieldLocs frame_1_writes args s ++ Jvm.arrayLocs frame_1_arrays args s ++ Jvm.staticLocs frame_1_statics s) 32 192 → Post tb e args s (.returned v) u) :
    ArmFor flags0 classFile x code maxLocals ret World_1 tables_1 room_1 Calls_1 rest_1 Pre_1 Post := by
  intro l hfl _ _ p e ha hc hk s m args below hf hA hF happ hP
  obtain ⟨hcalls, hrest, hpre⟩ := hP
  obtain ⟨-, -, -, hnamed, -, -, -, hat⟩ := (Spec.applies_iff hf).mp happ
  obtain ⟨hg, hn⟩ := and_e (Cond.before_iff.mp (show (Jvm.Cond.and given_1 narrow_1).before args s = true from hpre))
  obtain ⟨hcnt, hg0⟩ := and_e hg
  obtain ⟨ha0, hg1⟩ := and_e hg0
  obtain ⟨ha1, hg2⟩ := and_e hg1
  obtain ⟨ha2, hg3⟩ := and_e hg2
  have ha3 := hg3
  obtain ⟨w0, w1, w2, w3, rfl⟩ : ∃ w0 w1 w2 w3 : Value, args = #[w0, w1, w2, w3] := by
    have hs : args.size = 4 := by simpa [Cond.value, given_1] using hcnt
    obtain ⟨L⟩ := args
    match L, hs with
    | [w0, w1, w2, w3], _ => exact ⟨w0, w1, w2, w3, rfl⟩
  have hw := fun d (hd : d ∈ tables_1) => atoms_spec (ws := Jvm.Cond.code x code maxLocals ret :: tables_1) hat d (List.mem_cons_of_mem _ hd)
  have hfit : Fit s := fun {y c} hc i hi => by
    obtain ⟨ha, rfl⟩ := Array.getElem?_eq_some_iff.mp hc
    have q := List.all_eq_true.mp ((Array.all_eq_true_iff_forall_mem.mp hF) _ (Array.getElem_mem ha)) i (List.mem_range.mpr hi)
    simpa [Array.getElem?_eq_getElem hi] using q
  obtain ⟨i0, ei0⟩ := is_v ha0
  obtain rfl : w0 = (.int i0) := Option.some.inj ei0
  obtain ⟨i1, ei1⟩ := is_v ha1
  obtain rfl : w1 = (.int i1) := Option.some.inj ei1
  obtain ⟨i2, ei2⟩ := is_v ha2
  obtain rfl : w2 = (.int i2) := Option.some.inj ei2
  obtain ⟨i3, ei3⟩ := is_v ha3
  obtain rfl : w3 = (.int i3) := Option.some.inj ei3
  obtain ⟨n, o, h1, h2, h3, _, L, rfl, ⟨rfl, N⟩, hq⟩ := rm0 l s _ hw tables_1 i0 i1 i2 i3  s.heap s.heap.size (Nat.le_refl _)  p e ha hc hk s m _ below hf ((Spec.applies_iff_loose hf).mp happ).1 ⟨rfl, State.Warmed39.refl s, rfl⟩ trivial
  refine ⟨n, _, h1, h2, h3, hpost _ _ _ _ _ _ ⟨Cond.after_iff.mpr rfl, Cond.after_iff.mpr (eq_i res_at (Term.int_eval (1)) rfl), trivial⟩ ⟨hq.1, hq.2.1, (hq.2.2.sift fun y hy => Or.inr (N y hy)).mono (by decide) (by decide)⟩⟩
theorem main_1_1 : Claimed_1_1 := comes_1 fun _ _ _ _ _ _ h hF => ⟨h.1, hF⟩
theorem main_1_2 : Claimed_1_2 := comes_1 fun _ _ _ _ _ _ h hF => ⟨h.2.1, hF⟩
end Jvm.Pilot.@@N@@
namespace Jvm.Pilot.@@N@@
open Jvm Jvm.ClassFile Sem Op Lib Jvm.Free Jvm.Stand Jvm.Pilot.@@N@@.Jvm.D
/-! MADE BY PROGRAM (witnessworld.py) out of the Statement's table words and the real class files: 10 classes; the members and pool entries that the words name. The judged class is class 1, her method 1. -/
namespace start1
open Jvm.ClassFile
def u (s : String) : CpInfo := .utf8 (stringToUtf16 s)
/-- a pool by its gaps: so many unusable entries, then the entry; so many at the end -/
def gap : Nat → List CpInfo → List CpInfo
  | 0, r => r
  | n + 1, r => .unusable :: gap n r
def poolList (es : List (Nat × CpInfo)) (last : Nat) : List CpInfo := es.foldr (fun e r => gap e.1 (e.2 :: r)) (gap last [])
def pool (es : List (Nat × CpInfo)) (last : Nat) : Array CpInfo := ⟨poolList es last⟩
def fileOf (pool : Array CpInfo) (this : Nat) (attrs : Array Attribute := #[]) (ms : Array MethodInfo := #[]) (fl : Nat := 33) (sup : Nat := 0) (ifs : Array Nat := #[]) (fds : Array FieldInfo := #[]) : ClassFile where
  minorVersion := 0
  majorVersion := 65
  constantPool := pool
  accessFlags := fl
  thisClass := this
  superClass := sup
  interfaces := ifs
  fields := fds
  methods := ms
  attributes := attrs
def plain (name : String) (sup : Option ClassId) : Class where
  name := name
  kind := .ordinary
  loader := none
  accessFlags := 33
  super := sup
  interfaces := #[]
  cf := none
  fields := #[]
  methods := #[]
  instanceTypes := #[]
  staticTypes := #[]
  resolved := #[]
  callSites := []
  init := .initialized
  statics := none
  mirror := none

def pool0 : Array CpInfo := pool [(5, u "<init>"), (0, u "()V"), (1, .class_ 10), (1, u "java/lang/Object"), (85, u "clone"), (0, u "()Ljava/lang/Object;")] 26

def k0c0 : Code := { maxStack := 0, maxLocals := 1, code := object_method_1_code, exceptionTable := #[], attributes := #[] }
def k0m0 : Method := { name := "<init>", desc := "()V", sig := { parameters := [], returnType := none }, accessFlags := 1, code := some k0c0 }
def k0m1 : Method := { name := "clone", desc := "()Ljava/lang/Object;", sig := { parameters := [], returnType := some (.object "java/lang/Object") }, accessFlags := 260, code := none }
/-- java/lang/Object -/
def k0 : Class := { plain "java/lang/Object" none with
  accessFlags := 33
  interfaces := #[]
  cf := some (fileOf pool0 8 #[] #[{ accessFlags := 1, nameIndex := 5, descriptorIndex := 6, attributes := #[] }, { accessFlags := 260, nameIndex := 96, descriptorIndex := 97, attributes := #[] }] 33 0 #[] #[])
  fields := #[]
  methods := #[k0m0, k0m1]
  instanceTypes := #[]
  staticTypes := #[]
  resolved := Array.replicate 124 none
  statics := none }

def pool1 : Array CpInfo := pool [(2, .class_ 4), (1, u "java/lang/Object"), (0, u "<init>"), (0, u "()V"), (0, .integer 2147483647), (0, .methodref 9 10), (0, .class_ 11), (0, .nameAndType 12 13), (0, u "java/lang/Math"), (0, u "max"), (0, u "(II)I"), (0, .class_ 15), (0, u "com/example/minsuite/minsuite/ValuePairs"), (0, .methodref 14 17), (0, .nameAndType 5 18), (0, u "([I)V"), (0, .methodref 14 20), (0, .nameAndType 21 22), (0, u "allValues"), (0, u "()I"), (0, .class_ 24), (0, u "com/example/minsuite/minsuite/ValuePairsAllValuesPinLaw"), (2, u "law"), (0, u "(IIII)Z")] 5

def k1m0 : Method := { name := "<init>", desc := "()V", sig := { parameters := [], returnType := none }, accessFlags := 1, code := none }
def k1c1 : Code := { maxStack := 4, maxLocals := 10, code := code, exceptionTable := #[], attributes := #[] }
def k1m1 : Method := { name := "law", desc := "(IIII)Z", sig := { parameters := [.int, .int, .int, .int], returnType := some .boolean }, accessFlags := 9, code := some k1c1 }
/-- com/example/minsuite/minsuite/ValuePairsAllValuesPinLaw -/
def k1 : Class := { plain "com/example/minsuite/minsuite/ValuePairsAllValuesPinLaw" (some 0) with
  accessFlags := 49
  interfaces := #[]
  cf := some (fileOf pool1 23 #[] #[{ accessFlags := 1, nameIndex := 5, descriptorIndex := 6, attributes := #[] }, { accessFlags := 9, nameIndex := 27, descriptorIndex := 28, attributes := #[] }] 49 2 #[] #[])
  fields := #[]
  methods := #[k1m0, k1m1]
  instanceTypes := #[]
  staticTypes := #[]
  resolved := Array.replicate 34 none
  statics := none }

def pool2 : Array CpInfo := pool [(3, .methodref 4 5), (0, .class_ 6), (0, .nameAndType 7 8), (0, u "java/lang/Object"), (0, u "<init>"), (0, u "()V"), (0, .methodref 10 11), (0, .class_ 12), (0, .nameAndType 13 14), (0, u "com/example/minsuite/minsuite/ValuePairs"), (0, u "count"), (0, u "([I)J"), (0, .long 2147483639), (10, .methodref 27 28), (0, .class_ 29), (0, .nameAndType 30 31), (0, u "[I"), (0, u "clone"), (0, u "()Ljava/lang/Object;"), (0, .fieldref 10 33), (0, .nameAndType 34 29), (0, u "valueCounts"), (0, .class_ 36), (0, u "[[I"), (0, .fieldref 10 38), (0, .nameAndType 39 36), (0, u "start"), (0, .fieldref 10 41), (0, .nameAndType 42 29), (0, u "firstOf"), (0, .fieldref 10 44), (0, .nameAndType 45 29), (0, u "secondOf"), (0, .fieldref 10 47), (0, .nameAndType 48 29), (0, u "startOf"), (0, .fieldref 10 50), (0, .nameAndType 13 51), (0, u "I"), (5, u "([I)V"), (27, u "MAX_COUNT"), (0, u "J"), (4, u "()I"), (2, u "allValues")] 28

def k2c0 : Code := { maxStack := 4, maxLocals := 10, code := prog_43_method_1_code, exceptionTable := #[], attributes := #[] }
def k2m0 : Method := { name := "<init>", desc := "([I)V", sig := { parameters := [(.array .int)], returnType := none }, accessFlags := 0, code := some k2c0 }
def k2c1 : Code := { maxStack := 6, maxLocals := 9, code := prog_43_method_2_code, exceptionTable := #[], attributes := #[] }
def k2m1 : Method := { name := "count", desc := "([I)J", sig := { parameters := [(.array .int)], returnType := some .long }, accessFlags := 8, code := some k2c1 }
def k2c2 : Code := { maxStack := 2, maxLocals := 6, code := prog_43_method_6_code, exceptionTable := #[], attributes := #[] }
def k2m2 : Method := { name := "allValues", desc := "()I", sig := { parameters := [], returnType := some .int }, accessFlags := 0, code := some k2c2 }
/-- com/example/minsuite/minsuite/ValuePairs -/
def k2 : Class := { plain "com/example/minsuite/minsuite/ValuePairs" (some 0) with
  accessFlags := 48
  interfaces := #[]
  cf := some (fileOf pool2 10 #[] #[{ accessFlags := 0, nameIndex := 7, descriptorIndex := 57, attributes := #[] }, { accessFlags := 8, nameIndex := 13, descriptorIndex := 14, attributes := #[] }, { accessFlags := 0, nameIndex := 94, descriptorIndex := 91, attributes := #[] }] 48 4 #[] #[{ accessFlags := 24, nameIndex := 85, descriptorIndex := 86, attributes := #[] }, { accessFlags := 18, nameIndex := 34, descriptorIndex := 29, attributes := #[] }, { accessFlags := 18, nameIndex := 13, descriptorIndex := 51, attributes := #[] }, { accessFlags := 18, nameIndex := 39, descriptorIndex := 36, attributes := #[] }, { accessFlags := 18, nameIndex := 42, descriptorIndex := 29, attributes := #[] }, { accessFlags := 18, nameIndex := 45, descriptorIndex := 29, attributes := #[] }, { accessFlags := 18, nameIndex := 48, descriptorIndex := 29, attributes := #[] }])
  fields := #[{ name := "MAX_COUNT", type := .long, accessFlags := 24, slot := 0, constantValue := 0 }, { name := "valueCounts", type := (.array .int), accessFlags := 18, slot := 0, constantValue := 0 }, { name := "count", type := .int, accessFlags := 18, slot := 1, constantValue := 0 }, { name := "start", type := (.array (.array .int)), accessFlags := 18, slot := 2, constantValue := 0 }, { name := "firstOf", type := (.array .int), accessFlags := 18, slot := 3, constantValue := 0 }, { name := "secondOf", type := (.array .int), accessFlags := 18, slot := 4, constantValue := 0 }, { name := "startOf", type := (.array .int), accessFlags := 18, slot := 5, constantValue := 0 }]
  methods := #[k2m0, k2m1, k2m2]
  instanceTypes := #[(.array .int), .int, (.array (.array .int)), (.array .int), (.array .int), (.array .int)]
  staticTypes := #[.long]
  resolved := Array.replicate 123 none
  statics := none }

def pool3 : Array CpInfo := pool [(1, .class_ 2), (0, u "java/lang/Cloneable"), (0, .class_ 4), (0, u "java/lang/Object")] 2

/-- java/lang/Cloneable -/
def k3 : Class := { plain "java/lang/Cloneable" (some 0) with
  accessFlags := 1537
  interfaces := #[]
  cf := some (fileOf pool3 1 #[] #[] 1537 3 #[] #[])
  fields := #[]
  methods := #[]
  instanceTypes := #[]
  staticTypes := #[]
  resolved := Array.replicate 7 none
  statics := none }

def pool4 : Array CpInfo := pool [(1, .class_ 2), (0, u "java/lang/Math"), (1, .class_ 6), (1, u "java/lang/Object"), (0, u "<init>"), (0, u "()V"), (89, .class_ 100), (1, u "java/lang/Math$RandomNumberGeneratorHolder"), (71, u "negativeZeroFloatBits"), (0, u "J"), (2, u "negativeZeroDoubleBits"), (21, u "max"), (46, u "$assertionsDisabled"), (0, u "Z"), (88, u "(II)I"), (2, u "twoToTheDoubleScaleDown"), (0, u "D"), (4, u "twoToTheDoubleScaleUp"), (9, u "E"), (3, u "PI"), (2, u "TAU"), (2, u "DEGREES_TO_RADIANS"), (0, u "RADIANS_TO_DEGREES")] 94

def k4m0 : Method := { name := "<init>", desc := "()V", sig := { parameters := [], returnType := none }, accessFlags := 2, code := none }
def k4c1 : Code := { maxStack := 2, maxLocals := 2, code := jdk_29_method_65_code, exceptionTable := #[], attributes := #[] }
def k4m1 : Method := { name := "max", desc := "(II)I", sig := { parameters := [.int, .int], returnType := some .int }, accessFlags := 9, code := some k4c1 }
/-- java/lang/Math -/
def k4 : Class := { plain "java/lang/Math" (some 0) with
  accessFlags := 49
  interfaces := #[]
  cf := some (fileOf pool4 1 #[.nestMembers #[98]] #[{ accessFlags := 2, nameIndex := 7, descriptorIndex := 8, attributes := #[] }, { accessFlags := 9, nameIndex := 198, descriptorIndex := 335, attributes := #[] }] 49 4 #[] #[{ accessFlags := 25, nameIndex := 354, descriptorIndex := 339, attributes := #[] }, { accessFlags := 25, nameIndex := 358, descriptorIndex := 339, attributes := #[] }, { accessFlags := 25, nameIndex := 361, descriptorIndex := 339, attributes := #[] }, { accessFlags := 26, nameIndex := 364, descriptorIndex := 339, attributes := #[] }, { accessFlags := 26, nameIndex := 365, descriptorIndex := 339, attributes := #[] }, { accessFlags := 26, nameIndex := 172, descriptorIndex := 173, attributes := #[] }, { accessFlags := 26, nameIndex := 176, descriptorIndex := 173, attributes := #[] }, { accessFlags := 8, nameIndex := 344, descriptorIndex := 339, attributes := #[] }, { accessFlags := 8, nameIndex := 338, descriptorIndex := 339, attributes := #[] }, { accessFlags := 4120, nameIndex := 245, descriptorIndex := 246, attributes := #[] }])
  fields := #[{ name := "E", type := .double, accessFlags := 25, slot := 0, constantValue := 0 }, { name := "PI", type := .double, accessFlags := 25, slot := 1, constantValue := 0 }, { name := "TAU", type := .double, accessFlags := 25, slot := 2, constantValue := 0 }, { name := "DEGREES_TO_RADIANS", type := .double, accessFlags := 26, slot := 3, constantValue := 0 }, { name := "RADIANS_TO_DEGREES", type := .double, accessFlags := 26, slot := 4, constantValue := 0 }, { name := "negativeZeroFloatBits", type := .long, accessFlags := 26, slot := 5, constantValue := 0 }, { name := "negativeZeroDoubleBits", type := .long, accessFlags := 26, slot := 6, constantValue := 0 }, { name := "twoToTheDoubleScaleUp", type := .double, accessFlags := 8, slot := 7, constantValue := 0 }, { name := "twoToTheDoubleScaleDown", type := .double, accessFlags := 8, slot := 8, constantValue := 0 }, { name := "$assertionsDisabled", type := .boolean, accessFlags := 4120, slot := 9, constantValue := 0 }]
  methods := #[k4m0, k4m1]
  instanceTypes := #[]
  staticTypes := #[.double, .double, .double, .double, .double, .long, .long, .double, .double, .boolean]
  resolved := Array.replicate 460 none
  statics := none }

def pool5 : Array CpInfo := pool [(1, u "java/io/Serializable"), (0, .class_ 1), (0, u "java/lang/Object"), (0, .class_ 3)] 3

/-- java/io/Serializable -/
def k5 : Class := { plain "java/io/Serializable" (some 0) with
  accessFlags := 1537
  interfaces := #[]
  cf := some (fileOf pool5 2 #[] #[] 1537 4 #[] #[])
  fields := #[]
  methods := #[]
  instanceTypes := #[]
  staticTypes := #[]
  resolved := Array.replicate 8 none
  statics := none }

/-- the primitive byte -/
def k6 : Class := { plain "byte" none with kind := .primitive 'B', accessFlags := 0x411 }
/-- [B -/
def k7 : Class := { plain "[B" (some 0) with kind := .array 6 .byte, interfaces := #[3, 5], accessFlags := 1041 }

/-- the primitive int -/
def k8 : Class := { plain "int" none with kind := .primitive 'I', accessFlags := 0x411 }
/-- [I -/
def k9 : Class := { plain "[I" (some 0) with kind := .array 8 .int, interfaces := #[3, 5], accessFlags := 1041 }

/-- [[I -/
def k10 : Class := { plain "[[I" (some 0) with kind := .array 9 (.array .int), interfaces := #[3, 5], accessFlags := 1041 }

def heap : Heap := #[]
def classes : Array Class := #[k0, k1, k2, k3, k4, k5, k6, k7, k8, k9, k10]
def interned : List (Array UInt16 × Addr) := []
def slotsUsed : Nat := 0
def theMethod : MethodId := ⟨1, 1⟩
def args0 : Array Value := #[.int 1, .int 2, .int 3, .int 4]
def aboutOver (below : List Frame) : State where
  vm := { classes := classes, interned := interned.toArray }
  heap := heap
  slotsUsed := slotsUsed
  threads := #[{ frames := .invoking theMethod args0 :: below }]
def below0 : List Frame := [.native { method := ⟨0, 0⟩, args := #[] }]
def about1 : State := aboutOver below0
def p0 : Program := .bare "" "" ""
def e0 : Env := launch0.env 0 0 0
theorem w_frames : about1.frames = Frame.invoking theMethod args0 :: below0 := rfl
set_option maxRecDepth 65536 in
theorem w_args : argsFit about1.vm theMethod args0 = true := by decide +kernel
set_option maxRecDepth 65536 in
theorem w_heap : heapFits about1 = true := by decide +kernel
set_option maxRecDepth 65536 in
theorem w_runnable : about1.curStatus? = some .runnable := by decide +kernel
set_option maxRecDepth 65536 in
theorem w_alone : about1.alone = true := by decide +kernel
set_option maxRecDepth 65536 in
theorem w_named : about1.methodNamed? x = some theMethod := by decide +kernel
set_option maxRecDepth 65536 in
theorem w_hears : about1.hears theMethod below0 = true := by decide +kernel
set_option maxRecDepth 65536 in
theorem w_ripe : about1.ripe theMethod args0 below0 = true := by decide +kernel
theorem w_running : about1.status = .running := rfl
set_option maxRecDepth 65536 in
theorem w_room : about1.hasRoom e0.platform room_1 = true :=
  launch0.hasRoom_least _ room_1 (by decide +kernel) (by decide +kernel) (by decide +kernel) (by decide +kernel) (by decide +kernel) (by decide +kernel)
theorem allAtoms_all (ts : List Jvm.Cond) (a : Array Jvm.Value) (st : Jvm.State) : (allAtoms ts).before a st = ts.all (fun c => c.before a st) := by
  induction ts with
  | nil => rfl
  | cons c t ih =>
    show (Jvm.Cond.and c (allAtoms t)).before a st = _
    rw [Jvm.Cond.before_and, ih, List.all_cons]
def words1 : List Jvm.Cond := Jvm.Cond.code x code maxLocals ret :: tables_1
/-- a 'code' word, met by the world's own term for the bytes: nothing is compared byte by byte -/
theorem code_word {y : MethodName} {bytes : ByteArray} {mx : Nat} {rt : Option FieldType} {a : Array Value} {s : State} {m : MethodId} {meth : Method} {c : Code} (h1 : s.methodNamed? y = some m) (h2 : s.vm.method? m = some meth) (h3 : meth.code = some c) (h4 : c.code = bytes)
    (h5 : (c.maxLocals == mx && c.exceptionTable.isEmpty && decide (c.maxStack ≤ mostOperands) && decide (meth.sig.returnType = rt) && !meth.locks && decide (parseMethodDescriptor y.desc = some meth.sig)) = true) : (Jvm.Cond.code y bytes mx rt).before a s = true := by
  simp only [Bool.and_eq_true, beq_iff_eq, Bool.not_eq_true', decide_eq_true_eq] at h5
  obtain ⟨⟨⟨⟨⟨g1, g2⟩, g3⟩, g4⟩, g5⟩, g6⟩ := h5
  simp [Cond.before, Cond.holds, Cond.value, h1, h2, h3, h4, g1, g2, g3, g4, g5, g6]
def isCode : Jvm.Cond → Bool
  | .code _ _ _ _ => true
  | _ => false
theorem all_split {L : List Jvm.Cond} {P : Jvm.Cond → Bool} (h1 : L.all (fun c => isCode c || P c) = true) (h2 : ∀ c ∈ L.filter isCode, P c = true) : L.all P = true := by
  refine List.all_eq_true.mpr fun c hc => ?_
  have h := List.all_eq_true.mp h1 c hc
  rcases Bool.eq_false_or_eq_true (isCode c) with hi | hi
  · exact h2 c (List.mem_filter.mpr ⟨hc, hi⟩)
  · simpa [hi] using h
set_option maxRecDepth 65536 in
theorem w_c0 : (Jvm.Cond.code x code maxLocals ret).before args0 about1 = true := code_word (m := ⟨1, 1⟩) (meth := k1m1) (c := k1c1) (by decide +kernel) rfl rfl rfl (by decide +kernel)
set_option maxRecDepth 65536 in
theorem w_c1 : (Jvm.Cond.code ({ cls := "com/example/minsuite/minsuite/ValuePairs", name := "<init>", desc := "([I)V" } : Jvm.MethodName) prog_43_method_1_code (10 : Nat) (Option.none : Option Jvm.ClassFile.FieldType)).before args0 about1 = true := code_word (m := ⟨2, 0⟩) (meth := k2m0) (c := k2c0) (by decide +kernel) rfl rfl rfl (by decide +kernel)
set_option maxRecDepth 65536 in
theorem w_c2 : (Jvm.Cond.code ({ cls := "java/lang/Object", name := "<init>", desc := "()V" } : Jvm.MethodName) object_method_1_code (1 : Nat) (Option.none : Option Jvm.ClassFile.FieldType)).before args0 about1 = true := code_word (m := ⟨0, 0⟩) (meth := k0m0) (c := k0c0) (by decide +kernel) rfl rfl rfl (by decide +kernel)
set_option maxRecDepth 65536 in
theorem w_c3 : (Jvm.Cond.code ({ cls := "com/example/minsuite/minsuite/ValuePairs", name := "count", desc := "([I)J" } : Jvm.MethodName) prog_43_method_2_code (9 : Nat) (Option.some Jvm.ClassFile.FieldType.long)).before args0 about1 = true := code_word (m := ⟨2, 1⟩) (meth := k2m1) (c := k2c1) (by decide +kernel) rfl rfl rfl (by decide +kernel)
set_option maxRecDepth 65536 in
theorem w_c4 : (Jvm.Cond.code ({ cls := "com/example/minsuite/minsuite/ValuePairs", name := "allValues", desc := "()I" } : Jvm.MethodName) prog_43_method_6_code (6 : Nat) (Option.some Jvm.ClassFile.FieldType.int)).before args0 about1 = true := code_word (m := ⟨2, 2⟩) (meth := k2m2) (c := k2c2) (by decide +kernel) rfl rfl rfl (by decide +kernel)
set_option maxRecDepth 65536 in
theorem w_c5 : (Jvm.Cond.code ({ cls := "java/lang/Math", name := "max", desc := "(II)I" } : Jvm.MethodName) jdk_29_method_65_code (2 : Nat) (Option.some Jvm.ClassFile.FieldType.int)).before args0 about1 = true := code_word (m := ⟨4, 1⟩) (meth := k4m1) (c := k4c1) (by decide +kernel) rfl rfl rfl (by decide +kernel)
def codes1 : List Jvm.Cond := [Jvm.Cond.code x code maxLocals ret, Jvm.Cond.code ({ cls := "com/example/minsuite/minsuite/ValuePairs", name := "<init>", desc := "([I)V" } : Jvm.MethodName) prog_43_method_1_code (10 : Nat) (Option.none : Option Jvm.ClassFile.FieldType), Jvm.Cond.code ({ cls := "java/lang/Object", name := "<init>", desc := "()V" } : Jvm.MethodName) object_method_1_code (1 : Nat) (Option.none : Option Jvm.ClassFile.FieldType), Jvm.Cond.code ({ cls := "com/example/minsuite/minsuite/ValuePairs", name := "count", desc := "([I)J" } : Jvm.MethodName) prog_43_method_2_code (9 : Nat) (Option.some Jvm.ClassFile.FieldType.long), Jvm.Cond.code ({ cls := "com/example/minsuite/minsuite/ValuePairs", name := "allValues", desc := "()I" } : Jvm.MethodName) prog_43_method_6_code (6 : Nat) (Option.some Jvm.ClassFile.FieldType.int), Jvm.Cond.code ({ cls := "java/lang/Math", name := "max", desc := "(II)I" } : Jvm.MethodName) jdk_29_method_65_code (2 : Nat) (Option.some Jvm.ClassFile.FieldType.int)]
set_option maxRecDepth 65536 in
theorem codes_eq : words1.filter isCode = codes1 := rfl
theorem w_codes : ∀ c ∈ words1.filter isCode, c.before args0 about1 = true := by
  rw [codes_eq]
  intro c hc
  simp only [codes1, List.mem_cons, List.not_mem_nil, or_false] at hc
  rcases hc with rfl | rfl | rfl | rfl | rfl | rfl
  · exact w_c0
  · exact w_c1
  · exact w_c2
  · exact w_c3
  · exact w_c4
  · exact w_c5
set_option maxRecDepth 65536 in
theorem w_t1 : (words1.take 24).all (fun c => isCode c || c.before args0 about1) = true := by decide +kernel
set_option maxRecDepth 65536 in
theorem w_t2 : (words1.drop 24).all (fun c => isCode c || c.before args0 about1) = true := by decide +kernel
theorem w_tables : (allAtoms (Jvm.Cond.code x code maxLocals ret :: tables_1)).before args0 about1 = true := by
  rw [allAtoms_all]
  show words1.all (fun c => c.before args0 about1) = true
  refine all_split ?_ w_codes
  rw [← List.take_append_drop 24 words1, List.all_append, w_t1, w_t2]
  rfl
set_option maxRecDepth 65536 in
theorem w_case : (Jvm.Cond.and given_1 narrow_1).before args0 about1 = true := by decide +kernel
theorem w_applies : (headSpec (Jvm.Cond.code x code maxLocals ret :: tables_1) room_1).applies x e0.platform about1 = true :=
  (Spec.applies_iff w_frames).mpr ⟨w_running, w_runnable, w_alone, w_named, w_hears, w_ripe, w_room, w_tables⟩
theorem atStart : AtStart classFile x code maxLocals ret World_1 tables_1 room_1 Calls_1 rest_1 Pre_1 launch0 p0 e0 about1 theMethod args0 below0 :=
  ⟨lists_1, trivial, launch0.admits_env _ _ _, launch0.least_env, fairChoices_fair.cas, fairChoices_fair.clock, w_frames, w_args, w_heap, w_applies, trivial, trivial, w_case⟩
end start1
theorem witness_1 : WitnessClaimed_1 := ⟨start1.p0, start1.e0, start1.about1, start1.theMethod, start1.args0, start1.below0, start1.atStart⟩
end Jvm.Pilot.@@N@@
