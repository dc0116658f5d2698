import JvmDerived
import JvmDerived.Pilot.@@N@@Statement
import JvmDerived.Pilot.@@N@@Code
set_option linter.unusedVariables false
set_option linter.unusedSimpArgs false
namespace Jvm.RoadKit
open Sem ClassFile Op Lib Jvm.Stand Jvm.Free Jvm.LawKit
section New
variable {p : Program} {l : Launch} {e : Env} {R : Room} {s : State} {m : MethodId} {args : Array Value} {below : List Frame} {meth : Method} {c : Code} {T : State} {locs : List Loc} {cells slots : Nat}
theorem retI (X : Stand p l e R s m args below meth c T locs cells slots) (hx : p.tables.exec = Jvm.exec) {pc : Nat} {Ls : Array Slot} {z : Int32} {rest : List Value} (hret : meth.sig.returnType = some .int) (hd : decode c.code pc = .ok (.ireturn, 1)) {fs : List Frame}
    (hl : ∀ (f : JFrame) (acts : List Action), f.method = m → f.locked = none → f.entered = [] → (doReturn e (T.setTop f) acts (some (.int z))).1 = T.setFrames fs) : Steps p.tables e below (T.setTop (mkF m pc Ls (.int z :: rest))) (T.setFrames fs) :=
  retOut X hx hret rfl (Or.inl ⟨rfl, Or.inl rfl, z, rfl⟩) hd hl
theorem retJ (X : Stand p l e R s m args below meth c T locs cells slots) (hx : p.tables.exec = Jvm.exec) {pc : Nat} {Ls : Array Slot} {z : Int64} {rest : List Value} (hret : meth.sig.returnType = some .long) (hd : decode c.code pc = .ok (.lreturn, 1)) {fs : List Frame}
    (hl : ∀ (f : JFrame) (acts : List Action), f.method = m → f.locked = none → f.entered = [] → (doReturn e (T.setTop f) acts (some (.long z))).1 = T.setFrames fs) : Steps p.tables e below (T.setTop (mkF m pc Ls (.long z :: rest))) (T.setFrames fs) :=
  retOut X hx hret rfl (Or.inr (Or.inl ⟨rfl, rfl, z, rfl⟩)) hd hl
theorem retA (X : Stand p l e R s m args below meth c T locs cells slots) (hx : p.tables.exec = Jvm.exec) {pc : Nat} {Ls : Array Slot} {w : Value} {t : FieldType} {rest : List Value} (hret : meth.sig.returnType = some t) (hd : decode c.code pc = .ok (.areturn, 1)) {fs : List Frame}
    (hl : ∀ (f : JFrame) (acts : List Action), f.method = m → f.locked = none → f.entered = [] → (doReturn e (T.setTop f) acts (some w)).1 = T.setFrames fs) (ht : t.isReference = true) (hw : w.isRef = true) : Steps p.tables e below (T.setTop (mkF m pc Ls (w :: rest))) (T.setFrames fs) :=
  retOut X hx hret (by cases t <;> first | rfl | (cases ht; done)) (Or.inr (Or.inr (Or.inr (Or.inr ⟨rfl, ht, hw⟩)))) hd hl
/-- from the state S on, the body runs to its end and leaves what Q says -/
def Gz (p : Program) (e : Env) (below : List Frame) (s : State) (C N : Nat) (Q : Option Value → Heap → List Loc → Prop) (S : State) : Prop :=
  ∃ s₂ o, Steps p.tables e below S s₂ ∧ s₂.status = .running ∧ Ended s₂ below o ∧ ∃ v L, o = .returned v ∧ Q v s₂.heap L ∧ FrameEnd s o s₂ L C N
variable {C N : Nat} {Q : Option Value → Heap → List Loc → Prop} {S S' : State}
theorem Gz.st (k : ∀ t, Steps p.tables e below S' t → Steps p.tables e below S t) (h : Gz p e below s C N Q S') : Gz p e below s C N Q S := by
  obtain ⟨s₂, o, h1, h2⟩ := h
  exact ⟨s₂, o, k _ h1, h2⟩
theorem Gz.tr (k : Steps p.tables e below S S') (h : Gz p e below s C N Q S') : Gz p e below s C N Q S := by
  obtain ⟨s₂, o, h1, h2⟩ := h
  exact ⟨s₂, o, k.trans h1, h2⟩
variable {pc : Nat} {Ls : Array Slot} {st : List Value} {Z : State} {a0 : Array Value} {hh : Heap}
theorem Gz.iloadN (n : Nat) {k : Fin 4} {v : Int32} (X : Stand p l e R s m args below meth c T locs cells slots) (hx : p.tables.exec = Jvm.exec) (hd : decode c.code pc = .ok (.iload_n k, 1)) (hl : Ls[k.val]? = some (.val (.int v))) (q : pc + 1 = n) (h : Gz p e below s C N Q (T.setTop (mkF m n Ls (.int v :: st)))) : Gz p e below s C N Q (T.setTop (mkF m pc Ls st)) := by subst q; exact Gz.st (fun t k => XS.iloadN X.here hx rfl hd hl k) h
theorem Gz.iload (n : Nat) {k : Nat} {v : Int32} (X : Stand p l e R s m args below meth c T locs cells slots) (hx : p.tables.exec = Jvm.exec) (hd : decode c.code pc = .ok (.iload k, 2)) (hl : Ls[k]? = some (.val (.int v))) (q : pc + 2 = n) (h : Gz p e below s C N Q (T.setTop (mkF m n Ls (.int v :: st)))) : Gz p e below s C N Q (T.setTop (mkF m pc Ls st)) := by subst q; exact Gz.st (fun t k => XS.iload X.here hx rfl hd hl k) h
theorem Gz.istore (n : Nat) (l' : Array Slot) {k : Nat} {v : Int32} (X : Stand p l e R s m args below meth c T locs cells slots) (hx : p.tables.exec = Jvm.exec) (hd : decode c.code pc = .ok (.istore k, 2)) (hl : storeLocals Ls k (.int v) = some l') (q : pc + 2 = n) (h : Gz p e below s C N Q (T.setTop (mkF m n l' st))) : Gz p e below s C N Q (T.setTop (mkF m pc Ls (.int v :: st))) := by subst q; exact Gz.st (fun t k => XS.istore X.here hx rfl hd rfl hl k) h
theorem Gz.lloadN (n : Nat) {k : Fin 4} {v : Int64} (X : Stand p l e R s m args below meth c T locs cells slots) (hx : p.tables.exec = Jvm.exec) (hd : decode c.code pc = .ok (.lload_n k, 1)) (hl : Ls[k.val]? = some (.val (.long v))) (q : pc + 1 = n) (h : Gz p e below s C N Q (T.setTop (mkF m n Ls (.long v :: st)))) : Gz p e below s C N Q (T.setTop (mkF m pc Ls st)) := by subst q; exact Gz.st (fun t k => XS.lloadN X.here hx rfl hd hl k) h
theorem Gz.lstoreN (n : Nat) (l' : Array Slot) {k : Fin 4} {v : Int64} (X : Stand p l e R s m args below meth c T locs cells slots) (hx : p.tables.exec = Jvm.exec) (hd : decode c.code pc = .ok (.lstore_n k, 1)) (hl : storeLocals Ls k.val (.long v) = some l') (q : pc + 1 = n) (h : Gz p e below s C N Q (T.setTop (mkF m n l' st))) : Gz p e below s C N Q (T.setTop (mkF m pc Ls (.long v :: st))) := by subst q; exact Gz.st (fun t k => XS.lstoreN X.here hx rfl hd rfl hl k) h
theorem Gz.aloadN (n : Nat) {k : Fin 4} {v : Value} (X : Stand p l e R s m args below meth c T locs cells slots) (hx : p.tables.exec = Jvm.exec) (hd : decode c.code pc = .ok (.aload_n k, 1)) (hl : Ls[k.val]? = some (.val v)) (hv : v.isRef = true) (q : pc + 1 = n) (h : Gz p e below s C N Q (T.setTop (mkF m n Ls (v :: st)))) : Gz p e below s C N Q (T.setTop (mkF m pc Ls st)) := by subst q; exact Gz.st (fun t k => XS.aloadN X.here hx rfl hd hl hv k) h
theorem Gz.aload (n : Nat) {k : Nat} {v : Value} (X : Stand p l e R s m args below meth c T locs cells slots) (hx : p.tables.exec = Jvm.exec) (hd : decode c.code pc = .ok (.aload k, 2)) (hl : Ls[k]? = some (.val v)) (hv : v.isRef = true) (q : pc + 2 = n) (h : Gz p e below s C N Q (T.setTop (mkF m n Ls (v :: st)))) : Gz p e below s C N Q (T.setTop (mkF m pc Ls st)) := by subst q; exact Gz.st (fun t k => XS.aload X.here hx rfl hd hl hv k) h
theorem Gz.astore (n : Nat) (l' : Array Slot) {k : Nat} {v : Value} (X : Stand p l e R s m args below meth c T locs cells slots) (hx : p.tables.exec = Jvm.exec) (hd : decode c.code pc = .ok (.astore k, 2)) (hl : storeLocals Ls k v = some l') (hv : v.isRef = true) (q : pc + 2 = n) (h : Gz p e below s C N Q (T.setTop (mkF m n l' st))) : Gz p e below s C N Q (T.setTop (mkF m pc Ls (v :: st))) := by subst q; exact Gz.st (fun t k => XS.astore X.here hx rfl hd rfl hv hl k) h
theorem Gz.iconst (n : Nat) (v : Int32) (X : Stand p l e R s m args below meth c T locs cells slots) (hx : p.tables.exec = Jvm.exec) {i : Int} (hd : decode c.code pc = .ok (.iconst i, 1)) (hv : Int32.ofInt i = v) (q : pc + 1 = n) (h : Gz p e below s C N Q (T.setTop (mkF m n Ls (.int v :: st)))) : Gz p e below s C N Q (T.setTop (mkF m pc Ls st)) := by subst q hv; exact Gz.st (fun t k => XS.iconst X.here hx rfl hd k) h
theorem Gz.bipush (n : Nat) (v : Int32) (X : Stand p l e R s m args below meth c T locs cells slots) (hx : p.tables.exec = Jvm.exec) {i : Int} (hd : decode c.code pc = .ok (.bipush i, 2)) (hv : (Int8.ofInt i).toInt32 = v) (q : pc + 2 = n) (h : Gz p e below s C N Q (T.setTop (mkF m n Ls (.int v :: st)))) : Gz p e below s C N Q (T.setTop (mkF m pc Ls st)) := by subst q hv; exact Gz.st (fun t k => XS.bipush X.here hx rfl hd k) h
theorem Gz.lconst (n : Nat) (v : Int64) (X : Stand p l e R s m args below meth c T locs cells slots) (hx : p.tables.exec = Jvm.exec) {i : Fin 2} (hd : decode c.code pc = .ok (.lconst i, 1)) (hv : Int64.ofNat i = v) (q : pc + 1 = n) (h : Gz p e below s C N Q (T.setTop (mkF m n Ls (.long v :: st)))) : Gz p e below s C N Q (T.setTop (mkF m pc Ls st)) := by subst q hv; exact Gz.st (fun t k => XS.lconst X.here hx rfl hd k) h
theorem Gz.iadd (n : Nat) {x y : Int32} (X : Stand p l e R s m args below meth c T locs cells slots) (hx : p.tables.exec = Jvm.exec) (hd : decode c.code pc = .ok (.iadd, 1))  (q : pc + 1 = n) (h : Gz p e below s C N Q (T.setTop (mkF m n Ls (.int (x + y) :: st)))) : Gz p e below s C N Q (T.setTop (mkF m pc Ls (.int y :: .int x :: st))) := by subst q; exact Gz.st (fun t k => XS.iadd X.here hx rfl hd rfl k) h
theorem Gz.iaddV (n : Nat) (z : Int32) (X : Stand p l e R s m args below meth c T locs cells slots) (hx : p.tables.exec = Jvm.exec) {x y : Int32} (hd : decode c.code pc = .ok (.iadd, 1)) (hz : x + y = z) (q : pc + 1 = n) (h : Gz p e below s C N Q (T.setTop (mkF m n Ls (.int z :: st)))) : Gz p e below s C N Q (T.setTop (mkF m pc Ls (.int y :: .int x :: st))) := by subst hz; exact Gz.iadd n X hx hd q h
theorem Gz.ladd (n : Nat) {x y : Int64} (X : Stand p l e R s m args below meth c T locs cells slots) (hx : p.tables.exec = Jvm.exec) (hd : decode c.code pc = .ok (.ladd, 1))  (q : pc + 1 = n) (h : Gz p e below s C N Q (T.setTop (mkF m n Ls (.long (x + y) :: st)))) : Gz p e below s C N Q (T.setTop (mkF m pc Ls (.long y :: .long x :: st))) := by subst q; exact Gz.st (fun t k => XS.ladd X.here hx rfl hd rfl k) h
theorem Gz.isub (n : Nat) {x y : Int32} (X : Stand p l e R s m args below meth c T locs cells slots) (hx : p.tables.exec = Jvm.exec) (hd : decode c.code pc = .ok (.isub, 1))  (q : pc + 1 = n) (h : Gz p e below s C N Q (T.setTop (mkF m n Ls (.int (x - y) :: st)))) : Gz p e below s C N Q (T.setTop (mkF m pc Ls (.int y :: .int x :: st))) := by subst q; exact Gz.st (fun t k => XS.isub X.here hx rfl hd rfl k) h
theorem Gz.isubV (n : Nat) (z : Int32) (X : Stand p l e R s m args below meth c T locs cells slots) (hx : p.tables.exec = Jvm.exec) {x y : Int32} (hd : decode c.code pc = .ok (.isub, 1)) (hz : x - y = z) (q : pc + 1 = n) (h : Gz p e below s C N Q (T.setTop (mkF m n Ls (.int z :: st)))) : Gz p e below s C N Q (T.setTop (mkF m pc Ls (.int y :: .int x :: st))) := by subst hz; exact Gz.isub n X hx hd q h
theorem Gz.imul (n : Nat) {x y : Int32} (X : Stand p l e R s m args below meth c T locs cells slots) (hx : p.tables.exec = Jvm.exec) (hd : decode c.code pc = .ok (.imul, 1))  (q : pc + 1 = n) (h : Gz p e below s C N Q (T.setTop (mkF m n Ls (.int (x * y) :: st)))) : Gz p e below s C N Q (T.setTop (mkF m pc Ls (.int y :: .int x :: st))) := by subst q; exact Gz.st (fun t k => XS.imul X.here hx rfl hd rfl k) h
theorem Gz.imulV (n : Nat) (z : Int32) (X : Stand p l e R s m args below meth c T locs cells slots) (hx : p.tables.exec = Jvm.exec) {x y : Int32} (hd : decode c.code pc = .ok (.imul, 1)) (hz : x * y = z) (q : pc + 1 = n) (h : Gz p e below s C N Q (T.setTop (mkF m n Ls (.int z :: st)))) : Gz p e below s C N Q (T.setTop (mkF m pc Ls (.int y :: .int x :: st))) := by subst hz; exact Gz.imul n X hx hd q h
theorem Gz.lmul (n : Nat) {x y : Int64} (X : Stand p l e R s m args below meth c T locs cells slots) (hx : p.tables.exec = Jvm.exec) (hd : decode c.code pc = .ok (.lmul, 1))  (q : pc + 1 = n) (h : Gz p e below s C N Q (T.setTop (mkF m n Ls (.long (x * y) :: st)))) : Gz p e below s C N Q (T.setTop (mkF m pc Ls (.long y :: .long x :: st))) := by subst q; exact Gz.st (fun t k => XS.lmul X.here hx rfl hd rfl k) h
theorem Gz.iand (n : Nat) {x y : Int32} (X : Stand p l e R s m args below meth c T locs cells slots) (hx : p.tables.exec = Jvm.exec) (hd : decode c.code pc = .ok (.iand, 1))  (q : pc + 1 = n) (h : Gz p e below s C N Q (T.setTop (mkF m n Ls (.int (x &&& y) :: st)))) : Gz p e below s C N Q (T.setTop (mkF m pc Ls (.int y :: .int x :: st))) := by subst q; exact Gz.st (fun t k => XS.iand X.here hx rfl hd rfl k) h
theorem Gz.iandV (n : Nat) (z : Int32) (X : Stand p l e R s m args below meth c T locs cells slots) (hx : p.tables.exec = Jvm.exec) {x y : Int32} (hd : decode c.code pc = .ok (.iand, 1)) (hz : x &&& y = z) (q : pc + 1 = n) (h : Gz p e below s C N Q (T.setTop (mkF m n Ls (.int z :: st)))) : Gz p e below s C N Q (T.setTop (mkF m pc Ls (.int y :: .int x :: st))) := by subst hz; exact Gz.iand n X hx hd q h
theorem Gz.iushr (n : Nat) {x : Int32} {y : Int32} (X : Stand p l e R s m args below meth c T locs cells slots) (hx : p.tables.exec = Jvm.exec) (hd : decode c.code pc = .ok (.iushr, 1))  (q : pc + 1 = n) (h : Gz p e below s C N Q (T.setTop (mkF m n Ls (.int ((x.toUInt32 >>> (y &&& 31).toUInt32).toInt32) :: st)))) : Gz p e below s C N Q (T.setTop (mkF m pc Ls (.int y :: .int x :: st))) := by subst q; exact Gz.st (fun t k => XS.iushr X.here hx rfl hd rfl k) h
theorem Gz.i2l (n : Nat) {x : Int32} (X : Stand p l e R s m args below meth c T locs cells slots) (hx : p.tables.exec = Jvm.exec) (hd : decode c.code pc = .ok (.i2l, 1))  (q : pc + 1 = n) (h : Gz p e below s C N Q (T.setTop (mkF m n Ls (.long (x.toInt64) :: st)))) : Gz p e below s C N Q (T.setTop (mkF m pc Ls (.int x :: st))) := by subst q; exact Gz.st (fun t k => XS.i2l X.here hx rfl hd rfl k) h
theorem Gz.lcmp (n : Nat) {x y : Int64} (X : Stand p l e R s m args below meth c T locs cells slots) (hx : p.tables.exec = Jvm.exec) (hd : decode c.code pc = .ok (.lcmp, 1))  (q : pc + 1 = n) (h : Gz p e below s C N Q (T.setTop (mkF m n Ls (.int (lcmpW x y) :: st)))) : Gz p e below s C N Q (T.setTop (mkF m pc Ls (.long y :: .long x :: st))) := by subst q; exact Gz.st (fun t k => XS.lcmp X.here hx rfl hd rfl k) h
theorem Gz.idiv (n : Nat) {x y : Int32} (X : Stand p l e R s m args below meth c T locs cells slots) (hx : p.tables.exec = Jvm.exec) (hd : decode c.code pc = .ok (.idiv, 1)) (hy : y ≠ 0) (q : pc + 1 = n) (h : Gz p e below s C N Q (T.setTop (mkF m n Ls (.int (x / y) :: st)))) : Gz p e below s C N Q (T.setTop (mkF m pc Ls (.int y :: .int x :: st))) := by subst q; exact Gz.st (fun t k => XS.idiv X.here hx rfl hd rfl hy k) h
theorem Gz.idivV (n : Nat) (z : Int32) (X : Stand p l e R s m args below meth c T locs cells slots) (hx : p.tables.exec = Jvm.exec) {x y : Int32} (hd : decode c.code pc = .ok (.idiv, 1)) (hy : y ≠ 0) (hz : (x / y) = z) (q : pc + 1 = n) (h : Gz p e below s C N Q (T.setTop (mkF m n Ls (.int z :: st)))) : Gz p e below s C N Q (T.setTop (mkF m pc Ls (.int y :: .int x :: st))) := by subst hz; exact Gz.idiv n X hx hd hy q h
theorem Gz.irem (n : Nat) {x y : Int32} (X : Stand p l e R s m args below meth c T locs cells slots) (hx : p.tables.exec = Jvm.exec) (hd : decode c.code pc = .ok (.irem, 1)) (hy : y ≠ 0) (q : pc + 1 = n) (h : Gz p e below s C N Q (T.setTop (mkF m n Ls (.int (x % y) :: st)))) : Gz p e below s C N Q (T.setTop (mkF m pc Ls (.int y :: .int x :: st))) := by subst q; exact Gz.st (fun t k => iremM X hx rfl hd rfl hy k) h
theorem Gz.iinc (n : Nat) (l' : Array Slot) (X : Stand p l e R s m args below meth c T locs cells slots) (hx : p.tables.exec = Jvm.exec) {k : Nat} {i : Int} {x : Int32} (hd : decode c.code pc = .ok (.iinc k i, 3)) (hl : Ls[k]? = some (.val (.int x))) (hl' : storeLocals Ls k (.int (x + Int32.ofInt i)) = some l') (q : pc + 3 = n) (h : Gz p e below s C N Q (T.setTop (mkF m n l' st))) : Gz p e below s C N Q (T.setTop (mkF m pc Ls st)) := by subst q; exact Gz.st (fun t k => XS.iinc X.here hx rfl hd hl hl' k) h
theorem Gz.dup (n : Nat) {x : Value} (X : Stand p l e R s m args below meth c T locs cells slots) (hx : p.tables.exec = Jvm.exec) (hd : decode c.code pc = .ok (.dup, 1)) (hc : x.category = 1) (q : pc + 1 = n) (h : Gz p e below s C N Q (T.setTop (mkF m n Ls (x :: x :: st)))) : Gz p e below s C N Q (T.setTop (mkF m pc Ls (x :: st))) := by subst q; exact Gz.st (fun t k => XS.dup X.here hx rfl hd rfl hc k) h
theorem Gz.goto (n : Nat) (X : Stand p l e R s m args below meth c T locs cells slots) (hx : p.tables.exec = Jvm.exec) {o : Int} (hd : decode c.code pc = .ok (.goto o, 3)) (ho : 0 ≤ (pc : Int) + o) (q : ((pc : Int) + o).toNat = n) (h : Gz p e below s C N Q (T.setTop (mkF m n Ls st))) : Gz p e below s C N Q (T.setTop (mkF m pc Ls st)) := Gz.st (fun t k => XS.goto X.here hx rfl (pc0 := pc) (pc' := n) rfl hd ho q k) h
theorem Gz.ifYes (n : Nat) (X : Stand p l e R s m args below meth c T locs cells slots) (hx : p.tables.exec = Jvm.exec) {cd : ClassFile.Cond} {x : Int32} {o : Int} (hd : decode c.code pc = .ok (.ifCond cd o, 3)) (hc : ifCond.holds cd x = true) (ho : 0 ≤ (pc : Int) + o) (q : ((pc : Int) + o).toNat = n) (h : Gz p e below s C N Q (T.setTop (mkF m n Ls st))) : Gz p e below s C N Q (T.setTop (mkF m pc Ls (.int x :: st))) := Gz.st (fun t k => XS.ifYes X.here hx rfl (pc0 := pc) (pc' := n) rfl hd rfl hc ho q k) h
theorem Gz.ifNo (n : Nat) (X : Stand p l e R s m args below meth c T locs cells slots) (hx : p.tables.exec = Jvm.exec) {cd : ClassFile.Cond} {x : Int32} {o : Int} (hd : decode c.code pc = .ok (.ifCond cd o, 3)) (hc : ifCond.holds cd x = false) (q : pc + 3 = n) (h : Gz p e below s C N Q (T.setTop (mkF m n Ls st))) : Gz p e below s C N Q (T.setTop (mkF m pc Ls (.int x :: st))) := by subst q; exact Gz.st (fun t k => XS.ifNo X.here hx rfl hd rfl hc k) h
theorem Gz.icmpYes (n : Nat) (X : Stand p l e R s m args below meth c T locs cells slots) (hx : p.tables.exec = Jvm.exec) {cd : ClassFile.Cond} {x y : Int32} {o : Int} (hd : decode c.code pc = .ok (.if_icmp cd o, 3)) (hc : if_icmp.holds cd x y = true) (ho : 0 ≤ (pc : Int) + o) (q : ((pc : Int) + o).toNat = n) (h : Gz p e below s C N Q (T.setTop (mkF m n Ls st))) : Gz p e below s C N Q (T.setTop (mkF m pc Ls (.int y :: .int x :: st))) := Gz.st (fun t k => XS.icmpYes X.here hx rfl (pc0 := pc) (pc' := n) rfl hd rfl hc ho q k) h
theorem Gz.icmpNo (n : Nat) (X : Stand p l e R s m args below meth c T locs cells slots) (hx : p.tables.exec = Jvm.exec) {cd : ClassFile.Cond} {x y : Int32} {o : Int} (hd : decode c.code pc = .ok (.if_icmp cd o, 3)) (hc : if_icmp.holds cd x y = false) (q : pc + 3 = n) (h : Gz p e below s C N Q (T.setTop (mkF m n Ls st))) : Gz p e below s C N Q (T.setTop (mkF m pc Ls (.int y :: .int x :: st))) := by subst q; exact Gz.st (fun t k => XS.icmpNo X.here hx rfl hd rfl hc k) h
theorem Gz.ldcI (n : Nat) (X : Stand p l e R s m args below meth c T locs cells slots) (hx : p.tables.exec = Jvm.exec) {own : String} {ix : Nat} {v : Int32} (hd : decode c.code pc = .ok (.ldc ix, 2)) (hown : s.vm.findClass own = some m.cls) (w : (Cond.constant own ix v).before args s = true) (q : pc + 2 = n) (h : Gz p e below s C N Q (T.setTop (mkF m n Ls (.int v :: st)))) : Gz p e below s C N Q (T.setTop (mkF m pc Ls st)) := by subst q; exact Gz.st (X.ldcInt hx hown w (g := mkF m pc Ls st) rfl hd) h
theorem Gz.ldc2J (n : Nat) (X : Stand p l e R s m args below meth c T locs cells slots) (hx : p.tables.exec = Jvm.exec) {own : String} {ix : Nat} {v : Int64} (hd : decode c.code pc = .ok (.ldc2_w ix, 3)) (hown : s.vm.findClass own = some m.cls) (w : (Cond.constantLong own ix v).before args s = true) (q : pc + 3 = n) (h : Gz p e below s C N Q (T.setTop (mkF m n Ls (.long v :: st)))) : Gz p e below s C N Q (T.setTop (mkF m pc Ls st)) := by subst q; exact Gz.st (X.ldc2Long hx hown w (g := mkF m pc Ls st) rfl hd) h
theorem Gz.getF (n : Nat) (X : Stand p l e R s m args below meth c T locs cells slots) (hx : p.tables.exec = Jvm.exec) (hZ : Z.Warmed39 s.vm) {own : String} (hown : s.vm.findClass own = some m.cls) {R0 O nm d host : String} {ix : Nat} (hd : decode c.code pc = .ok (.getfield ix, 3)) (w : (Cond.fieldLink own ix R0 nm d).before a0 Z = true ∨ (Cond.fieldLinkNest own ix R0 nm d host).before a0 Z = true) (via : Via Z R0 O nm d) (eT : T.heap = hh) {a : Addr} {v : Value} (F : Fld Z hh a O nm d v) (q : pc + 3 = n) (h : ∀ T', Stand p l e R s m args below meth c T' (locs) (cells) (slots) → T'.heap = hh → Gz p e below s C N Q (T'.setTop (mkF m n Ls (v :: st)))) : Gz p e below s C N Q (T.setTop (mkF m pc Ls (.ref a :: st))) := by
  subst q
  obtain ⟨T', X', e', st'⟩ := Jvm.RoadKit.getF X hx hZ hown w via eT F (g := mkF m pc Ls (.ref a :: st)) rfl rfl hd
  exact Gz.st st' (h T' X' e')
theorem Gz.putF (n : Nat) (X : Stand p l e R s m args below meth c T locs cells slots) (hx : p.tables.exec = Jvm.exec) (hZ : Z.Warmed39 s.vm) {own : String} (hown : s.vm.findClass own = some m.cls) {R0 O nm d host K : String} {ix kk : Nat} (ty : FieldType) (hd : decode c.code pc = .ok (.putfield ix, 3)) (w : (Cond.fieldLink own ix R0 nm d).before a0 Z = true ∨ (Cond.fieldLinkNest own ix R0 nm d host).before a0 Z = true) (via : Via Z R0 O nm d) (eT : T.heap = hh) {a : Addr} {v old : Value} (F : Fld Z hh a O nm d old) (E : Exa Z hh a K) (L : (Cond.lays K O nm d).before a0 Z = true ∨ ((Cond.laysFinal K O nm d).before a0 Z = true ∧ own = O ∧ meth.name = "<init>")) (wi : (Cond.instantiable K kk).before a0 Z = true) (hty : parseFieldDescriptor d = some ty) (hn : narrow ty v = v) (hf : fits ty v = true) (q : pc + 3 = n) (h : ∀ T' h', Stand p l e R s m args below meth c T' (locs ++ [⟨a, slotOf Z O nm d⟩]) (cells) (slots) → T'.heap = h' → Wr hh h' a (slotOf Z O nm d) v → Gz p e below s C N Q (T'.setTop (mkF m n Ls st))) : Gz p e below s C N Q (T.setTop (mkF m pc Ls (v :: .ref a :: st))) := by
  subst q
  obtain ⟨T', h', X', e', W, st'⟩ := Jvm.RoadKit.putF X hx hZ hown w via eT F E L wi hty hn hf (g := mkF m pc Ls (v :: .ref a :: st)) rfl rfl hd
  exact Gz.st st' (h T' h' X' e' W)
theorem Gz.castY (n : Nat) (X : Stand p l e R s m args below meth c T locs cells slots) (hx : p.tables.exec = Jvm.exec) (hZ : Z.Warmed39 s.vm) {own : String} (hown : s.vm.findClass own = some m.cls) {K : String} {ix : Nat} (hd : decode c.code pc = .ok (.checkcast ix, 3)) (w : (Cond.classLink own ix K).before a0 Z = true) (eT : T.heap = hh) {a : Addr} (F : Ins Z hh a K true) (q : pc + 3 = n) (h : ∀ T', Stand p l e R s m args below meth c T' (locs) (cells) (slots) → T'.heap = hh → Gz p e below s C N Q (T'.setTop (mkF m n Ls (.ref a :: st)))) : Gz p e below s C N Q (T.setTop (mkF m pc Ls (.ref a :: st))) := by
  subst q
  obtain ⟨T', X', e', st'⟩ := Jvm.RoadKit.castY X hx hZ hown w eT F (g := mkF m pc Ls (.ref a :: st)) rfl rfl hd
  exact Gz.st st' (h T' X' e')
theorem Gz.stI (n : Nat) (X : Stand p l e R s m args below meth c T locs cells slots) (hx : p.tables.exec = Jvm.exec) (hZ : Z.Warmed39 s.vm) {a : Addr} {cl : Cell} {j : Int32} {x : Int32} (hd : decode c.code pc = .ok (.iastore, 1)) (eT : T.heap = hh) (A : Arr Z hh a cl .int) (hj : ¬ (j < 0 ∨ cl.slots.size ≤ j.toNatClampNeg)) (q : pc + 1 = n) (h : ∀ T' h', Stand p l e R s m args below meth c T' (locs ++ [⟨a, j.toNatClampNeg⟩]) (cells) (slots) → T'.heap = h' → Wr hh h' a j.toNatClampNeg (.int x) → Gz p e below s C N Q (T'.setTop (mkF m n Ls st))) : Gz p e below s C N Q (T.setTop (mkF m pc Ls (.int x :: .int j :: .ref a :: st))) := by
  subst q
  obtain ⟨T', h', X', e', W, st'⟩ := Jvm.RoadKit.stI X hx hZ eT A (j := j) hj (g := mkF m pc Ls (.int x :: .int j :: .ref a :: st)) rfl rfl hd
  exact Gz.st st' (h T' h' X' e' W)
theorem Gz.ldI (n : Nat) (X : Stand p l e R s m args below meth c T locs cells slots) (hx : p.tables.exec = Jvm.exec) (hZ : Z.Warmed39 s.vm) {a : Addr} {cl : Cell} {j : Int32} {v : Value} (hd : decode c.code pc = .ok (.iaload, 1)) (eT : T.heap = hh) (A : Arr Z hh a cl .int) (hj : ¬ (j < 0 ∨ cl.slots.size ≤ j.toNatClampNeg)) (hv : cl.slots[j.toNatClampNeg]? = some v) (q : pc + 1 = n) (h : Gz p e below s C N Q (T.setTop (mkF m n Ls (v :: st)))) : Gz p e below s C N Q (T.setTop (mkF m pc Ls (.int j :: .ref a :: st))) := by
  subst q
  exact Gz.st (X.iaload hx (j := j) (v := v) (by rw [eT]; exact A.1) (State.isArrayOf_alike hZ.alike A.2.1) A.2.2 hj hv (g := mkF m pc Ls (.int j :: .ref a :: st)) rfl rfl hd) h
theorem Gz.ldA (n : Nat) (X : Stand p l e R s m args below meth c T locs cells slots) (hx : p.tables.exec = Jvm.exec) (hZ : Z.Warmed39 s.vm) {a : Addr} {cl : Cell} {j : Int32} {v : Value} {ty : FieldType} (hr : ty.isReference = true) (hd : decode c.code pc = .ok (.aaload, 1)) (eT : T.heap = hh) (A : Arr Z hh a cl ty) (hj : ¬ (j < 0 ∨ cl.slots.size ≤ j.toNatClampNeg)) (hv : cl.slots[j.toNatClampNeg]? = some v) (q : pc + 1 = n) (h : Gz p e below s C N Q (T.setTop (mkF m n Ls (v :: st)))) : Gz p e below s C N Q (T.setTop (mkF m pc Ls (.int j :: .ref a :: st))) := by
  subst q
  exact Gz.st (X.aaload hx (j := j) (v := v) (by rw [eT]; exact A.1) (State.isArrayOf_alike hZ.alike A.2.1) hr A.2.2 hj hv (g := mkF m pc Ls (.int j :: .ref a :: st)) rfl rfl hd) h
theorem Gz.alen (n : Nat) (X : Stand p l e R s m args below meth c T locs cells slots) (hx : p.tables.exec = Jvm.exec) (hZ : Z.Warmed39 s.vm) {a : Addr} {cl : Cell} {z : Int32} {ty : FieldType} (hd : decode c.code pc = .ok (.arraylength, 1)) (eT : T.heap = hh) (A : Arr Z hh a cl ty) (hs : cl.slots.size = z.toNatClampNeg) (hz : ¬ z < 0) (q : pc + 1 = n) (h : Gz p e below s C N Q (T.setTop (mkF m n Ls (.int z :: st)))) : Gz p e below s C N Q (T.setTop (mkF m pc Ls (.ref a :: st))) := by
  subst q
  refine Gz.st (X.arraylength hx (by rw [eT]; exact A.1) (State.isArrayOf_alike hZ.alike A.2.1) (g := mkF m pc Ls (.ref a :: st)) rfl rfl hd) ?_
  rw [len_of hs hz]
  exact h
theorem Gz.enter {g g' : JFrame} (q : g = g') (h : Gz p e below s C N Q (T.setTop g')) : Gz p e below s C N Q (T.setTop g) := q ▸ h
theorem Gz.fin (X : Stand p l e R s m args below meth c T locs cells slots) {v : Option Value} (hv : meth.sig.returnType = none → v = none) (hlocks : meth.locks = false) (hc : cells ≤ C) (hn : slots ≤ N)
    (hst : ∀ fs, (∀ (f : JFrame) (acts : List Action), f.method = m → f.locked = none → f.entered = [] → (doReturn e (T.setTop f) acts v).1 = T.setFrames fs) → Steps p.tables e below S (T.setFrames fs)) (hq : Q v T.heap locs) : Gz p e below s C N Q S := by
  obtain ⟨fs, hr, hrun, hended, hW, hsame⟩ := X.leave hv hlocks
  exact ⟨_, _, hst fs hr, hrun, hended, _, _, rfl, hq, ⟨_, rfl⟩, hW, hsame.mono hc hn⟩
theorem retNV (X : Stand p l e R s m args below meth c T locs cells slots) (hx : p.tables.exec = Jvm.exec) {pc : Nat} {Ls : Array Slot} {z w : Int32} {t : FieldType} {rest : List Value} (hret : meth.sig.returnType = some t) (ht : t = .boolean ∨ t = .byte ∨ t = .char ∨ t = .short)
    (hd : decode c.code pc = .ok (.ireturn, 1)) {fs : List Frame} (hl : ∀ (f : JFrame) (acts : List Action), f.method = m → f.locked = none → f.entered = [] → (doReturn e (T.setTop f) acts (some (.int w))).1 = T.setFrames fs) (hw : nar t z = w) :
    Steps p.tables e below (T.setTop (mkF m pc Ls (.int z :: rest))) (T.setFrames fs) := by subst hw; exact retN X hx hret ht hd hl
theorem own_nb (x : Int32) : nar .byte (x.toInt8.toInt32) = x.toInt8.toInt32 := by show (x.toInt8.toInt32).toInt8.toInt32 = _; simp
theorem lt_irr (x : Int32) : ¬ x < x := Int32.lt_irrefl
theorem own_rl {a z r j : Nat} (h : a < z) (q : r = z + 1 + j) : a ≠ r := by omega
theorem own_ro {x z r j : Nat} (h : x = z) (q : r = z + 1 + j) : x ≠ r := by omega
theorem own_rr {z a b i j : Nat} (h : a = z + 1 + i) (q : b = z + 1 + j) (w : i ≠ j) : a ≠ b := by omega
theorem own_rg {n z r j : Nat} (h : n ≤ z) (q : r = z + 1 + j) : n ≤ r := by omega
theorem own_fldI {a0 : Array Value} {Z : State} {t : Term} {a : Addr} {C n d : String} {k : Int32} (ev : t.eval a0 Z none [] Z = some (.ref a)) (h : (Cond.eq (.field t C n d) (.int k)).value a0 Z none Z [] = some true) : Fld Z Z.heap a C n d (.int k) := by
  obtain ⟨x, y, e1, e2, k1, k2⟩ := cmp_v (Or.inl h)
  cases Option.some.inj (e2.symm.trans (Term.int_eval k))
  obtain ⟨z, rfl⟩ := k2
  have q := gotT (Cond.eq_ints e1 (Term.int_eval k)) h
  subst q
  rw [fld_at ev] at e1
  exact Fld.start e1
theorem own_len {a0 : Array Value} {Z : State} {t : Term} {a : Addr} {cl : Cell} {ty : FieldType} {z : Int32} (ev : t.eval a0 Z none [] Z = some (.ref a)) (A : Arr Z Z.heap a cl ty) (h : (Cond.eq (.length t) (.int z)).value a0 Z none Z [] = some true) : cl.slots.size < 2 ^ 31 ∧ cl.slots.size.toInt32 = z := by
  obtain ⟨x, y, e1, e2, k1, k2⟩ := cmp_v (Or.inl h)
  obtain ⟨b, cell, f1, f2, f3, f4⟩ := Jvm.Lib.length_spec e1
  cases Option.some.inj (ev.symm.trans f1)
  cases f2.symm.trans (Arr.fin (U := Z) (Vm.Alike.refl _) A)
  subst f4
  exact ⟨f3, gotT (Cond.eq_ints e1 (Term.int_eval z)) h⟩
theorem own_el {a0 : Array Value} {Z : State} {t : Term} {a : Addr} {cl : Cell} {ty : FieldType} {j v : Int32} (ev : t.eval a0 Z none [] Z = some (.ref a)) (A : Arr Z Z.heap a cl ty) (h : (Cond.eq (.elem t (.int j)) (.int v)).value a0 Z none Z [] = some true) : cl.slots[j.toNatClampNeg]? = some (.int v) := by
  obtain ⟨x, y, e1, e2, k1, k2⟩ := cmp_v (Or.inl h)
  cases Option.some.inj (e2.symm.trans (Term.int_eval v))
  obtain ⟨z, rfl⟩ := k2
  have q := gotT (Cond.eq_ints e1 (Term.int_eval v)) h
  subst q
  exact (elem_in e1 ev (Term.int_eval j) A.1).2
end New
end Jvm.RoadKit
namespace Jvm.Pilot.@@N@@
open Jvm Jvm.ClassFile Sem Op Lib Jvm.Free Jvm.Stand Jvm.LawKit Jvm.RoadKit Bundle Jvm.Pilot.@@N@@.Jvm.D
theorem ww {av : Array Value} {Z : State} (hw : ∀ d ∈ tables_1, d.before av Z = true) (i : Nat) {d : Jvm.Cond} (h : tables_1[i]? = some d) : d.before av Z = true := hw _ (List.mem_of_getElem? h)
theorem own_nat (z : Int32) (n : Nat) (hn : n ≤ 2147483648) (h0 : 0 ≤ z.toInt) (h1 : z.toInt < n) : ∃ k : Nat, k < n ∧ z = Int32.ofNat k := by
  refine ⟨z.toInt.toNat, by omega, ?_⟩
  apply Int32.toInt_inj.mp
  rw [Int32.toInt_ofNat_of_lt (by omega)]
  omega
theorem own_i2c (z : Int32) (h0 : 0 ≤ z.toInt) (h1 : z.toInt < 65536) : z.toUInt32.toUInt16.toUInt32.toInt32 = z := by
  apply Int32.toInt_inj.mp
  have := c_i2c z
  omega
theorem own_asym32 {x y : Int32} (h : y < x) : ¬ x < y := fun q => by rw [Int32.lt_iff_toInt_lt] at *; omega
theorem own_asym64 {x y : Int64} (h : y < x) : ¬ x < y := fun q => by rw [Int64.lt_iff_toInt_lt] at *; omega
theorem own_irr32 {x y : Int32} (h : x = y) : ¬ x < y := fun q => by rw [Int32.lt_iff_toInt_lt] at *; subst h; omega
theorem own_irr64 {x y : Int64} (h : x = y) : ¬ x < y := fun q => by rw [Int64.lt_iff_toInt_lt] at *; subst h; omega
theorem own_tri32 {x y : Int32} (h : ¬ y < x) (g : ¬ x = y) : x < y := by
  rw [← Int32.toInt_inj] at g; rw [Int32.lt_iff_toInt_lt] at *; omega
theorem own_tri64 {x y : Int64} (h : ¬ y < x) (g : ¬ x = y) : x < y := by
  rw [← Int64.toInt_inj] at g; rw [Int64.lt_iff_toInt_lt] at *; omega
theorem own_nlt32 {x y : Int32} (h : x < y) : ¬ x = y := fun q => own_irr32 q h
theorem own_nlt64 {x y : Int64} (h : x < y) : ¬ x = y := fun q => own_irr64 q h
theorem own_ngt32 {x y : Int32} (h : y < x) : ¬ x = y := fun q => own_irr32 q.symm h
theorem own_ngt64 {x y : Int64} (h : y < x) : ¬ x = y := fun q => own_irr64 q.symm h
theorem own_both32 {x y : Int32} (h : ¬ x < y) (g : ¬ y < x) : x = y := by
  rw [← Int32.toInt_inj]; rw [Int32.lt_iff_toInt_lt] at *; omega
theorem own_both64 {x y : Int64} (h : ¬ x < y) (g : ¬ y < x) : x = y := by
  rw [← Int64.toInt_inj]; rw [Int64.lt_iff_toInt_lt] at *; omega
theorem own_rem (z d : Int32) (hd : d ≠ 0) (h0 : 0 ≤ z.toInt) (n : Nat) (hn : d.toInt = n) (hn2 : n ≤ 2147483648) : ∃ k : Nat, k < n ∧ z % d = Int32.ofNat k := by
  have hr := c_irem z d n hn
  have hn0 : n ≠ 0 := fun q => hd (Int32.toInt_inj.mp (by rw [hn, q]; rfl))
  have h1 := hr.1 h0
  have h2 : 0 ≤ z.toInt % (n : Int) := Int.emod_nonneg _ (by omega)
  have h3 : z.toInt % (n : Int) < n := Int.emod_lt_of_pos _ (by omega)
  exact own_nat _ n hn2 (by omega) (by omega)
theorem own_ALt32 {e j k : Int32} (h : e < j) (q : j.toInt ≤ k.toInt) : e < k := by
  rw [Int32.lt_iff_toInt_lt] at *; omega
theorem own_AGf32 {e j k : Int32} (h : e < j) (q : j.toInt ≤ k.toInt + 1) : ¬ k < e := by
  rw [Int32.lt_iff_toInt_lt] at *; omega
theorem own_AEf32 {e j k : Int32} (h : e < j) (q : j.toInt ≤ k.toInt) : ¬ e = k := by
  intro z; subst z; rw [Int32.lt_iff_toInt_lt] at h; omega
theorem own_BLf32 {e j k : Int32} (h : ¬ e < j) (q : k.toInt ≤ j.toInt) : ¬ e < k := by
  rw [Int32.lt_iff_toInt_lt] at *; omega
theorem own_BGt32 {e j k : Int32} (h : ¬ e < j) (q : k.toInt < j.toInt) : k < e := by
  rw [Int32.lt_iff_toInt_lt] at *; omega
theorem own_BEf32 {e j k : Int32} (h : ¬ e < j) (q : k.toInt < j.toInt) : ¬ e = k := by
  intro z; subst z; rw [Int32.lt_iff_toInt_lt] at h; omega
theorem own_CLf32 {e j k : Int32} (h : j < e) (q : k.toInt ≤ j.toInt + 1) : ¬ e < k := by
  rw [Int32.lt_iff_toInt_lt] at *; omega
theorem own_CGt32 {e j k : Int32} (h : j < e) (q : k.toInt ≤ j.toInt) : k < e := by
  rw [Int32.lt_iff_toInt_lt] at *; omega
theorem own_CEf32 {e j k : Int32} (h : j < e) (q : k.toInt ≤ j.toInt) : ¬ e = k := by
  intro z; subst z; rw [Int32.lt_iff_toInt_lt] at h; omega
theorem own_DLt32 {e j k : Int32} (h : ¬ j < e) (q : j.toInt < k.toInt) : e < k := by
  rw [Int32.lt_iff_toInt_lt] at *; omega
theorem own_DGf32 {e j k : Int32} (h : ¬ j < e) (q : j.toInt ≤ k.toInt) : ¬ k < e := by
  rw [Int32.lt_iff_toInt_lt] at *; omega
theorem own_DEf32 {e j k : Int32} (h : ¬ j < e) (q : j.toInt < k.toInt) : ¬ e = k := by
  intro z; subst z; rw [Int32.lt_iff_toInt_lt] at h; omega
theorem own_eqEt32 {e j k : Int32} (h : e = j) (q : j = k) : e = k := by rw [h]; exact q
theorem own_eqEf32 {e j k : Int32} (h : e = j) (q : ¬ j = k) : ¬ e = k := by rw [h]; exact q
theorem own_eqLt32 {e j k : Int32} (h : e = j) (q : j < k) : e < k := by rw [h]; exact q
theorem own_eqLf32 {e j k : Int32} (h : e = j) (q : ¬ j < k) : ¬ e < k := by rw [h]; exact q
theorem own_eqGt32 {e j k : Int32} (h : e = j) (q : k < j) : k < e := by rw [h]; exact q
theorem own_eqGf32 {e j k : Int32} (h : e = j) (q : ¬ k < j) : ¬ k < e := by rw [h]; exact q
theorem own_ALt64 {e j k : Int64} (h : e < j) (q : j.toInt ≤ k.toInt) : e < k := by
  rw [Int64.lt_iff_toInt_lt] at *; omega
theorem own_AGf64 {e j k : Int64} (h : e < j) (q : j.toInt ≤ k.toInt + 1) : ¬ k < e := by
  rw [Int64.lt_iff_toInt_lt] at *; omega
theorem own_AEf64 {e j k : Int64} (h : e < j) (q : j.toInt ≤ k.toInt) : ¬ e = k := by
  intro z; subst z; rw [Int64.lt_iff_toInt_lt] at h; omega
theorem own_BLf64 {e j k : Int64} (h : ¬ e < j) (q : k.toInt ≤ j.toInt) : ¬ e < k := by
  rw [Int64.lt_iff_toInt_lt] at *; omega
theorem own_BGt64 {e j k : Int64} (h : ¬ e < j) (q : k.toInt < j.toInt) : k < e := by
  rw [Int64.lt_iff_toInt_lt] at *; omega
theorem own_BEf64 {e j k : Int64} (h : ¬ e < j) (q : k.toInt < j.toInt) : ¬ e = k := by
  intro z; subst z; rw [Int64.lt_iff_toInt_lt] at h; omega
theorem own_CLf64 {e j k : Int64} (h : j < e) (q : k.toInt ≤ j.toInt + 1) : ¬ e < k := by
  rw [Int64.lt_iff_toInt_lt] at *; omega
theorem own_CGt64 {e j k : Int64} (h : j < e) (q : k.toInt ≤ j.toInt) : k < e := by
  rw [Int64.lt_iff_toInt_lt] at *; omega
theorem own_CEf64 {e j k : Int64} (h : j < e) (q : k.toInt ≤ j.toInt) : ¬ e = k := by
  intro z; subst z; rw [Int64.lt_iff_toInt_lt] at h; omega
theorem own_DLt64 {e j k : Int64} (h : ¬ j < e) (q : j.toInt < k.toInt) : e < k := by
  rw [Int64.lt_iff_toInt_lt] at *; omega
theorem own_DGf64 {e j k : Int64} (h : ¬ j < e) (q : j.toInt ≤ k.toInt) : ¬ k < e := by
  rw [Int64.lt_iff_toInt_lt] at *; omega
theorem own_DEf64 {e j k : Int64} (h : ¬ j < e) (q : j.toInt < k.toInt) : ¬ e = k := by
  intro z; subst z; rw [Int64.lt_iff_toInt_lt] at h; omega
theorem own_eqEt64 {e j k : Int64} (h : e = j) (q : j = k) : e = k := by rw [h]; exact q
theorem own_eqEf64 {e j k : Int64} (h : e = j) (q : ¬ j = k) : ¬ e = k := by rw [h]; exact q
theorem own_eqLt64 {e j k : Int64} (h : e = j) (q : j < k) : e < k := by rw [h]; exact q
theorem own_eqLf64 {e j k : Int64} (h : e = j) (q : ¬ j < k) : ¬ e < k := by rw [h]; exact q
theorem own_eqGt64 {e j k : Int64} (h : e = j) (q : k < j) : k < e := by rw [h]; exact q
theorem own_eqGf64 {e j k : Int64} (h : e = j) (q : ¬ k < j) : ¬ k < e := by rw [h]; exact q
theorem d4_0 : decode jdk_29_method_69_code 0 = .ok (.iload_n 0, 1) := by decide +kernel
theorem d4_1 : decode jdk_29_method_69_code 1 = .ok (.iload_n 1, 1) := by decide +kernel
theorem d4_2 : decode jdk_29_method_69_code 2 = .ok (.if_icmp .gt 7, 3) := by decide +kernel
theorem d4_5 : decode jdk_29_method_69_code 5 = .ok (.iload_n 0, 1) := by decide +kernel
theorem d4_6 : decode jdk_29_method_69_code 6 = .ok (.goto 4, 3) := by decide +kernel
theorem d4_9 : decode jdk_29_method_69_code 9 = .ok (.iload_n 1, 1) := by decide +kernel
theorem d4_10 : decode jdk_29_method_69_code 10 = .ok (.ireturn, 1) := by decide +kernel
theorem ef_rm4 (m : MethodId) (p0 : Int32) (p1 : Int32) : entryFrame m #[(.int p0), (.int p1)] 2 = mkF m 0 #[.val (.int p0), .val (.int p1)] [] := by first | (simp [entryFrame, mkF, argsToLocals, Value.category]; done) | rfl
def fMin (p0 : Int32) (p1 : Int32) : Int32 := (if p1 < p0 then p1 else p0)
def Q_rm4 (Z : State) (p0 : Int32) (p1 : Int32) (h0 : Heap) (n0 : Nat) (v : Option Value) (h : Heap) (L : List Loc) : Prop := v = some (.int (fMin p0 p1)) ∧ Fr n0 L ∧ h = h0
set_option maxRecDepth 65536 in
set_option maxHeartbeats 40000000 in
theorem rm4 (l : Launch) (Z : State) (av0 : Array Value) (hw : ∀ d ∈ tables_1, d.before av0 Z = true) (ws : List Jvm.Cond) (p0 : Int32) (p1 : Int32) (h0 : Heap) (n0 : Nat) (Z0 : n0 ≤ h0.size)  :
    MetFree l (⟨"java/lang/Math", "min", "(II)I"⟩ : MethodName) (head1 (Jvm.Cond.code (⟨"java/lang/Math", "min", "(II)I"⟩ : MethodName) jdk_29_method_69_code 2 (some .int) :: ws) ({ frames := 0, cells := 0, slots := 0, locals := 0 } : Room)) (fun a U => a = #[(.int p0), (.int p1)] ∧ Z.Warmed39 U.vm ∧ U.heap = h0) (fun _ _ _ _ _ => True) (fun _ U o U' => ∃ v L, o = .returned v ∧ Q_rm4 Z p0 p1 h0 n0 v U'.heap L ∧ FrameEnd U o U' L ({ frames := 0, cells := 0, slots := 0, locals := 0 } : Room).cells ({ frames := 0, cells := 0, slots := 0, locals := 0 } : Room).slots) := by
  refine MetFree.of_bodySF (Jvm.Free.JP.mathPlain rfl (by decide +kernel)) hisR ?_
  intro p e s m args below meth c s₁ Bd hml0 hP hK
  obtain ⟨rfl, hZ, hh⟩ := hP
  have hx := Bd.exec
  have hby := Bd.bytes
  have hml : c.maxLocals = 2 := hml0
  have dd : ∀ {pc : Nat} {r : Except DecodeError (Instr × Nat)}, decode jdk_29_method_69_code pc = r → decode c.code pc = r := fun q => hb hby q
  have hown : s.vm.findClass "java/lang/Math" = some m.cls := findClass_of_methodNamed Bd.named
  have hnm := (name_of_methodNamed Bd.named Bd.method).1
  have X0 : Stand p l e ({ frames := 0, cells := 0, slots := 0, locals := 0 } : Room) s m #[(.int p0), (.int p1)] below meth c s₁ [] 0 0 := Stand.of_body Bd
  have e0 : s₁.heap = h0 := by rw [← hh, Bd.state]; rfl
  have N0 := Fr.nil n0
  have hret := Bd.returns
  have hlk := Bd.notSynchronized
  show Gz p e below s ({ frames := 0, cells := 0, slots := 0, locals := 0 } : Room).cells ({ frames := 0, cells := 0, slots := 0, locals := 0 } : Room).slots (Q_rm4 Z p0 p1 h0 n0) (s₁.setTop (entryFrame m #[(.int p0), (.int p1)] 2))
  refine Gz.enter (ef_rm4 m p0 p1) ?_
  refine Gz.iloadN 1 X0 hx (dd d4_0) rfl rfl ?_
  refine Gz.iloadN 2 X0 hx (dd d4_1) rfl rfl ?_
  by_cases hc1 : p1 < p0
  · refine Gz.icmpYes 9 X0 hx (dd d4_2) (tlt hc1).2.2.1 (by decide) (by decide) ?_
    refine Gz.iloadN 10 X0 hx (dd d4_9) rfl rfl ?_
    refine Gz.fin X0 (v := some (.int p1)) (fun h => by rw [hret] at h; cases h) hlk (by decide) (by decide) (fun fs hr => retI X0 hx hret (dd d4_10) hr) ?_
    rw [e0]
    exact ⟨(by unfold fMin; rw [if_pos hc1]), N0, rfl⟩
  · refine Gz.icmpNo 5 X0 hx (dd d4_2) (flt hc1).2.2.1 rfl ?_
    refine Gz.iloadN 6 X0 hx (dd d4_5) rfl rfl ?_
    refine Gz.goto 10 X0 hx (dd d4_6) (by decide) (by decide) ?_
    refine Gz.fin X0 (v := some (.int p0)) (fun h => by rw [hret] at h; cases h) hlk (by decide) (by decide) (fun fs hr => retI X0 hx hret (dd d4_10) hr) ?_
    rw [e0]
    exact ⟨(by unfold fMin; rw [if_neg hc1]), N0, rfl⟩
theorem d5_0 : decode jdk_29_method_65_code 0 = .ok (.iload_n 0, 1) := by decide +kernel
theorem d5_1 : decode jdk_29_method_65_code 1 = .ok (.iload_n 1, 1) := by decide +kernel
theorem d5_2 : decode jdk_29_method_65_code 2 = .ok (.if_icmp .lt 7, 3) := by decide +kernel
theorem d5_5 : decode jdk_29_method_65_code 5 = .ok (.iload_n 0, 1) := by decide +kernel
theorem d5_6 : decode jdk_29_method_65_code 6 = .ok (.goto 4, 3) := by decide +kernel
theorem d5_9 : decode jdk_29_method_65_code 9 = .ok (.iload_n 1, 1) := by decide +kernel
theorem d5_10 : decode jdk_29_method_65_code 10 = .ok (.ireturn, 1) := by decide +kernel
theorem ef_rm5 (m : MethodId) (p0 : Int32) (p1 : Int32) : entryFrame m #[(.int p0), (.int p1)] 2 = mkF m 0 #[.val (.int p0), .val (.int p1)] [] := by first | (simp [entryFrame, mkF, argsToLocals, Value.category]; done) | rfl
def fMax (p0 : Int32) (p1 : Int32) : Int32 := (if p0 < p1 then p1 else p0)
def Q_rm5 (Z : State) (p0 : Int32) (p1 : Int32) (h0 : Heap) (n0 : Nat) (v : Option Value) (h : Heap) (L : List Loc) : Prop := v = some (.int (fMax p0 p1)) ∧ Fr n0 L ∧ h = h0
set_option maxRecDepth 65536 in
set_option maxHeartbeats 40000000 in
theorem rm5 (l : Launch) (Z : State) (av0 : Array Value) (hw : ∀ d ∈ tables_1, d.before av0 Z = true) (ws : List Jvm.Cond) (p0 : Int32) (p1 : Int32) (h0 : Heap) (n0 : Nat) (Z0 : n0 ≤ h0.size)  :
    MetFree l (⟨"java/lang/Math", "max", "(II)I"⟩ : MethodName) (head1 (Jvm.Cond.code (⟨"java/lang/Math", "max", "(II)I"⟩ : MethodName) jdk_29_method_65_code 2 (some .int) :: ws) ({ frames := 0, cells := 0, slots := 0, locals := 0 } : Room)) (fun a U => a = #[(.int p0), (.int p1)] ∧ Z.Warmed39 U.vm ∧ U.heap = h0) (fun _ _ _ _ _ => True) (fun _ U o U' => ∃ v L, o = .returned v ∧ Q_rm5 Z p0 p1 h0 n0 v U'.heap L ∧ FrameEnd U o U' L ({ frames := 0, cells := 0, slots := 0, locals := 0 } : Room).cells ({ frames := 0, cells := 0, slots := 0, locals := 0 } : Room).slots) := by
  refine MetFree.of_bodySF (Jvm.Free.JP.mathPlain rfl (by decide +kernel)) hisR ?_
  intro p e s m args below meth c s₁ Bd hml0 hP hK
  obtain ⟨rfl, hZ, hh⟩ := hP
  have hx := Bd.exec
  have hby := Bd.bytes
  have hml : c.maxLocals = 2 := hml0
  have dd : ∀ {pc : Nat} {r : Except DecodeError (Instr × Nat)}, decode jdk_29_method_65_code pc = r → decode c.code pc = r := fun q => hb hby q
  have hown : s.vm.findClass "java/lang/Math" = some m.cls := findClass_of_methodNamed Bd.named
  have hnm := (name_of_methodNamed Bd.named Bd.method).1
  have X0 : Stand p l e ({ frames := 0, cells := 0, slots := 0, locals := 0 } : Room) s m #[(.int p0), (.int p1)] below meth c s₁ [] 0 0 := Stand.of_body Bd
  have e0 : s₁.heap = h0 := by rw [← hh, Bd.state]; rfl
  have N0 := Fr.nil n0
  have hret := Bd.returns
  have hlk := Bd.notSynchronized
  show Gz p e below s ({ frames := 0, cells := 0, slots := 0, locals := 0 } : Room).cells ({ frames := 0, cells := 0, slots := 0, locals := 0 } : Room).slots (Q_rm5 Z p0 p1 h0 n0) (s₁.setTop (entryFrame m #[(.int p0), (.int p1)] 2))
  refine Gz.enter (ef_rm5 m p0 p1) ?_
  refine Gz.iloadN 1 X0 hx (dd d5_0) rfl rfl ?_
  refine Gz.iloadN 2 X0 hx (dd d5_1) rfl rfl ?_
  by_cases hc1 : p0 < p1
  · refine Gz.icmpYes 9 X0 hx (dd d5_2) (tlt hc1).1 (by decide) (by decide) ?_
    refine Gz.iloadN 10 X0 hx (dd d5_9) rfl rfl ?_
    refine Gz.fin X0 (v := some (.int p1)) (fun h => by rw [hret] at h; cases h) hlk (by decide) (by decide) (fun fs hr => retI X0 hx hret (dd d5_10) hr) ?_
    rw [e0]
    exact ⟨(by unfold fMax; rw [if_pos hc1]), N0, rfl⟩
  · refine Gz.icmpNo 5 X0 hx (dd d5_2) (flt hc1).1 rfl ?_
    refine Gz.iloadN 6 X0 hx (dd d5_5) rfl rfl ?_
    refine Gz.goto 10 X0 hx (dd d5_6) (by decide) (by decide) ?_
    refine Gz.fin X0 (v := some (.int p0)) (fun h => by rw [hret] at h; cases h) hlk (by decide) (by decide) (fun fs hr => retI X0 hx hret (dd d5_10) hr) ?_
    rw [e0]
    exact ⟨(by unfold fMax; rw [if_neg hc1]), N0, rfl⟩
theorem d6_0 : decode method_2_code 0 = .ok (.iconst 0, 1) := by decide +kernel
theorem d6_1 : decode method_2_code 1 = .ok (.istore 6, 2) := by decide +kernel
theorem d6_3 : decode method_2_code 3 = .ok (.iload_n 2, 1) := by decide +kernel
theorem d6_4 : decode method_2_code 4 = .ok (.iload_n 3, 1) := by decide +kernel
theorem d6_5 : decode method_2_code 5 = .ok (.imul, 1) := by decide +kernel
theorem d6_6 : decode method_2_code 6 = .ok (.istore 7, 2) := by decide +kernel
theorem d6_8 : decode method_2_code 8 = .ok (.iload 7, 2) := by decide +kernel
theorem d6_10 : decode method_2_code 10 = .ok (.iload_n 2, 1) := by decide +kernel
theorem d6_11 : decode method_2_code 11 = .ok (.iload 4, 2) := by decide +kernel
theorem d6_13 : decode method_2_code 13 = .ok (.imul, 1) := by decide +kernel
theorem d6_14 : decode method_2_code 14 = .ok (.iadd, 1) := by decide +kernel
theorem d6_15 : decode method_2_code 15 = .ok (.istore 8, 2) := by decide +kernel
theorem d6_17 : decode method_2_code 17 = .ok (.iload 8, 2) := by decide +kernel
theorem d6_19 : decode method_2_code 19 = .ok (.iload_n 2, 1) := by decide +kernel
theorem d6_20 : decode method_2_code 20 = .ok (.iload 5, 2) := by decide +kernel
theorem d6_22 : decode method_2_code 22 = .ok (.imul, 1) := by decide +kernel
theorem d6_23 : decode method_2_code 23 = .ok (.iadd, 1) := by decide +kernel
theorem d6_24 : decode method_2_code 24 = .ok (.istore 9, 2) := by decide +kernel
theorem d6_26 : decode method_2_code 26 = .ok (.iload 9, 2) := by decide +kernel
theorem d6_28 : decode method_2_code 28 = .ok (.iload_n 3, 1) := by decide +kernel
theorem d6_29 : decode method_2_code 29 = .ok (.iload 4, 2) := by decide +kernel
theorem d6_31 : decode method_2_code 31 = .ok (.imul, 1) := by decide +kernel
theorem d6_32 : decode method_2_code 32 = .ok (.iadd, 1) := by decide +kernel
theorem d6_33 : decode method_2_code 33 = .ok (.istore 10, 2) := by decide +kernel
theorem d6_35 : decode method_2_code 35 = .ok (.iload 10, 2) := by decide +kernel
theorem d6_37 : decode method_2_code 37 = .ok (.iload_n 3, 1) := by decide +kernel
theorem d6_38 : decode method_2_code 38 = .ok (.iload 5, 2) := by decide +kernel
theorem d6_40 : decode method_2_code 40 = .ok (.imul, 1) := by decide +kernel
theorem d6_41 : decode method_2_code 41 = .ok (.iadd, 1) := by decide +kernel
theorem d6_42 : decode method_2_code 42 = .ok (.istore 11, 2) := by decide +kernel
theorem d6_44 : decode method_2_code 44 = .ok (.iload_n 0, 1) := by decide +kernel
theorem d6_45 : decode method_2_code 45 = .ok (.ifCond .ne 22, 3) := by decide +kernel
theorem d6_48 : decode method_2_code 48 = .ok (.iload_n 1, 1) := by decide +kernel
theorem d6_49 : decode method_2_code 49 = .ok (.iconst 1, 1) := by decide +kernel
theorem d6_50 : decode method_2_code 50 = .ok (.if_icmp .ne 6, 3) := by decide +kernel
theorem d6_53 : decode method_2_code 53 = .ok (.iload 6, 2) := by decide +kernel
theorem d6_55 : decode method_2_code 55 = .ok (.ireturn, 1) := by decide +kernel
theorem d6_56 : decode method_2_code 56 = .ok (.iload_n 1, 1) := by decide +kernel
theorem d6_57 : decode method_2_code 57 = .ok (.iconst 2, 1) := by decide +kernel
theorem d6_58 : decode method_2_code 58 = .ok (.if_icmp .ne 6, 3) := by decide +kernel
theorem d6_61 : decode method_2_code 61 = .ok (.iload 7, 2) := by decide +kernel
theorem d6_63 : decode method_2_code 63 = .ok (.ireturn, 1) := by decide +kernel
theorem d6_64 : decode method_2_code 64 = .ok (.iload 8, 2) := by decide +kernel
theorem d6_66 : decode method_2_code 66 = .ok (.ireturn, 1) := by decide +kernel
theorem d6_67 : decode method_2_code 67 = .ok (.iload_n 0, 1) := by decide +kernel
theorem d6_68 : decode method_2_code 68 = .ok (.iconst 1, 1) := by decide +kernel
theorem d6_69 : decode method_2_code 69 = .ok (.if_icmp .ne 14, 3) := by decide +kernel
theorem d6_72 : decode method_2_code 72 = .ok (.iload_n 1, 1) := by decide +kernel
theorem d6_73 : decode method_2_code 73 = .ok (.iconst 2, 1) := by decide +kernel
theorem d6_74 : decode method_2_code 74 = .ok (.if_icmp .ne 6, 3) := by decide +kernel
theorem d6_77 : decode method_2_code 77 = .ok (.iload 9, 2) := by decide +kernel
theorem d6_79 : decode method_2_code 79 = .ok (.ireturn, 1) := by decide +kernel
theorem d6_80 : decode method_2_code 80 = .ok (.iload 10, 2) := by decide +kernel
theorem d6_82 : decode method_2_code 82 = .ok (.ireturn, 1) := by decide +kernel
theorem d6_83 : decode method_2_code 83 = .ok (.iload 11, 2) := by decide +kernel
theorem d6_85 : decode method_2_code 85 = .ok (.ireturn, 1) := by decide +kernel
theorem pn_0 : plainName "com/example/minsuite/minsuite/ValuePairsIndexPinLaw" = true := by first | (simp [plainName, overriddenIn]; done) | decide +kernel
theorem ef_rm6 (m : MethodId) (p0 : Int32) (p1 : Int32) (p2 : Int32) (p3 : Int32) (p4 : Int32) (p5 : Int32) : entryFrame m #[(.int p0), (.int p1), (.int p2), (.int p3), (.int p4), (.int p5)] 12 = mkF m 0 #[.val (.int p0), .val (.int p1), .val (.int p2), .val (.int p3), .val (.int p4), .val (.int p5), .unset, .unset, .unset, .unset, .unset, .unset] [] := by first | (simp [entryFrame, mkF, argsToLocals, Value.category]; done) | rfl
def fSt (p0 : Int32) (p1 : Int32) (p2 : Int32) (p3 : Int32) (p4 : Int32) (p5 : Int32) : Int32 := (if p0 = (0 : Int32) then (if p1 = (1 : Int32) then (0 : Int32) else (if p1 = (2 : Int32) then (p2 * p3) else ((p2 * p3) + (p2 * p4)))) else (if p0 = (1 : Int32) then (if p1 = (2 : Int32) then (((p2 * p3) + (p2 * p4)) + (p2 * p5)) else ((((p2 * p3) + (p2 * p4)) + (p2 * p5)) + (p3 * p4))) else (((((p2 * p3) + (p2 * p4)) + (p2 * p5)) + (p3 * p4)) + (p3 * p5))))
def Q_rm6 (Z : State) (p0 : Int32) (p1 : Int32) (p2 : Int32) (p3 : Int32) (p4 : Int32) (p5 : Int32) (h0 : Heap) (n0 : Nat) (v : Option Value) (h : Heap) (L : List Loc) : Prop := v = some (.int (fSt p0 p1 p2 p3 p4 p5)) ∧ Fr n0 L ∧ h = h0
set_option maxRecDepth 65536 in
set_option maxHeartbeats 40000000 in
theorem rm6 (l : Launch) (Z : State) (av0 : Array Value) (hw : ∀ d ∈ tables_1, d.before av0 Z = true) (ws : List Jvm.Cond) (p0 : Int32) (p1 : Int32) (p2 : Int32) (p3 : Int32) (p4 : Int32) (p5 : Int32) (h0 : Heap) (n0 : Nat) (Z0 : n0 ≤ h0.size)  :
    MetFree l (⟨"com/example/minsuite/minsuite/ValuePairsIndexPinLaw", "start", "(IIIIII)I"⟩ : MethodName) (head1 (Jvm.Cond.code (⟨"com/example/minsuite/minsuite/ValuePairsIndexPinLaw", "start", "(IIIIII)I"⟩ : MethodName) method_2_code 12 (some .int) :: ws) ({ frames := 0, cells := 0, slots := 0, locals := 0 } : Room)) (fun a U => a = #[(.int p0), (.int p1), (.int p2), (.int p3), (.int p4), (.int p5)] ∧ Z.Warmed39 U.vm ∧ U.heap = h0) (fun _ _ _ _ _ => True) (fun _ U o U' => ∃ v L, o = .returned v ∧ Q_rm6 Z p0 p1 p2 p3 p4 p5 h0 n0 v U'.heap L ∧ FrameEnd U o U' L ({ frames := 0, cells := 0, slots := 0, locals := 0 } : Room).cells ({ frames := 0, cells := 0, slots := 0, locals := 0 } : Room).slots) := by
  refine MetFree.of_bodySF (plainFor_of_name pn_0) hisR ?_
  intro p e s m args below meth c s₁ Bd hml0 hP hK
  obtain ⟨rfl, hZ, hh⟩ := hP
  have hx := Bd.exec
  have hby := Bd.bytes
  have hml : c.maxLocals = 12 := hml0
  have dd : ∀ {pc : Nat} {r : Except DecodeError (Instr × Nat)}, decode method_2_code pc = r → decode c.code pc = r := fun q => hb hby q
  have hown : s.vm.findClass "com/example/minsuite/minsuite/ValuePairsIndexPinLaw" = some m.cls := findClass_of_methodNamed Bd.named
  have hnm := (name_of_methodNamed Bd.named Bd.method).1
  have X0 : Stand p l e ({ frames := 0, cells := 0, slots := 0, locals := 0 } : Room) s m #[(.int p0), (.int p1), (.int p2), (.int p3), (.int p4), (.int p5)] below meth c s₁ [] 0 0 := Stand.of_body Bd
  have e0 : s₁.heap = h0 := by rw [← hh, Bd.state]; rfl
  have N0 := Fr.nil n0
  have hret := Bd.returns
  have hlk := Bd.notSynchronized
  show Gz p e below s ({ frames := 0, cells := 0, slots := 0, locals := 0 } : Room).cells ({ frames := 0, cells := 0, slots := 0, locals := 0 } : Room).slots (Q_rm6 Z p0 p1 p2 p3 p4 p5 h0 n0) (s₁.setTop (entryFrame m #[(.int p0), (.int p1), (.int p2), (.int p3), (.int p4), (.int p5)] 12))
  refine Gz.enter (ef_rm6 m p0 p1 p2 p3 p4 p5) ?_
  refine Gz.iconst 1 (0 : Int32) X0 hx (dd d6_0) rfl rfl ?_
  refine Gz.istore 3 #[.val (.int p0), .val (.int p1), .val (.int p2), .val (.int p3), .val (.int p4), .val (.int p5), .val (.int (0 : Int32)), .unset, .unset, .unset, .unset, .unset] X0 hx (dd d6_1) rfl rfl ?_
  refine Gz.iloadN 4 X0 hx (dd d6_3) rfl rfl ?_
  refine Gz.iloadN 5 X0 hx (dd d6_4) rfl rfl ?_
  refine Gz.imul 6 X0 hx (dd d6_5) rfl ?_
  refine Gz.istore 8 #[.val (.int p0), .val (.int p1), .val (.int p2), .val (.int p3), .val (.int p4), .val (.int p5), .val (.int (0 : Int32)), .val (.int (p2 * p3)), .unset, .unset, .unset, .unset] X0 hx (dd d6_6) rfl rfl ?_
  refine Gz.iload 10 X0 hx (dd d6_8) rfl rfl ?_
  refine Gz.iloadN 11 X0 hx (dd d6_10) rfl rfl ?_
  refine Gz.iload 13 X0 hx (dd d6_11) rfl rfl ?_
  refine Gz.imul 14 X0 hx (dd d6_13) rfl ?_
  refine Gz.iadd 15 X0 hx (dd d6_14) rfl ?_
  refine Gz.istore 17 #[.val (.int p0), .val (.int p1), .val (.int p2), .val (.int p3), .val (.int p4), .val (.int p5), .val (.int (0 : Int32)), .val (.int (p2 * p3)), .val (.int ((p2 * p3) + (p2 * p4))), .unset, .unset, .unset] X0 hx (dd d6_15) rfl rfl ?_
  refine Gz.iload 19 X0 hx (dd d6_17) rfl rfl ?_
  refine Gz.iloadN 20 X0 hx (dd d6_19) rfl rfl ?_
  refine Gz.iload 22 X0 hx (dd d6_20) rfl rfl ?_
  refine Gz.imul 23 X0 hx (dd d6_22) rfl ?_
  refine Gz.iadd 24 X0 hx (dd d6_23) rfl ?_
  refine Gz.istore 26 #[.val (.int p0), .val (.int p1), .val (.int p2), .val (.int p3), .val (.int p4), .val (.int p5), .val (.int (0 : Int32)), .val (.int (p2 * p3)), .val (.int ((p2 * p3) + (p2 * p4))), .val (.int (((p2 * p3) + (p2 * p4)) + (p2 * p5))), .unset, .unset] X0 hx (dd d6_24) rfl rfl ?_
  refine Gz.iload 28 X0 hx (dd d6_26) rfl rfl ?_
  refine Gz.iloadN 29 X0 hx (dd d6_28) rfl rfl ?_
  refine Gz.iload 31 X0 hx (dd d6_29) rfl rfl ?_
  refine Gz.imul 32 X0 hx (dd d6_31) rfl ?_
  refine Gz.iadd 33 X0 hx (dd d6_32) rfl ?_
  refine Gz.istore 35 #[.val (.int p0), .val (.int p1), .val (.int p2), .val (.int p3), .val (.int p4), .val (.int p5), .val (.int (0 : Int32)), .val (.int (p2 * p3)), .val (.int ((p2 * p3) + (p2 * p4))), .val (.int (((p2 * p3) + (p2 * p4)) + (p2 * p5))), .val (.int ((((p2 * p3) + (p2 * p4)) + (p2 * p5)) + (p3 * p4))), .unset] X0 hx (dd d6_33) rfl rfl ?_
  refine Gz.iload 37 X0 hx (dd d6_35) rfl rfl ?_
  refine Gz.iloadN 38 X0 hx (dd d6_37) rfl rfl ?_
  refine Gz.iload 40 X0 hx (dd d6_38) rfl rfl ?_
  refine Gz.imul 41 X0 hx (dd d6_40) rfl ?_
  refine Gz.iadd 42 X0 hx (dd d6_41) rfl ?_
  refine Gz.istore 44 #[.val (.int p0), .val (.int p1), .val (.int p2), .val (.int p3), .val (.int p4), .val (.int p5), .val (.int (0 : Int32)), .val (.int (p2 * p3)), .val (.int ((p2 * p3) + (p2 * p4))), .val (.int (((p2 * p3) + (p2 * p4)) + (p2 * p5))), .val (.int ((((p2 * p3) + (p2 * p4)) + (p2 * p5)) + (p3 * p4))), .val (.int (((((p2 * p3) + (p2 * p4)) + (p2 * p5)) + (p3 * p4)) + (p3 * p5)))] X0 hx (dd d6_42) rfl rfl ?_
  refine Gz.iloadN 45 X0 hx (dd d6_44) rfl rfl ?_
  by_cases hc1 : p0 = (0 : Int32)
  · refine Gz.ifNo 48 X0 hx (dd d6_45) ((if0 _ _).trans (teq hc1).2) rfl ?_
    refine Gz.iloadN 49 X0 hx (dd d6_48) rfl rfl ?_
    refine Gz.iconst 50 (1 : Int32) X0 hx (dd d6_49) rfl rfl ?_
    by_cases hc2 : p1 = (1 : Int32)
    · refine Gz.icmpNo 53 X0 hx (dd d6_50) (teq hc2).2 rfl ?_
      refine Gz.iload 55 X0 hx (dd d6_53) rfl rfl ?_
      refine Gz.fin X0 (v := some (.int (0 : Int32))) (fun h => by rw [hret] at h; cases h) hlk (by decide) (by decide) (fun fs hr => retI X0 hx hret (dd d6_55) hr) ?_
      rw [e0]
      exact ⟨(by unfold fSt; rw [if_pos hc1, if_pos hc2]), N0, rfl⟩
    · refine Gz.icmpYes 56 X0 hx (dd d6_50) (feq hc2).2 (by decide) (by decide) ?_
      refine Gz.iloadN 57 X0 hx (dd d6_56) rfl rfl ?_
      refine Gz.iconst 58 (2 : Int32) X0 hx (dd d6_57) rfl rfl ?_
      by_cases hc3 : p1 = (2 : Int32)
      · refine Gz.icmpNo 61 X0 hx (dd d6_58) (teq hc3).2 rfl ?_
        refine Gz.iload 63 X0 hx (dd d6_61) rfl rfl ?_
        refine Gz.fin X0 (v := some (.int (p2 * p3))) (fun h => by rw [hret] at h; cases h) hlk (by decide) (by decide) (fun fs hr => retI X0 hx hret (dd d6_63) hr) ?_
        rw [e0]
        exact ⟨(by unfold fSt; rw [if_pos hc1, if_neg hc2, if_pos hc3]), N0, rfl⟩
      · refine Gz.icmpYes 64 X0 hx (dd d6_58) (feq hc3).2 (by decide) (by decide) ?_
        refine Gz.iload 66 X0 hx (dd d6_64) rfl rfl ?_
        refine Gz.fin X0 (v := some (.int ((p2 * p3) + (p2 * p4)))) (fun h => by rw [hret] at h; cases h) hlk (by decide) (by decide) (fun fs hr => retI X0 hx hret (dd d6_66) hr) ?_
        rw [e0]
        exact ⟨(by unfold fSt; rw [if_pos hc1, if_neg hc2, if_neg hc3]), N0, rfl⟩
  · refine Gz.ifYes 67 X0 hx (dd d6_45) ((if0 _ _).trans (feq hc1).2) (by decide) (by decide) ?_
    refine Gz.iloadN 68 X0 hx (dd d6_67) rfl rfl ?_
    refine Gz.iconst 69 (1 : Int32) X0 hx (dd d6_68) rfl rfl ?_
    by_cases hc4 : p0 = (1 : Int32)
    · refine Gz.icmpNo 72 X0 hx (dd d6_69) (teq hc4).2 rfl ?_
      refine Gz.iloadN 73 X0 hx (dd d6_72) rfl rfl ?_
      refine Gz.iconst 74 (2 : Int32) X0 hx (dd d6_73) rfl rfl ?_
      by_cases hc5 : p1 = (2 : Int32)
      · refine Gz.icmpNo 77 X0 hx (dd d6_74) (teq hc5).2 rfl ?_
        refine Gz.iload 79 X0 hx (dd d6_77) rfl rfl ?_
        refine Gz.fin X0 (v := some (.int (((p2 * p3) + (p2 * p4)) + (p2 * p5)))) (fun h => by rw [hret] at h; cases h) hlk (by decide) (by decide) (fun fs hr => retI X0 hx hret (dd d6_79) hr) ?_
        rw [e0]
        exact ⟨(by unfold fSt; rw [if_neg hc1, if_pos hc4, if_pos hc5]), N0, rfl⟩
      · refine Gz.icmpYes 80 X0 hx (dd d6_74) (feq hc5).2 (by decide) (by decide) ?_
        refine Gz.iload 82 X0 hx (dd d6_80) rfl rfl ?_
        refine Gz.fin X0 (v := some (.int ((((p2 * p3) + (p2 * p4)) + (p2 * p5)) + (p3 * p4)))) (fun h => by rw [hret] at h; cases h) hlk (by decide) (by decide) (fun fs hr => retI X0 hx hret (dd d6_82) hr) ?_
        rw [e0]
        exact ⟨(by unfold fSt; rw [if_neg hc1, if_pos hc4, if_neg hc5]), N0, rfl⟩
    · refine Gz.icmpYes 83 X0 hx (dd d6_69) (feq hc4).2 (by decide) (by decide) ?_
      refine Gz.iload 85 X0 hx (dd d6_83) rfl rfl ?_
      refine Gz.fin X0 (v := some (.int (((((p2 * p3) + (p2 * p4)) + (p2 * p5)) + (p3 * p4)) + (p3 * p5)))) (fun h => by rw [hret] at h; cases h) hlk (by decide) (by decide) (fun fs hr => retI X0 hx hret (dd d6_85) hr) ?_
      rw [e0]
      exact ⟨(by unfold fSt; rw [if_neg hc1, if_neg hc4]), N0, rfl⟩
theorem d3_0 : decode prog_43_method_2_code 0 = .ok (.lconst 0, 1) := by decide +kernel
theorem d3_1 : decode prog_43_method_2_code 1 = .ok (.lstore_n 1, 1) := by decide +kernel
theorem d3_2 : decode prog_43_method_2_code 2 = .ok (.lconst 0, 1) := by decide +kernel
theorem d3_3 : decode prog_43_method_2_code 3 = .ok (.lstore_n 3, 1) := by decide +kernel
theorem d3_4 : decode prog_43_method_2_code 4 = .ok (.aload_n 0, 1) := by decide +kernel
theorem d3_5 : decode prog_43_method_2_code 5 = .ok (.astore 5, 2) := by decide +kernel
theorem d3_7 : decode prog_43_method_2_code 7 = .ok (.aload 5, 2) := by decide +kernel
theorem d3_9 : decode prog_43_method_2_code 9 = .ok (.arraylength, 1) := by decide +kernel
theorem d3_10 : decode prog_43_method_2_code 10 = .ok (.istore 6, 2) := by decide +kernel
theorem d3_12 : decode prog_43_method_2_code 12 = .ok (.iconst 0, 1) := by decide +kernel
theorem d3_13 : decode prog_43_method_2_code 13 = .ok (.istore 7, 2) := by decide +kernel
theorem d3_15 : decode prog_43_method_2_code 15 = .ok (.iload 7, 2) := by decide +kernel
theorem d3_17 : decode prog_43_method_2_code 17 = .ok (.iload 6, 2) := by decide +kernel
theorem d3_19 : decode prog_43_method_2_code 19 = .ok (.if_icmp .ge 30, 3) := by decide +kernel
theorem d3_22 : decode prog_43_method_2_code 22 = .ok (.aload 5, 2) := by decide +kernel
theorem d3_24 : decode prog_43_method_2_code 24 = .ok (.iload 7, 2) := by decide +kernel
theorem d3_26 : decode prog_43_method_2_code 26 = .ok (.iaload, 1) := by decide +kernel
theorem d3_27 : decode prog_43_method_2_code 27 = .ok (.istore 8, 2) := by decide +kernel
theorem d3_29 : decode prog_43_method_2_code 29 = .ok (.lload_n 1, 1) := by decide +kernel
theorem d3_30 : decode prog_43_method_2_code 30 = .ok (.lload_n 3, 1) := by decide +kernel
theorem d3_31 : decode prog_43_method_2_code 31 = .ok (.iload 8, 2) := by decide +kernel
theorem d3_33 : decode prog_43_method_2_code 33 = .ok (.i2l, 1) := by decide +kernel
theorem d3_34 : decode prog_43_method_2_code 34 = .ok (.lmul, 1) := by decide +kernel
theorem d3_35 : decode prog_43_method_2_code 35 = .ok (.ladd, 1) := by decide +kernel
theorem d3_36 : decode prog_43_method_2_code 36 = .ok (.lstore_n 1, 1) := by decide +kernel
theorem d3_37 : decode prog_43_method_2_code 37 = .ok (.lload_n 3, 1) := by decide +kernel
theorem d3_38 : decode prog_43_method_2_code 38 = .ok (.iload 8, 2) := by decide +kernel
theorem d3_40 : decode prog_43_method_2_code 40 = .ok (.i2l, 1) := by decide +kernel
theorem d3_41 : decode prog_43_method_2_code 41 = .ok (.ladd, 1) := by decide +kernel
theorem d3_42 : decode prog_43_method_2_code 42 = .ok (.lstore_n 3, 1) := by decide +kernel
theorem d3_43 : decode prog_43_method_2_code 43 = .ok (.iinc 7 1, 3) := by decide +kernel
theorem d3_46 : decode prog_43_method_2_code 46 = .ok (.goto (-31), 3) := by decide +kernel
theorem d3_49 : decode prog_43_method_2_code 49 = .ok (.lload_n 1, 1) := by decide +kernel
theorem d3_50 : decode prog_43_method_2_code 50 = .ok (.lreturn, 1) := by decide +kernel
theorem pn_1 : plainName "com/example/minsuite/minsuite/ValuePairs" = true := by first | (simp [plainName, overriddenIn]; done) | decide +kernel
theorem ef_rmC4 (m : MethodId) (a0 : Addr) : entryFrame m #[(.ref a0)] 9 = mkF m 0 #[.val (.ref a0), .unset, .unset, .unset, .unset, .unset, .unset, .unset, .unset] [] := by first | (simp [entryFrame, mkF, argsToLocals, Value.category]; done) | rfl
def fC4 (a0 : Addr) (v0 : Int32) (v1 : Int32) (v2 : Int32) (v3 : Int32) : Int64 := (((((0 : Int64) + ((0 : Int64) * (v0.toInt64))) + (((0 : Int64) + (v0.toInt64)) * (v1.toInt64))) + ((((0 : Int64) + (v0.toInt64)) + (v1.toInt64)) * (v2.toInt64))) + (((((0 : Int64) + (v0.toInt64)) + (v1.toInt64)) + (v2.toInt64)) * (v3.toInt64)))
def Q_rmC4 (Z : State) (a0 : Addr) (k_a0 : ClassId) (v0 : Int32) (v1 : Int32) (v2 : Int32) (v3 : Int32) (h0 : Heap) (n0 : Nat) (v : Option Value) (h : Heap) (L : List Loc) : Prop := v = some (.long (fC4 a0 v0 v1 v2 v3)) ∧ Fr n0 L ∧ h = h0
set_option maxRecDepth 65536 in
set_option maxHeartbeats 40000000 in
theorem rmC4 (l : Launch) (Z : State) (av0 : Array Value) (hw : ∀ d ∈ tables_1, d.before av0 Z = true) (ws : List Jvm.Cond) (a0 : Addr) (k_a0 : ClassId) (v0 : Int32) (v1 : Int32) (v2 : Int32) (v3 : Int32) (h0 : Heap) (n0 : Nat) (Z0 : n0 ≤ h0.size) (V_a0 : Arv Z h0 a0 k_a0 .int (4 : Int32) [(.int v0), (.int v1), (.int v2), (.int v3)] (.int (0 : Int32))) :
    MetFree l (⟨"com/example/minsuite/minsuite/ValuePairs", "count", "([I)J"⟩ : MethodName) (head1 (Jvm.Cond.code (⟨"com/example/minsuite/minsuite/ValuePairs", "count", "([I)J"⟩ : MethodName) prog_43_method_2_code 9 (some .long) :: ws) ({ frames := 0, cells := 0, slots := 0, locals := 0 } : Room)) (fun a U => a = #[(.ref a0)] ∧ Z.Warmed39 U.vm ∧ U.heap = h0) (fun _ _ _ _ _ => True) (fun _ U o U' => ∃ v L, o = .returned v ∧ Q_rmC4 Z a0 k_a0 v0 v1 v2 v3 h0 n0 v U'.heap L ∧ FrameEnd U o U' L ({ frames := 0, cells := 0, slots := 0, locals := 0 } : Room).cells ({ frames := 0, cells := 0, slots := 0, locals := 0 } : Room).slots) := by
  refine MetFree.of_bodySF (plainFor_of_name pn_1) hisR ?_
  intro p e s m args below meth c s₁ Bd hml0 hP hK
  obtain ⟨rfl, hZ, hh⟩ := hP
  have hx := Bd.exec
  have hby := Bd.bytes
  have hml : c.maxLocals = 9 := hml0
  have dd : ∀ {pc : Nat} {r : Except DecodeError (Instr × Nat)}, decode prog_43_method_2_code pc = r → decode c.code pc = r := fun q => hb hby q
  have hown : s.vm.findClass "com/example/minsuite/minsuite/ValuePairs" = some m.cls := findClass_of_methodNamed Bd.named
  have hnm := (name_of_methodNamed Bd.named Bd.method).1
  have X0 : Stand p l e ({ frames := 0, cells := 0, slots := 0, locals := 0 } : Room) s m #[(.ref a0)] below meth c s₁ [] 0 0 := Stand.of_body Bd
  have e0 : s₁.heap = h0 := by rw [← hh, Bd.state]; rfl
  have N0 := Fr.nil n0
  have hret := Bd.returns
  have hlk := Bd.notSynchronized
  show Gz p e below s ({ frames := 0, cells := 0, slots := 0, locals := 0 } : Room).cells ({ frames := 0, cells := 0, slots := 0, locals := 0 } : Room).slots (Q_rmC4 Z a0 k_a0 v0 v1 v2 v3 h0 n0) (s₁.setTop (entryFrame m #[(.ref a0)] 9))
  refine Gz.enter (ef_rmC4 m a0) ?_
  refine Gz.lconst 1 (0 : Int64) X0 hx (dd d3_0) rfl rfl ?_
  refine Gz.lstoreN 2 #[.val (.ref a0), .val (.long (0 : Int64)), .second, .unset, .unset, .unset, .unset, .unset, .unset] X0 hx (dd d3_1) rfl rfl ?_
  refine Gz.lconst 3 (0 : Int64) X0 hx (dd d3_2) rfl rfl ?_
  refine Gz.lstoreN 4 #[.val (.ref a0), .val (.long (0 : Int64)), .second, .val (.long (0 : Int64)), .second, .unset, .unset, .unset, .unset] X0 hx (dd d3_3) rfl rfl ?_
  refine Gz.aloadN 5 X0 hx (dd d3_4) rfl rfl rfl ?_
  refine Gz.astore 7 #[.val (.ref a0), .val (.long (0 : Int64)), .second, .val (.long (0 : Int64)), .second, .val (.ref a0), .unset, .unset, .unset] X0 hx (dd d3_5) rfl rfl rfl ?_
  refine Gz.aload 9 X0 hx (dd d3_7) rfl rfl rfl ?_
  obtain ⟨c1, A1, -, S1, N1, -, -⟩ := id V_a0
  refine Gz.alen 10 X0 hx hZ (dd d3_9) e0 A1 S1 N1 rfl ?_
  refine Gz.istore 12 #[.val (.ref a0), .val (.long (0 : Int64)), .second, .val (.long (0 : Int64)), .second, .val (.ref a0), .val (.int (4 : Int32)), .unset, .unset] X0 hx (dd d3_10) rfl rfl ?_
  refine Gz.iconst 13 (0 : Int32) X0 hx (dd d3_12) rfl rfl ?_
  refine Gz.istore 15 #[.val (.ref a0), .val (.long (0 : Int64)), .second, .val (.long (0 : Int64)), .second, .val (.ref a0), .val (.int (4 : Int32)), .val (.int (0 : Int32)), .unset] X0 hx (dd d3_13) rfl rfl ?_
  refine Gz.iload 17 X0 hx (dd d3_15) rfl rfl ?_
  refine Gz.iload 19 X0 hx (dd d3_17) rfl rfl ?_
  refine Gz.icmpNo 22 X0 hx (dd d3_19) (tlt (by decide : (0 : Int32) < (4 : Int32))).2.1 rfl ?_
  refine Gz.aload 24 X0 hx (dd d3_22) rfl rfl rfl ?_
  refine Gz.iload 26 X0 hx (dd d3_24) rfl rfl ?_
  obtain ⟨c2, A2, q2, S2, N2, H2, G2⟩ := id V_a0
  have hin2 : ¬ ((0 : Int32) < 0 ∨ c2.slots.size ≤ ((0 : Int32)).toNatClampNeg) := inb_of S2 ⟨by decide, by decide⟩
  refine Gz.ldI 27 X0 hx hZ (dd d3_26) e0 A2 hin2 (Has.at H2 hin2 (rfl : _ = ((.int v0) : Value))) rfl ?_
  refine Gz.istore 29 #[.val (.ref a0), .val (.long (0 : Int64)), .second, .val (.long (0 : Int64)), .second, .val (.ref a0), .val (.int (4 : Int32)), .val (.int (0 : Int32)), .val (.int v0)] X0 hx (dd d3_27) rfl rfl ?_
  refine Gz.lloadN 30 X0 hx (dd d3_29) rfl rfl ?_
  refine Gz.lloadN 31 X0 hx (dd d3_30) rfl rfl ?_
  refine Gz.iload 33 X0 hx (dd d3_31) rfl rfl ?_
  refine Gz.i2l 34 X0 hx (dd d3_33) rfl ?_
  refine Gz.lmul 35 X0 hx (dd d3_34) rfl ?_
  refine Gz.ladd 36 X0 hx (dd d3_35) rfl ?_
  refine Gz.lstoreN 37 #[.val (.ref a0), .val (.long ((0 : Int64) + ((0 : Int64) * (v0.toInt64)))), .second, .val (.long (0 : Int64)), .second, .val (.ref a0), .val (.int (4 : Int32)), .val (.int (0 : Int32)), .val (.int v0)] X0 hx (dd d3_36) rfl rfl ?_
  refine Gz.lloadN 38 X0 hx (dd d3_37) rfl rfl ?_
  refine Gz.iload 40 X0 hx (dd d3_38) rfl rfl ?_
  refine Gz.i2l 41 X0 hx (dd d3_40) rfl ?_
  refine Gz.ladd 42 X0 hx (dd d3_41) rfl ?_
  refine Gz.lstoreN 43 #[.val (.ref a0), .val (.long ((0 : Int64) + ((0 : Int64) * (v0.toInt64)))), .second, .val (.long ((0 : Int64) + (v0.toInt64))), .second, .val (.ref a0), .val (.int (4 : Int32)), .val (.int (0 : Int32)), .val (.int v0)] X0 hx (dd d3_42) rfl rfl ?_
  refine Gz.iinc 46 #[.val (.ref a0), .val (.long ((0 : Int64) + ((0 : Int64) * (v0.toInt64)))), .second, .val (.long ((0 : Int64) + (v0.toInt64))), .second, .val (.ref a0), .val (.int (4 : Int32)), .val (.int (1 : Int32)), .val (.int v0)] X0 hx (dd d3_43) rfl rfl rfl ?_
  refine Gz.goto 15 X0 hx (dd d3_46) (by decide) (by decide) ?_
  refine Gz.iload 17 X0 hx (dd d3_15) rfl rfl ?_
  refine Gz.iload 19 X0 hx (dd d3_17) rfl rfl ?_
  refine Gz.icmpNo 22 X0 hx (dd d3_19) (tlt (by decide : (1 : Int32) < (4 : Int32))).2.1 rfl ?_
  refine Gz.aload 24 X0 hx (dd d3_22) rfl rfl rfl ?_
  refine Gz.iload 26 X0 hx (dd d3_24) rfl rfl ?_
  obtain ⟨c3, A3, q3, S3, N3, H3, G3⟩ := id V_a0
  have hin3 : ¬ ((1 : Int32) < 0 ∨ c3.slots.size ≤ ((1 : Int32)).toNatClampNeg) := inb_of S3 ⟨by decide, by decide⟩
  refine Gz.ldI 27 X0 hx hZ (dd d3_26) e0 A3 hin3 (Has.at H3 hin3 (rfl : _ = ((.int v1) : Value))) rfl ?_
  refine Gz.istore 29 #[.val (.ref a0), .val (.long ((0 : Int64) + ((0 : Int64) * (v0.toInt64)))), .second, .val (.long ((0 : Int64) + (v0.toInt64))), .second, .val (.ref a0), .val (.int (4 : Int32)), .val (.int (1 : Int32)), .val (.int v1)] X0 hx (dd d3_27) rfl rfl ?_
  refine Gz.lloadN 30 X0 hx (dd d3_29) rfl rfl ?_
  refine Gz.lloadN 31 X0 hx (dd d3_30) rfl rfl ?_
  refine Gz.iload 33 X0 hx (dd d3_31) rfl rfl ?_
  refine Gz.i2l 34 X0 hx (dd d3_33) rfl ?_
  refine Gz.lmul 35 X0 hx (dd d3_34) rfl ?_
  refine Gz.ladd 36 X0 hx (dd d3_35) rfl ?_
  refine Gz.lstoreN 37 #[.val (.ref a0), .val (.long (((0 : Int64) + ((0 : Int64) * (v0.toInt64))) + (((0 : Int64) + (v0.toInt64)) * (v1.toInt64)))), .second, .val (.long ((0 : Int64) + (v0.toInt64))), .second, .val (.ref a0), .val (.int (4 : Int32)), .val (.int (1 : Int32)), .val (.int v1)] X0 hx (dd d3_36) rfl rfl ?_
  refine Gz.lloadN 38 X0 hx (dd d3_37) rfl rfl ?_
  refine Gz.iload 40 X0 hx (dd d3_38) rfl rfl ?_
  refine Gz.i2l 41 X0 hx (dd d3_40) rfl ?_
  refine Gz.ladd 42 X0 hx (dd d3_41) rfl ?_
  refine Gz.lstoreN 43 #[.val (.ref a0), .val (.long (((0 : Int64) + ((0 : Int64) * (v0.toInt64))) + (((0 : Int64) + (v0.toInt64)) * (v1.toInt64)))), .second, .val (.long (((0 : Int64) + (v0.toInt64)) + (v1.toInt64))), .second, .val (.ref a0), .val (.int (4 : Int32)), .val (.int (1 : Int32)), .val (.int v1)] X0 hx (dd d3_42) rfl rfl ?_
  refine Gz.iinc 46 #[.val (.ref a0), .val (.long (((0 : Int64) + ((0 : Int64) * (v0.toInt64))) + (((0 : Int64) + (v0.toInt64)) * (v1.toInt64)))), .second, .val (.long (((0 : Int64) + (v0.toInt64)) + (v1.toInt64))), .second, .val (.ref a0), .val (.int (4 : Int32)), .val (.int (2 : Int32)), .val (.int v1)] X0 hx (dd d3_43) rfl rfl rfl ?_
  refine Gz.goto 15 X0 hx (dd d3_46) (by decide) (by decide) ?_
  refine Gz.iload 17 X0 hx (dd d3_15) rfl rfl ?_
  refine Gz.iload 19 X0 hx (dd d3_17) rfl rfl ?_
  refine Gz.icmpNo 22 X0 hx (dd d3_19) (tlt (by decide : (2 : Int32) < (4 : Int32))).2.1 rfl ?_
  refine Gz.aload 24 X0 hx (dd d3_22) rfl rfl rfl ?_
  refine Gz.iload 26 X0 hx (dd d3_24) rfl rfl ?_
  obtain ⟨c4, A4, q4, S4, N4, H4, G4⟩ := id V_a0
  have hin4 : ¬ ((2 : Int32) < 0 ∨ c4.slots.size ≤ ((2 : Int32)).toNatClampNeg) := inb_of S4 ⟨by decide, by decide⟩
  refine Gz.ldI 27 X0 hx hZ (dd d3_26) e0 A4 hin4 (Has.at H4 hin4 (rfl : _ = ((.int v2) : Value))) rfl ?_
  refine Gz.istore 29 #[.val (.ref a0), .val (.long (((0 : Int64) + ((0 : Int64) * (v0.toInt64))) + (((0 : Int64) + (v0.toInt64)) * (v1.toInt64)))), .second, .val (.long (((0 : Int64) + (v0.toInt64)) + (v1.toInt64))), .second, .val (.ref a0), .val (.int (4 : Int32)), .val (.int (2 : Int32)), .val (.int v2)] X0 hx (dd d3_27) rfl rfl ?_
  refine Gz.lloadN 30 X0 hx (dd d3_29) rfl rfl ?_
  refine Gz.lloadN 31 X0 hx (dd d3_30) rfl rfl ?_
  refine Gz.iload 33 X0 hx (dd d3_31) rfl rfl ?_
  refine Gz.i2l 34 X0 hx (dd d3_33) rfl ?_
  refine Gz.lmul 35 X0 hx (dd d3_34) rfl ?_
  refine Gz.ladd 36 X0 hx (dd d3_35) rfl ?_
  refine Gz.lstoreN 37 #[.val (.ref a0), .val (.long ((((0 : Int64) + ((0 : Int64) * (v0.toInt64))) + (((0 : Int64) + (v0.toInt64)) * (v1.toInt64))) + ((((0 : Int64) + (v0.toInt64)) + (v1.toInt64)) * (v2.toInt64)))), .second, .val (.long (((0 : Int64) + (v0.toInt64)) + (v1.toInt64))), .second, .val (.ref a0), .val (.int (4 : Int32)), .val (.int (2 : Int32)), .val (.int v2)] X0 hx (dd d3_36) rfl rfl ?_
  refine Gz.lloadN 38 X0 hx (dd d3_37) rfl rfl ?_
  refine Gz.iload 40 X0 hx (dd d3_38) rfl rfl ?_
  refine Gz.i2l 41 X0 hx (dd d3_40) rfl ?_
  refine Gz.ladd 42 X0 hx (dd d3_41) rfl ?_
  refine Gz.lstoreN 43 #[.val (.ref a0), .val (.long ((((0 : Int64) + ((0 : Int64) * (v0.toInt64))) + (((0 : Int64) + (v0.toInt64)) * (v1.toInt64))) + ((((0 : Int64) + (v0.toInt64)) + (v1.toInt64)) * (v2.toInt64)))), .second, .val (.long ((((0 : Int64) + (v0.toInt64)) + (v1.toInt64)) + (v2.toInt64))), .second, .val (.ref a0), .val (.int (4 : Int32)), .val (.int (2 : Int32)), .val (.int v2)] X0 hx (dd d3_42) rfl rfl ?_
  refine Gz.iinc 46 #[.val (.ref a0), .val (.long ((((0 : Int64) + ((0 : Int64) * (v0.toInt64))) + (((0 : Int64) + (v0.toInt64)) * (v1.toInt64))) + ((((0 : Int64) + (v0.toInt64)) + (v1.toInt64)) * (v2.toInt64)))), .second, .val (.long ((((0 : Int64) + (v0.toInt64)) + (v1.toInt64)) + (v2.toInt64))), .second, .val (.ref a0), .val (.int (4 : Int32)), .val (.int (3 : Int32)), .val (.int v2)] X0 hx (dd d3_43) rfl rfl rfl ?_
  refine Gz.goto 15 X0 hx (dd d3_46) (by decide) (by decide) ?_
  refine Gz.iload 17 X0 hx (dd d3_15) rfl rfl ?_
  refine Gz.iload 19 X0 hx (dd d3_17) rfl rfl ?_
  refine Gz.icmpNo 22 X0 hx (dd d3_19) (tlt (by decide : (3 : Int32) < (4 : Int32))).2.1 rfl ?_
  refine Gz.aload 24 X0 hx (dd d3_22) rfl rfl rfl ?_
  refine Gz.iload 26 X0 hx (dd d3_24) rfl rfl ?_
  obtain ⟨c5, A5, q5, S5, N5, H5, G5⟩ := id V_a0
  have hin5 : ¬ ((3 : Int32) < 0 ∨ c5.slots.size ≤ ((3 : Int32)).toNatClampNeg) := inb_of S5 ⟨by decide, by decide⟩
  refine Gz.ldI 27 X0 hx hZ (dd d3_26) e0 A5 hin5 (Has.at H5 hin5 (rfl : _ = ((.int v3) : Value))) rfl ?_
  refine Gz.istore 29 #[.val (.ref a0), .val (.long ((((0 : Int64) + ((0 : Int64) * (v0.toInt64))) + (((0 : Int64) + (v0.toInt64)) * (v1.toInt64))) + ((((0 : Int64) + (v0.toInt64)) + (v1.toInt64)) * (v2.toInt64)))), .second, .val (.long ((((0 : Int64) + (v0.toInt64)) + (v1.toInt64)) + (v2.toInt64))), .second, .val (.ref a0), .val (.int (4 : Int32)), .val (.int (3 : Int32)), .val (.int v3)] X0 hx (dd d3_27) rfl rfl ?_
  refine Gz.lloadN 30 X0 hx (dd d3_29) rfl rfl ?_
  refine Gz.lloadN 31 X0 hx (dd d3_30) rfl rfl ?_
  refine Gz.iload 33 X0 hx (dd d3_31) rfl rfl ?_
  refine Gz.i2l 34 X0 hx (dd d3_33) rfl ?_
  refine Gz.lmul 35 X0 hx (dd d3_34) rfl ?_
  refine Gz.ladd 36 X0 hx (dd d3_35) rfl ?_
  refine Gz.lstoreN 37 #[.val (.ref a0), .val (.long (((((0 : Int64) + ((0 : Int64) * (v0.toInt64))) + (((0 : Int64) + (v0.toInt64)) * (v1.toInt64))) + ((((0 : Int64) + (v0.toInt64)) + (v1.toInt64)) * (v2.toInt64))) + (((((0 : Int64) + (v0.toInt64)) + (v1.toInt64)) + (v2.toInt64)) * (v3.toInt64)))), .second, .val (.long ((((0 : Int64) + (v0.toInt64)) + (v1.toInt64)) + (v2.toInt64))), .second, .val (.ref a0), .val (.int (4 : Int32)), .val (.int (3 : Int32)), .val (.int v3)] X0 hx (dd d3_36) rfl rfl ?_
  refine Gz.lloadN 38 X0 hx (dd d3_37) rfl rfl ?_
  refine Gz.iload 40 X0 hx (dd d3_38) rfl rfl ?_
  refine Gz.i2l 41 X0 hx (dd d3_40) rfl ?_
  refine Gz.ladd 42 X0 hx (dd d3_41) rfl ?_
  refine Gz.lstoreN 43 #[.val (.ref a0), .val (.long (((((0 : Int64) + ((0 : Int64) * (v0.toInt64))) + (((0 : Int64) + (v0.toInt64)) * (v1.toInt64))) + ((((0 : Int64) + (v0.toInt64)) + (v1.toInt64)) * (v2.toInt64))) + (((((0 : Int64) + (v0.toInt64)) + (v1.toInt64)) + (v2.toInt64)) * (v3.toInt64)))), .second, .val (.long (((((0 : Int64) + (v0.toInt64)) + (v1.toInt64)) + (v2.toInt64)) + (v3.toInt64))), .second, .val (.ref a0), .val (.int (4 : Int32)), .val (.int (3 : Int32)), .val (.int v3)] X0 hx (dd d3_42) rfl rfl ?_
  refine Gz.iinc 46 #[.val (.ref a0), .val (.long (((((0 : Int64) + ((0 : Int64) * (v0.toInt64))) + (((0 : Int64) + (v0.toInt64)) * (v1.toInt64))) + ((((0 : Int64) + (v0.toInt64)) + (v1.toInt64)) * (v2.toInt64))) + (((((0 : Int64) + (v0.toInt64)) + (v1.toInt64)) + (v2.toInt64)) * (v3.toInt64)))), .second, .val (.long (((((0 : Int64) + (v0.toInt64)) + (v1.toInt64)) + (v2.toInt64)) + (v3.toInt64))), .second, .val (.ref a0), .val (.int (4 : Int32)), .val (.int (4 : Int32)), .val (.int v3)] X0 hx (dd d3_43) rfl rfl rfl ?_
  refine Gz.goto 15 X0 hx (dd d3_46) (by decide) (by decide) ?_
  refine Gz.iload 17 X0 hx (dd d3_15) rfl rfl ?_
  refine Gz.iload 19 X0 hx (dd d3_17) rfl rfl ?_
  refine Gz.icmpYes 49 X0 hx (dd d3_19) (flt (by decide : ¬ ((4 : Int32) < (4 : Int32)))).2.1 (by decide) (by decide) ?_
  refine Gz.lloadN 50 X0 hx (dd d3_49) rfl rfl ?_
  refine Gz.fin X0 (v := some (.long (((((0 : Int64) + ((0 : Int64) * (v0.toInt64))) + (((0 : Int64) + (v0.toInt64)) * (v1.toInt64))) + ((((0 : Int64) + (v0.toInt64)) + (v1.toInt64)) * (v2.toInt64))) + (((((0 : Int64) + (v0.toInt64)) + (v1.toInt64)) + (v2.toInt64)) * (v3.toInt64))))) (fun h => by rw [hret] at h; cases h) hlk (by decide) (by decide) (fun fs hr => retJ X0 hx hret (dd d3_50) hr) ?_
  rw [e0]
  exact ⟨rfl, N0, rfl⟩
theorem pd_0 : parseMethodDescriptor "([I)J" = some ⟨[(.array .int)], some .long⟩ := by decide +kernel
theorem d1_0 : decode prog_43_method_1_code 0 = .ok (.aload_n 0, 1) := by decide +kernel
theorem d1_1 : decode prog_43_method_1_code 1 = .ok (.invokespecial 3, 3) := by decide +kernel
theorem d1_4 : decode prog_43_method_1_code 4 = .ok (.aload_n 1, 1) := by decide +kernel
theorem d1_5 : decode prog_43_method_1_code 5 = .ok (.invokestatic 9, 3) := by decide +kernel
theorem d1_8 : decode prog_43_method_1_code 8 = .ok (.lstore_n 2, 1) := by decide +kernel
theorem d1_9 : decode prog_43_method_1_code 9 = .ok (.lload_n 2, 1) := by decide +kernel
theorem d1_10 : decode prog_43_method_1_code 10 = .ok (.ldc2_w 15, 3) := by decide +kernel
theorem d1_13 : decode prog_43_method_1_code 13 = .ok (.lcmp, 1) := by decide +kernel
theorem d1_14 : decode prog_43_method_1_code 14 = .ok (.ifCond .le 17, 3) := by decide +kernel
theorem d1_31 : decode prog_43_method_1_code 31 = .ok (.aload_n 1, 1) := by decide +kernel
theorem d1_32 : decode prog_43_method_1_code 32 = .ok (.arraylength, 1) := by decide +kernel
theorem d1_33 : decode prog_43_method_1_code 33 = .ok (.istore 4, 2) := by decide +kernel
theorem d1_35 : decode prog_43_method_1_code 35 = .ok (.aload_n 0, 1) := by decide +kernel
theorem d1_36 : decode prog_43_method_1_code 36 = .ok (.aload_n 1, 1) := by decide +kernel
theorem d1_37 : decode prog_43_method_1_code 37 = .ok (.invokevirtual 26, 3) := by decide +kernel
theorem d1_40 : decode prog_43_method_1_code 40 = .ok (.checkcast 27, 3) := by decide +kernel
theorem d1_43 : decode prog_43_method_1_code 43 = .ok (.putfield 32, 3) := by decide +kernel
theorem d1_46 : decode prog_43_method_1_code 46 = .ok (.aload_n 0, 1) := by decide +kernel
theorem d1_47 : decode prog_43_method_1_code 47 = .ok (.iload 4, 2) := by decide +kernel
theorem d1_49 : decode prog_43_method_1_code 49 = .ok (.iload 4, 2) := by decide +kernel
theorem d1_51 : decode prog_43_method_1_code 51 = .ok (.multianewarray 35 2, 4) := by decide +kernel
theorem d1_55 : decode prog_43_method_1_code 55 = .ok (.putfield 37, 3) := by decide +kernel
theorem d1_58 : decode prog_43_method_1_code 58 = .ok (.iload 4, 2) := by decide +kernel
theorem d1_60 : decode prog_43_method_1_code 60 = .ok (.iload 4, 2) := by decide +kernel
theorem d1_62 : decode prog_43_method_1_code 62 = .ok (.iconst 1, 1) := by decide +kernel
theorem d1_63 : decode prog_43_method_1_code 63 = .ok (.isub, 1) := by decide +kernel
theorem d1_64 : decode prog_43_method_1_code 64 = .ok (.imul, 1) := by decide +kernel
theorem d1_65 : decode prog_43_method_1_code 65 = .ok (.iconst 2, 1) := by decide +kernel
theorem d1_66 : decode prog_43_method_1_code 66 = .ok (.idiv, 1) := by decide +kernel
theorem d1_67 : decode prog_43_method_1_code 67 = .ok (.istore 5, 2) := by decide +kernel
theorem d1_69 : decode prog_43_method_1_code 69 = .ok (.aload_n 0, 1) := by decide +kernel
theorem d1_70 : decode prog_43_method_1_code 70 = .ok (.iload 5, 2) := by decide +kernel
theorem d1_72 : decode prog_43_method_1_code 72 = .ok (.newarray .int, 2) := by decide +kernel
theorem d1_74 : decode prog_43_method_1_code 74 = .ok (.putfield 40, 3) := by decide +kernel
theorem d1_77 : decode prog_43_method_1_code 77 = .ok (.aload_n 0, 1) := by decide +kernel
theorem d1_78 : decode prog_43_method_1_code 78 = .ok (.iload 5, 2) := by decide +kernel
theorem d1_80 : decode prog_43_method_1_code 80 = .ok (.newarray .int, 2) := by decide +kernel
theorem d1_82 : decode prog_43_method_1_code 82 = .ok (.putfield 43, 3) := by decide +kernel
theorem d1_85 : decode prog_43_method_1_code 85 = .ok (.aload_n 0, 1) := by decide +kernel
theorem d1_86 : decode prog_43_method_1_code 86 = .ok (.iload 5, 2) := by decide +kernel
theorem d1_88 : decode prog_43_method_1_code 88 = .ok (.newarray .int, 2) := by decide +kernel
theorem d1_90 : decode prog_43_method_1_code 90 = .ok (.putfield 46, 3) := by decide +kernel
theorem d1_93 : decode prog_43_method_1_code 93 = .ok (.iconst 0, 1) := by decide +kernel
theorem d1_94 : decode prog_43_method_1_code 94 = .ok (.istore 6, 2) := by decide +kernel
theorem d1_96 : decode prog_43_method_1_code 96 = .ok (.iconst 0, 1) := by decide +kernel
theorem d1_97 : decode prog_43_method_1_code 97 = .ok (.istore 7, 2) := by decide +kernel
theorem d1_99 : decode prog_43_method_1_code 99 = .ok (.iconst 0, 1) := by decide +kernel
theorem d1_100 : decode prog_43_method_1_code 100 = .ok (.istore 8, 2) := by decide +kernel
theorem d1_102 : decode prog_43_method_1_code 102 = .ok (.iload 8, 2) := by decide +kernel
theorem d1_104 : decode prog_43_method_1_code 104 = .ok (.iload 4, 2) := by decide +kernel
theorem d1_106 : decode prog_43_method_1_code 106 = .ok (.if_icmp .ge 84, 3) := by decide +kernel
theorem d1_109 : decode prog_43_method_1_code 109 = .ok (.iload 8, 2) := by decide +kernel
theorem d1_111 : decode prog_43_method_1_code 111 = .ok (.iconst 1, 1) := by decide +kernel
theorem d1_112 : decode prog_43_method_1_code 112 = .ok (.iadd, 1) := by decide +kernel
theorem d1_113 : decode prog_43_method_1_code 113 = .ok (.istore 9, 2) := by decide +kernel
theorem d1_115 : decode prog_43_method_1_code 115 = .ok (.iload 9, 2) := by decide +kernel
theorem d1_117 : decode prog_43_method_1_code 117 = .ok (.iload 4, 2) := by decide +kernel
theorem d1_119 : decode prog_43_method_1_code 119 = .ok (.if_icmp .ge 65, 3) := by decide +kernel
theorem d1_122 : decode prog_43_method_1_code 122 = .ok (.aload_n 0, 1) := by decide +kernel
theorem d1_123 : decode prog_43_method_1_code 123 = .ok (.getfield 37, 3) := by decide +kernel
theorem d1_126 : decode prog_43_method_1_code 126 = .ok (.iload 8, 2) := by decide +kernel
theorem d1_128 : decode prog_43_method_1_code 128 = .ok (.aaload, 1) := by decide +kernel
theorem d1_129 : decode prog_43_method_1_code 129 = .ok (.iload 9, 2) := by decide +kernel
theorem d1_131 : decode prog_43_method_1_code 131 = .ok (.iload 6, 2) := by decide +kernel
theorem d1_133 : decode prog_43_method_1_code 133 = .ok (.iastore, 1) := by decide +kernel
theorem d1_134 : decode prog_43_method_1_code 134 = .ok (.aload_n 0, 1) := by decide +kernel
theorem d1_135 : decode prog_43_method_1_code 135 = .ok (.getfield 40, 3) := by decide +kernel
theorem d1_138 : decode prog_43_method_1_code 138 = .ok (.iload 7, 2) := by decide +kernel
theorem d1_140 : decode prog_43_method_1_code 140 = .ok (.iload 8, 2) := by decide +kernel
theorem d1_142 : decode prog_43_method_1_code 142 = .ok (.iastore, 1) := by decide +kernel
theorem d1_143 : decode prog_43_method_1_code 143 = .ok (.aload_n 0, 1) := by decide +kernel
theorem d1_144 : decode prog_43_method_1_code 144 = .ok (.getfield 43, 3) := by decide +kernel
theorem d1_147 : decode prog_43_method_1_code 147 = .ok (.iload 7, 2) := by decide +kernel
theorem d1_149 : decode prog_43_method_1_code 149 = .ok (.iload 9, 2) := by decide +kernel
theorem d1_151 : decode prog_43_method_1_code 151 = .ok (.iastore, 1) := by decide +kernel
theorem d1_152 : decode prog_43_method_1_code 152 = .ok (.aload_n 0, 1) := by decide +kernel
theorem d1_153 : decode prog_43_method_1_code 153 = .ok (.getfield 46, 3) := by decide +kernel
theorem d1_156 : decode prog_43_method_1_code 156 = .ok (.iload 7, 2) := by decide +kernel
theorem d1_158 : decode prog_43_method_1_code 158 = .ok (.iload 6, 2) := by decide +kernel
theorem d1_160 : decode prog_43_method_1_code 160 = .ok (.iastore, 1) := by decide +kernel
theorem d1_161 : decode prog_43_method_1_code 161 = .ok (.iinc 7 1, 3) := by decide +kernel
theorem d1_164 : decode prog_43_method_1_code 164 = .ok (.iload 6, 2) := by decide +kernel
theorem d1_166 : decode prog_43_method_1_code 166 = .ok (.aload_n 1, 1) := by decide +kernel
theorem d1_167 : decode prog_43_method_1_code 167 = .ok (.iload 8, 2) := by decide +kernel
theorem d1_169 : decode prog_43_method_1_code 169 = .ok (.iaload, 1) := by decide +kernel
theorem d1_170 : decode prog_43_method_1_code 170 = .ok (.aload_n 1, 1) := by decide +kernel
theorem d1_171 : decode prog_43_method_1_code 171 = .ok (.iload 9, 2) := by decide +kernel
theorem d1_173 : decode prog_43_method_1_code 173 = .ok (.iaload, 1) := by decide +kernel
theorem d1_174 : decode prog_43_method_1_code 174 = .ok (.imul, 1) := by decide +kernel
theorem d1_175 : decode prog_43_method_1_code 175 = .ok (.iadd, 1) := by decide +kernel
theorem d1_176 : decode prog_43_method_1_code 176 = .ok (.istore 6, 2) := by decide +kernel
theorem d1_178 : decode prog_43_method_1_code 178 = .ok (.iinc 9 1, 3) := by decide +kernel
theorem d1_181 : decode prog_43_method_1_code 181 = .ok (.goto (-66), 3) := by decide +kernel
theorem d1_184 : decode prog_43_method_1_code 184 = .ok (.iinc 8 1, 3) := by decide +kernel
theorem d1_187 : decode prog_43_method_1_code 187 = .ok (.goto (-85), 3) := by decide +kernel
theorem d1_190 : decode prog_43_method_1_code 190 = .ok (.aload_n 0, 1) := by decide +kernel
theorem d1_191 : decode prog_43_method_1_code 191 = .ok (.iload 6, 2) := by decide +kernel
theorem d1_193 : decode prog_43_method_1_code 193 = .ok (.putfield 49, 3) := by decide +kernel
theorem d1_196 : decode prog_43_method_1_code 196 = .ok (.return_, 1) := by decide +kernel
theorem ef_rmI4 (m : MethodId) (a0 : Addr) (a1 : Addr) : entryFrame m #[(.ref a0), (.ref a1)] 10 = mkF m 0 #[.val (.ref a0), .val (.ref a1), .unset, .unset, .unset, .unset, .unset, .unset, .unset, .unset] [] := by first | (simp [entryFrame, mkF, argsToLocals, Value.category]; done) | rfl
def Q_rmI4 (Z : State) (a0 : Addr) (a1 : Addr) (k_a1 : ClassId) (v0 : Int32) (v1 : Int32) (v2 : Int32) (v3 : Int32) (h0 : Heap) (n0 : Nat) (v : Option Value) (h : Heap) (L : List Loc) : Prop := v = none ∧ Fr n0 L ∧ Keep h0 h [a0] ∧ Exa Z h a0 "com/example/minsuite/minsuite/ValuePairs" ∧ ∃ (ac : Addr) (kc : ClassId) (so : Addr) (ks : ClassId) (ro0 ro1 ro2 ro3 : Addr) (kr : ClassId), Fld Z h a0 "com/example/minsuite/minsuite/ValuePairs" "valueCounts" "[I" (.ref ac) ∧ Arv Z h ac kc .int (4 : Int32) [(.int v0), (.int v1), (.int v2), (.int v3)] (.int (0 : Int32)) ∧ Fld Z h a0 "com/example/minsuite/minsuite/ValuePairs" "start" "[[I" (.ref so) ∧ Arv Z h so ks (.array .int) (4 : Int32) [.ref ro0, .ref ro1, .ref ro2, .ref ro3] .null ∧ Arv Z h ro0 kr .int (4 : Int32) [(.int (0 : Int32)), (.int (0 : Int32)), (.int ((0 : Int32) + (v0 * v1))), (.int (((0 : Int32) + (v0 * v1)) + (v0 * v2)))] (.int (0 : Int32)) ∧ Arv Z h ro1 kr .int (4 : Int32) [(.int (0 : Int32)), (.int (0 : Int32)), (.int ((((0 : Int32) + (v0 * v1)) + (v0 * v2)) + (v0 * v3))), (.int (((((0 : Int32) + (v0 * v1)) + (v0 * v2)) + (v0 * v3)) + (v1 * v2)))] (.int (0 : Int32)) ∧ Arv Z h ro2 kr .int (4 : Int32) [(.int (0 : Int32)), (.int (0 : Int32)), (.int (0 : Int32)), (.int ((((((0 : Int32) + (v0 * v1)) + (v0 * v2)) + (v0 * v3)) + (v1 * v2)) + (v1 * v3)))] (.int (0 : Int32)) ∧ Arv Z h ro3 kr .int (4 : Int32) [(.int (0 : Int32)), (.int (0 : Int32)), (.int (0 : Int32)), (.int (0 : Int32))] (.int (0 : Int32))
set_option maxRecDepth 65536 in
set_option maxHeartbeats 40000000 in
theorem rmI4 (l : Launch) (Z : State) (av0 : Array Value) (hw : ∀ d ∈ tables_1, d.before av0 Z = true) (ws : List Jvm.Cond) (a0 : Addr) (a1 : Addr) (k_a1 : ClassId) (v0 : Int32) (v1 : Int32) (v2 : Int32) (v3 : Int32) (h0 : Heap) (n0 : Nat) (Z0 : n0 ≤ h0.size) (E_a0 : Exa Z h0 a0 "com/example/minsuite/minsuite/ValuePairs") (F_valueCounts_a0 : Fld Z h0 a0 "com/example/minsuite/minsuite/ValuePairs" "valueCounts" "[I" .null) (F_start_a0 : Fld Z h0 a0 "com/example/minsuite/minsuite/ValuePairs" "start" "[[I" .null) (F_firstOf_a0 : Fld Z h0 a0 "com/example/minsuite/minsuite/ValuePairs" "firstOf" "[I" .null) (F_secondOf_a0 : Fld Z h0 a0 "com/example/minsuite/minsuite/ValuePairs" "secondOf" "[I" .null) (F_startOf_a0 : Fld Z h0 a0 "com/example/minsuite/minsuite/ValuePairs" "startOf" "[I" .null) (F_count_a0 : Fld Z h0 a0 "com/example/minsuite/minsuite/ValuePairs" "count" "I" (.int (0 : Int32))) (g_a0 : n0 ≤ a0) (V_a1 : Arv Z h0 a1 k_a1 .int (4 : Int32) [(.int v0), (.int v1), (.int v2), (.int v3)] (.int (0 : Int32))) (E_a1 : Exa Z h0 a1 "[I") (ne_a1_a0 : a1 ≠ a0) (hcnt : ¬ ((2147483639 : Int64) < (fC4 a1 v0 v1 v2 v3))) :
    MetFree l (⟨"com/example/minsuite/minsuite/ValuePairs", "<init>", "([I)V"⟩ : MethodName) (head1 (Jvm.Cond.code (⟨"com/example/minsuite/minsuite/ValuePairs", "<init>", "([I)V"⟩ : MethodName) prog_43_method_1_code 10 none :: ws) ({ frames := 1, cells := 9, slots := 42, locals := 20 } : Room)) (fun a U => a = #[(.ref a0), (.ref a1)] ∧ Z.Warmed39 U.vm ∧ U.heap = h0) (fun _ _ _ _ _ => True) (fun _ U o U' => ∃ v L, o = .returned v ∧ Q_rmI4 Z a0 a1 k_a1 v0 v1 v2 v3 h0 n0 v U'.heap L ∧ FrameEnd U o U' L ({ frames := 1, cells := 9, slots := 42, locals := 20 } : Room).cells ({ frames := 1, cells := 9, slots := 42, locals := 20 } : Room).slots) := by
  refine MetFree.of_bodySF (plainFor_of_name pn_1) hisR ?_
  intro p e s m args below meth c s₁ Bd hml0 hP hK
  obtain ⟨rfl, hZ, hh⟩ := hP
  have hx := Bd.exec
  have hby := Bd.bytes
  have hml : c.maxLocals = 10 := hml0
  have dd : ∀ {pc : Nat} {r : Except DecodeError (Instr × Nat)}, decode prog_43_method_1_code pc = r → decode c.code pc = r := fun q => hb hby q
  have hown : s.vm.findClass "com/example/minsuite/minsuite/ValuePairs" = some m.cls := findClass_of_methodNamed Bd.named
  have hnm := (name_of_methodNamed Bd.named Bd.method).1
  have X0 : Stand p l e ({ frames := 1, cells := 9, slots := 42, locals := 20 } : Room) s m #[(.ref a0), (.ref a1)] below meth c s₁ [] 0 0 := Stand.of_body Bd
  have e0 : s₁.heap = h0 := by rw [← hh, Bd.state]; rfl
  have N0 := Fr.nil n0
  have hret := Bd.returns
  have hlk := Bd.notSynchronized
  show Gz p e below s ({ frames := 1, cells := 9, slots := 42, locals := 20 } : Room).cells ({ frames := 1, cells := 9, slots := 42, locals := 20 } : Room).slots (Q_rmI4 Z a0 a1 k_a1 v0 v1 v2 v3 h0 n0) (s₁.setTop (entryFrame m #[(.ref a0), (.ref a1)] 10))
  refine Gz.enter (ef_rmI4 m a0 a1) ?_
  refine Gz.aloadN 1 X0 hx (dd d1_0) rfl rfl rfl ?_
  obtain ⟨T1, X1, e1, st1⟩ := initO X0 hx hZ hown (ww hw 7 rfl) (ww hw 8 rfl) (ww hw 9 rfl) e0 (g := (mkF m 1 #[.val (.ref a0), .val (.ref a1), .unset, .unset, .unset, .unset, .unset, .unset, .unset, .unset] [(.ref a0)])) rfl (by rw [hml]; rfl) rfl (dd d1_1) (by decide) (W := 0) (by show 2 * 0 + _ ≤ _; exact Nat.le_of_eq rfl) (by decide)
  refine Gz.st st1 ?_
  refine Gz.aloadN 5 X1 hx (dd d1_4) rfl rfl rfl ?_
  obtain ⟨_, _, ⟨T2, L2, k2, n2⟩, -, X2, ⟨Lc2, hQ2, l2, y2, z2⟩, st2⟩ := Jvm.LawKit.callS X1 hx (y := (⟨"com/example/minsuite/minsuite/ValuePairs", "count", "([I)J"⟩ : MethodName)) hown (mvT hZ (ww hw 10 rfl)) (mvT hZ (ww hw 11 rfl)) (mvT hZ (ww hw 3 rfl)) (mvT hZ (ww hw 12 rfl)) (by decide) (backOf (W := 0) (rmC4 l Z av0 hw [] a1 k_a1 v0 v1 v2 v3 h0 n0 Z0 V_a1) hZ (ww hw 12 rfl) (ww hw 3 rfl) (by decide) (by decide)) (g := (mkF m 5 #[.val (.ref a0), .val (.ref a1), .unset, .unset, .unset, .unset, .unset, .unset, .unset, .unset] [(.ref a1)])) rfl (by rw [hml]; rfl) (argsL := [(.ref a1)]) (rest := []) (lenOf pd_0 rfl) rfl (by show 2 * 0 + _ ≤ _; exact Nat.le_of_eq rfl) (dd d1_5) (fun _ _ => ⟨rfl, e1, (by decide : 0 + 0 ≤ _), (by decide : 0 + 0 ≤ _)⟩)
  dsimp only [Pt.U, Pt.locs, Pt.cells, Pt.slots, Q_rmC4] at X2 l2 y2 z2 st2 hQ2
  subst l2 y2 z2
  obtain ⟨rfl, N2q, e2⟩ := hQ2
  have N2 := Fr.app N0 N2q
  refine Gz.st st2 ?_
  refine Gz.lstoreN 9 #[.val (.ref a0), .val (.ref a1), .val (.long (fC4 a1 v0 v1 v2 v3)), .second, .unset, .unset, .unset, .unset, .unset, .unset] X2 hx (dd d1_8) rfl rfl ?_
  refine Gz.lloadN 10 X2 hx (dd d1_9) rfl rfl ?_
  refine Gz.ldc2J 13 X2 hx (dd d1_10) hown (mvT hZ (ww hw 13 rfl)) rfl ?_
  refine Gz.lcmp 14 X2 hx (dd d1_13) rfl ?_
  refine Gz.ifYes 31 X2 hx (dd d1_14) ((if0 _ _).trans (flt (fun q => (hcnt : ¬ ((2147483639 : Int64) < (fC4 a1 v0 v1 v2 v3))) ((lw_gt _ _).mp q))).2.2.2) (by decide) (by decide) ?_
  refine Gz.aloadN 32 X2 hx (dd d1_31) rfl rfl rfl ?_
  obtain ⟨c3, A3, -, S3, N3, -, -⟩ := id V_a1
  refine Gz.alen 33 X2 hx hZ (dd d1_32) e2 A3 S3 N3 rfl ?_
  refine Gz.istore 35 #[.val (.ref a0), .val (.ref a1), .val (.long (fC4 a1 v0 v1 v2 v3)), .second, .val (.int (4 : Int32)), .unset, .unset, .unset, .unset, .unset] X2 hx (dd d1_33) rfl rfl ?_
  refine Gz.aloadN 36 X2 hx (dd d1_35) rfl rfl rfl ?_
  refine Gz.aloadN 37 X2 hx (dd d1_36) rfl rfl rfl ?_
  obtain ⟨T4, h4, X4, e4, E4, A4, Q4, st4⟩ := cloneH X2 hx hZ hown (ww hw 14 rfl) (ww hw 15 rfl) (ww hw 19 rfl) (ww hw 17 rfl) (ww hw 18 rfl) (ww hw 20 rfl) e2 (Arv.arh V_a1) E_a1 (g := (mkF m 37 #[.val (.ref a0), .val (.ref a1), .val (.long (fC4 a1 v0 v1 v2 v3)), .second, .val (.int (4 : Int32)), .unset, .unset, .unset, .unset, .unset] [(.ref a1), (.ref a0)])) rfl (by rw [hml]; rfl) rfl (dd d1_37) (by decide) (W := 1) (by show 2 * 0 + _ ≤ _; exact Nat.le_of_eq rfl) (by decide) (cap := 4) (by decide) (by decide) (by decide)
  obtain ⟨b4, g4⟩ : ∃ z, z = h0.size := ⟨_, rfl⟩
  rw [← g4] at A4 Q4 st4
  have ne_a0_b4 : a0 ≠ b4 := Nat.ne_of_lt (Nat.lt_of_lt_of_le (E_a0).lt (Nat.le_of_eq g4.symm))
  have ne_a1_b4 : a1 ≠ b4 := Nat.ne_of_lt (Nat.lt_of_lt_of_le (V_a1).lt (Nat.le_of_eq g4.symm))
  have g_b4 : n0 ≤ b4 := Nat.le_trans Z0 (Nat.le_of_eq g4.symm)
  have SZ4 : n0 ≤ h4.size := Nat.le_trans Z0 E4.1
  have sz_b4 : h0.size ≤ b4 := Nat.le_trans (Keep.refl h0 [a0]).1 (Nat.le_of_eq g4.symm)
  have K4 := Keep.ext (Keep.refl h0 [a0]) E4
  have f4_E_a0 := Exa.ext E4 E_a0
  have f4_F_valueCounts_a0 := Fld.ext E4 F_valueCounts_a0
  have f4_F_start_a0 := Fld.ext E4 F_start_a0
  have f4_F_firstOf_a0 := Fld.ext E4 F_firstOf_a0
  have f4_F_secondOf_a0 := Fld.ext E4 F_secondOf_a0
  have f4_F_startOf_a0 := Fld.ext E4 F_startOf_a0
  have f4_F_count_a0 := Fld.ext E4 F_count_a0
  have f4_V_a1 := Arv.ext V_a1 E4
  have f4_E_a1 := Exa.ext E4 E_a1
  have V4 : Arv Z h4 b4 k_a1 .int (4 : Int32) [(.int v0), (.int v1), (.int v2), (.int v3)] (.int (0 : Int32)) := A4
  refine Gz.st st4 ?_
  refine Gz.castY 43 X4 hx hZ hown (dd d1_40) (ww hw 21 rfl) e4 (Ins.self Q4) rfl fun T5 X5 e5 => ?_
  refine Gz.putF 46 X5 hx hZ hown (.array .int) (dd d1_43) (host := "") (Or.inl (ww hw 23 rfl)) Via.refl e5 f4_F_valueCounts_a0 f4_E_a0 (Or.inr ⟨(ww hw 24 rfl), rfl, hnm⟩) (ww hw 2 rfl) (by decide) rfl rfl rfl fun T6 h6 X6 e6 W6 => ?_
  have f6_E_a0 := Exa.wr W6 f4_E_a0
  have f6_F_start_a0 := Fld.other W6 f4_F_start_a0 (Or.inr (slot_ne (Or.inr (ww hw 28 rfl)) (Or.inr (ww hw 24 rfl)) (by decide) (t := (.array (.array .int))) (t' := (.array .int)) (by decide) (by decide)))
  have f6_F_firstOf_a0 := Fld.other W6 f4_F_firstOf_a0 (Or.inr (slot_ne (Or.inr (ww hw 30 rfl)) (Or.inr (ww hw 24 rfl)) (by decide) (t := (.array .int)) (t' := (.array .int)) (by decide) (by decide)))
  have f6_F_secondOf_a0 := Fld.other W6 f4_F_secondOf_a0 (Or.inr (slot_ne (Or.inr (ww hw 32 rfl)) (Or.inr (ww hw 24 rfl)) (by decide) (t := (.array .int)) (t' := (.array .int)) (by decide) (by decide)))
  have f6_F_startOf_a0 := Fld.other W6 f4_F_startOf_a0 (Or.inr (slot_ne (Or.inr (ww hw 34 rfl)) (Or.inr (ww hw 24 rfl)) (by decide) (t := (.array .int)) (t' := (.array .int)) (by decide) (by decide)))
  have f6_F_count_a0 := Fld.other W6 f4_F_count_a0 (Or.inr (slot_ne (Or.inr (ww hw 36 rfl)) (Or.inr (ww hw 24 rfl)) (by decide) (t := .int) (t' := (.array .int)) (by decide) (by decide)))
  have f6_V_a1 := Arv.other f4_V_a1 W6 ne_a1_a0
  have f6_E_a1 := Exa.wr W6 f4_E_a1
  have f6_Eb4 := Exa.wr W6 Q4
  have f6_Vb4 := Arv.other V4 W6 (Ne.symm ne_a0_b4)
  have f6_F_valueCounts_a0 := Fld.same W6 f4_F_valueCounts_a0
  have N6 := Fr.snoc X6 N2 g_a0
  have SZ6 : n0 ≤ h6.size := Nat.le_trans SZ4 (Keep.of_wr W6).1
  have K6 := Keep.wr K4 W6 (Or.inl (List.mem_of_getElem? (i := 0) rfl))
  refine Gz.aloadN 47 X6 hx (dd d1_46) rfl rfl rfl ?_
  refine Gz.iload 49 X6 hx (dd d1_47) rfl rfl ?_
  refine Gz.iload 51 X6 hx (dd d1_49) rfl rfl ?_
  obtain ⟨b7_0, gr7_0⟩ : ∃ z, z = h6.size + 1 + 0 := ⟨_, rfl⟩
  obtain ⟨b7_1, gr7_1⟩ : ∃ z, z = h6.size + 1 + 1 := ⟨_, rfl⟩
  obtain ⟨b7_2, gr7_2⟩ : ∃ z, z = h6.size + 1 + 2 := ⟨_, rfl⟩
  obtain ⟨b7_3, gr7_3⟩ : ∃ z, z = h6.size + 1 + 3 := ⟨_, rfl⟩
  obtain ⟨T7, h7, k7, kr7, X7, e7, E7, A7, O7, Q7, Rw7, st7⟩ := gridM X6 hx hZ hown (ty := .int) (C := "[I") (ad := "[[I") rfl rfl (ww hw 25 rfl) (ww hw 26 rfl) (ww hw 0 rfl) e6 (g := (mkF m 51 #[.val (.ref a0), .val (.ref a1), .val (.long (fC4 a1 v0 v1 v2 v3)), .second, .val (.int (4 : Int32)), .unset, .unset, .unset, .unset, .unset] [(.int (4 : Int32)), (.int (4 : Int32)), (.ref a0)])) rfl (dd d1_51) rfl (by decide) (by decide) (xs := [b7_0, b7_1, b7_2, b7_3]) (N := 4) (by decide) (by rw [gr7_0, gr7_1, gr7_2, gr7_3]; rfl) (cap := 4) (by decide) (by decide) (by decide) rfl rfl (by decide) (by decide)
  obtain ⟨b7, g7⟩ : ∃ z, z = h6.size := ⟨_, rfl⟩
  rw [← g7] at A7 Q7 st7
  have ne_a0_b7 : a0 ≠ b7 := Nat.ne_of_lt (Nat.lt_of_lt_of_le (f6_E_a0).lt (Nat.le_of_eq g7.symm))
  have ne_a1_b7 : a1 ≠ b7 := Nat.ne_of_lt (Nat.lt_of_lt_of_le (f6_V_a1).lt (Nat.le_of_eq g7.symm))
  have ne_b4_b7 : b4 ≠ b7 := Nat.ne_of_lt (Nat.lt_of_lt_of_le (f6_Eb4).lt (Nat.le_of_eq g7.symm))
  have g_b7 : n0 ≤ b7 := Nat.le_trans SZ6 (Nat.le_of_eq g7.symm)
  have SZ7 : n0 ≤ h7.size := Nat.le_trans SZ6 E7.1
  have sz_b7 : h0.size ≤ b7 := Nat.le_trans K6.1 (Nat.le_of_eq g7.symm)
  have K7 := Keep.ext K6 E7
  have f7_E_a0 := Exa.ext E7 f6_E_a0
  have f7_F_valueCounts_a0 := Fld.ext E7 f6_F_valueCounts_a0
  have f7_F_start_a0 := Fld.ext E7 f6_F_start_a0
  have f7_F_firstOf_a0 := Fld.ext E7 f6_F_firstOf_a0
  have f7_F_secondOf_a0 := Fld.ext E7 f6_F_secondOf_a0
  have f7_F_startOf_a0 := Fld.ext E7 f6_F_startOf_a0
  have f7_F_count_a0 := Fld.ext E7 f6_F_count_a0
  have f7_V_a1 := Arv.ext f6_V_a1 E7
  have f7_E_a1 := Exa.ext E7 f6_E_a1
  have f7_Eb4 := Exa.ext E7 f6_Eb4
  have f7_Vb4 := Arv.ext f6_Vb4 E7
  have ne_a0_b7_0 : a0 ≠ b7_0 := own_rl (f6_E_a0).lt gr7_0
  have ne_a1_b7_0 : a1 ≠ b7_0 := own_rl (f6_V_a1).lt gr7_0
  have ne_b4_b7_0 : b4 ≠ b7_0 := own_rl (f6_Eb4).lt gr7_0
  have ne_b7_b7_0 : b7 ≠ b7_0 := own_ro g7 gr7_0
  have g_b7_0 : n0 ≤ b7_0 := own_rg SZ6 gr7_0
  have sz_b7_0 : h0.size ≤ b7_0 := own_rg (K6).1 gr7_0
  have ne_a0_b7_1 : a0 ≠ b7_1 := own_rl (f6_E_a0).lt gr7_1
  have ne_a1_b7_1 : a1 ≠ b7_1 := own_rl (f6_V_a1).lt gr7_1
  have ne_b4_b7_1 : b4 ≠ b7_1 := own_rl (f6_Eb4).lt gr7_1
  have ne_b7_b7_1 : b7 ≠ b7_1 := own_ro g7 gr7_1
  have ne_b7_0_b7_1 : b7_0 ≠ b7_1 := own_rr gr7_0 gr7_1 (by decide)
  have g_b7_1 : n0 ≤ b7_1 := own_rg SZ6 gr7_1
  have sz_b7_1 : h0.size ≤ b7_1 := own_rg (K6).1 gr7_1
  have ne_a0_b7_2 : a0 ≠ b7_2 := own_rl (f6_E_a0).lt gr7_2
  have ne_a1_b7_2 : a1 ≠ b7_2 := own_rl (f6_V_a1).lt gr7_2
  have ne_b4_b7_2 : b4 ≠ b7_2 := own_rl (f6_Eb4).lt gr7_2
  have ne_b7_b7_2 : b7 ≠ b7_2 := own_ro g7 gr7_2
  have ne_b7_0_b7_2 : b7_0 ≠ b7_2 := own_rr gr7_0 gr7_2 (by decide)
  have ne_b7_1_b7_2 : b7_1 ≠ b7_2 := own_rr gr7_1 gr7_2 (by decide)
  have g_b7_2 : n0 ≤ b7_2 := own_rg SZ6 gr7_2
  have sz_b7_2 : h0.size ≤ b7_2 := own_rg (K6).1 gr7_2
  have ne_a0_b7_3 : a0 ≠ b7_3 := own_rl (f6_E_a0).lt gr7_3
  have ne_a1_b7_3 : a1 ≠ b7_3 := own_rl (f6_V_a1).lt gr7_3
  have ne_b4_b7_3 : b4 ≠ b7_3 := own_rl (f6_Eb4).lt gr7_3
  have ne_b7_b7_3 : b7 ≠ b7_3 := own_ro g7 gr7_3
  have ne_b7_0_b7_3 : b7_0 ≠ b7_3 := own_rr gr7_0 gr7_3 (by decide)
  have ne_b7_1_b7_3 : b7_1 ≠ b7_3 := own_rr gr7_1 gr7_3 (by decide)
  have ne_b7_2_b7_3 : b7_2 ≠ b7_3 := own_rr gr7_2 gr7_3 (by decide)
  have g_b7_3 : n0 ≤ b7_3 := own_rg SZ6 gr7_3
  have sz_b7_3 : h0.size ≤ b7_3 := own_rg (K6).1 gr7_3
  have V7 : Arv Z h7 b7 k7 (.array .int) (4 : Int32) [.ref b7_0, .ref b7_1, .ref b7_2, .ref b7_3] .null := A7
  have V7_0 : Arv Z h7 b7_0 kr7 .int (4 : Int32) [(.int (0 : Int32)), (.int (0 : Int32)), (.int (0 : Int32)), (.int (0 : Int32))] (.int (0 : Int32)) := (Arv.new (Rw7 0 b7_0 rfl).1 (by decide)).pad (pad_rep [] (.int (0 : Int32)) 4)
  have Q7_0 := (Rw7 0 b7_0 rfl).2
  have V7_1 : Arv Z h7 b7_1 kr7 .int (4 : Int32) [(.int (0 : Int32)), (.int (0 : Int32)), (.int (0 : Int32)), (.int (0 : Int32))] (.int (0 : Int32)) := (Arv.new (Rw7 1 b7_1 rfl).1 (by decide)).pad (pad_rep [] (.int (0 : Int32)) 4)
  have Q7_1 := (Rw7 1 b7_1 rfl).2
  have V7_2 : Arv Z h7 b7_2 kr7 .int (4 : Int32) [(.int (0 : Int32)), (.int (0 : Int32)), (.int (0 : Int32)), (.int (0 : Int32))] (.int (0 : Int32)) := (Arv.new (Rw7 2 b7_2 rfl).1 (by decide)).pad (pad_rep [] (.int (0 : Int32)) 4)
  have Q7_2 := (Rw7 2 b7_2 rfl).2
  have V7_3 : Arv Z h7 b7_3 kr7 .int (4 : Int32) [(.int (0 : Int32)), (.int (0 : Int32)), (.int (0 : Int32)), (.int (0 : Int32))] (.int (0 : Int32)) := (Arv.new (Rw7 3 b7_3 rfl).1 (by decide)).pad (pad_rep [] (.int (0 : Int32)) 4)
  have Q7_3 := (Rw7 3 b7_3 rfl).2
  refine Gz.st st7 ?_
  refine Gz.putF 58 X7 hx hZ hown (.array (.array .int)) (dd d1_55) (host := "") (Or.inl (ww hw 27 rfl)) Via.refl e7 f7_F_start_a0 f7_E_a0 (Or.inr ⟨(ww hw 28 rfl), rfl, hnm⟩) (ww hw 2 rfl) (by decide) rfl rfl rfl fun T8 h8 X8 e8 W8 => ?_
  have f8_E_a0 := Exa.wr W8 f7_E_a0
  have f8_F_valueCounts_a0 := Fld.other W8 f7_F_valueCounts_a0 (Or.inr (slot_ne (Or.inr (ww hw 24 rfl)) (Or.inr (ww hw 28 rfl)) (by decide) (t := (.array .int)) (t' := (.array (.array .int))) (by decide) (by decide)))
  have f8_F_firstOf_a0 := Fld.other W8 f7_F_firstOf_a0 (Or.inr (slot_ne (Or.inr (ww hw 30 rfl)) (Or.inr (ww hw 28 rfl)) (by decide) (t := (.array .int)) (t' := (.array (.array .int))) (by decide) (by decide)))
  have f8_F_secondOf_a0 := Fld.other W8 f7_F_secondOf_a0 (Or.inr (slot_ne (Or.inr (ww hw 32 rfl)) (Or.inr (ww hw 28 rfl)) (by decide) (t := (.array .int)) (t' := (.array (.array .int))) (by decide) (by decide)))
  have f8_F_startOf_a0 := Fld.other W8 f7_F_startOf_a0 (Or.inr (slot_ne (Or.inr (ww hw 34 rfl)) (Or.inr (ww hw 28 rfl)) (by decide) (t := (.array .int)) (t' := (.array (.array .int))) (by decide) (by decide)))
  have f8_F_count_a0 := Fld.other W8 f7_F_count_a0 (Or.inr (slot_ne (Or.inr (ww hw 36 rfl)) (Or.inr (ww hw 28 rfl)) (by decide) (t := .int) (t' := (.array (.array .int))) (by decide) (by decide)))
  have f8_V_a1 := Arv.other f7_V_a1 W8 ne_a1_a0
  have f8_E_a1 := Exa.wr W8 f7_E_a1
  have f8_Eb4 := Exa.wr W8 f7_Eb4
  have f8_Vb4 := Arv.other f7_Vb4 W8 (Ne.symm ne_a0_b4)
  have f8_Eb7 := Exa.wr W8 Q7
  have f8_Vb7 := Arv.other V7 W8 (Ne.symm ne_a0_b7)
  have f8_Vb7_0 := Arv.other V7_0 W8 (Ne.symm ne_a0_b7_0)
  have f8_Eb7_0 := Exa.wr W8 Q7_0
  have f8_Vb7_1 := Arv.other V7_1 W8 (Ne.symm ne_a0_b7_1)
  have f8_Eb7_1 := Exa.wr W8 Q7_1
  have f8_Vb7_2 := Arv.other V7_2 W8 (Ne.symm ne_a0_b7_2)
  have f8_Eb7_2 := Exa.wr W8 Q7_2
  have f8_Vb7_3 := Arv.other V7_3 W8 (Ne.symm ne_a0_b7_3)
  have f8_Eb7_3 := Exa.wr W8 Q7_3
  have f8_F_start_a0 := Fld.same W8 f7_F_start_a0
  have N8 := Fr.snoc X8 N6 g_a0
  have SZ8 : n0 ≤ h8.size := Nat.le_trans SZ7 (Keep.of_wr W8).1
  have K8 := Keep.wr K7 W8 (Or.inl (List.mem_of_getElem? (i := 0) rfl))
  refine Gz.iload 60 X8 hx (dd d1_58) rfl rfl ?_
  refine Gz.iload 62 X8 hx (dd d1_60) rfl rfl ?_
  refine Gz.iconst 63 (1 : Int32) X8 hx (dd d1_62) rfl rfl ?_
  refine Gz.isubV 64 (3 : Int32) X8 hx (dd d1_63) rfl rfl ?_
  refine Gz.imulV 65 (12 : Int32) X8 hx (dd d1_64) rfl rfl ?_
  refine Gz.iconst 66 (2 : Int32) X8 hx (dd d1_65) rfl rfl ?_
  refine Gz.idivV 67 (6 : Int32) X8 hx (dd d1_66) (by decide) rfl rfl ?_
  refine Gz.istore 69 #[.val (.ref a0), .val (.ref a1), .val (.long (fC4 a1 v0 v1 v2 v3)), .second, .val (.int (4 : Int32)), .val (.int (6 : Int32)), .unset, .unset, .unset, .unset] X8 hx (dd d1_67) rfl rfl ?_
  refine Gz.aloadN 70 X8 hx (dd d1_69) rfl rfl rfl ?_
  refine Gz.iload 72 X8 hx (dd d1_70) rfl rfl ?_
  obtain ⟨T9, h9, k9, X9, e9, E9, A9, Q9, st9⟩ := newPE X8 hx hZ (ww hw 0 rfl) e8 (g := (mkF m 72 #[.val (.ref a0), .val (.ref a1), .val (.long (fC4 a1 v0 v1 v2 v3)), .second, .val (.int (4 : Int32)), .val (.int (6 : Int32)), .unset, .unset, .unset, .unset] [(.int (6 : Int32)), (.ref a0)])) rfl (dd d1_72) rfl (by decide) (cap := 6) (by decide) (by decide) (by decide) (by decide) (ad := "[I") rfl
  obtain ⟨b9, g9⟩ : ∃ z, z = h8.size := ⟨_, rfl⟩
  rw [← g9] at A9 Q9 st9
  have ne_a0_b9 : a0 ≠ b9 := Nat.ne_of_lt (Nat.lt_of_lt_of_le (f8_E_a0).lt (Nat.le_of_eq g9.symm))
  have ne_a1_b9 : a1 ≠ b9 := Nat.ne_of_lt (Nat.lt_of_lt_of_le (f8_V_a1).lt (Nat.le_of_eq g9.symm))
  have ne_b4_b9 : b4 ≠ b9 := Nat.ne_of_lt (Nat.lt_of_lt_of_le (f8_Eb4).lt (Nat.le_of_eq g9.symm))
  have ne_b7_b9 : b7 ≠ b9 := Nat.ne_of_lt (Nat.lt_of_lt_of_le (f8_Eb7).lt (Nat.le_of_eq g9.symm))
  have ne_b7_0_b9 : b7_0 ≠ b9 := Nat.ne_of_lt (Nat.lt_of_lt_of_le (f8_Vb7_0).lt (Nat.le_of_eq g9.symm))
  have ne_b7_1_b9 : b7_1 ≠ b9 := Nat.ne_of_lt (Nat.lt_of_lt_of_le (f8_Vb7_1).lt (Nat.le_of_eq g9.symm))
  have ne_b7_2_b9 : b7_2 ≠ b9 := Nat.ne_of_lt (Nat.lt_of_lt_of_le (f8_Vb7_2).lt (Nat.le_of_eq g9.symm))
  have ne_b7_3_b9 : b7_3 ≠ b9 := Nat.ne_of_lt (Nat.lt_of_lt_of_le (f8_Vb7_3).lt (Nat.le_of_eq g9.symm))
  have g_b9 : n0 ≤ b9 := Nat.le_trans SZ8 (Nat.le_of_eq g9.symm)
  have SZ9 : n0 ≤ h9.size := Nat.le_trans SZ8 E9.1
  have sz_b9 : h0.size ≤ b9 := Nat.le_trans K8.1 (Nat.le_of_eq g9.symm)
  have K9 := Keep.ext K8 E9
  have f9_E_a0 := Exa.ext E9 f8_E_a0
  have f9_F_valueCounts_a0 := Fld.ext E9 f8_F_valueCounts_a0
  have f9_F_start_a0 := Fld.ext E9 f8_F_start_a0
  have f9_F_firstOf_a0 := Fld.ext E9 f8_F_firstOf_a0
  have f9_F_secondOf_a0 := Fld.ext E9 f8_F_secondOf_a0
  have f9_F_startOf_a0 := Fld.ext E9 f8_F_startOf_a0
  have f9_F_count_a0 := Fld.ext E9 f8_F_count_a0
  have f9_V_a1 := Arv.ext f8_V_a1 E9
  have f9_E_a1 := Exa.ext E9 f8_E_a1
  have f9_Eb4 := Exa.ext E9 f8_Eb4
  have f9_Vb4 := Arv.ext f8_Vb4 E9
  have f9_Eb7 := Exa.ext E9 f8_Eb7
  have f9_Vb7 := Arv.ext f8_Vb7 E9
  have f9_Vb7_0 := Arv.ext f8_Vb7_0 E9
  have f9_Eb7_0 := Exa.ext E9 f8_Eb7_0
  have f9_Vb7_1 := Arv.ext f8_Vb7_1 E9
  have f9_Eb7_1 := Exa.ext E9 f8_Eb7_1
  have f9_Vb7_2 := Arv.ext f8_Vb7_2 E9
  have f9_Eb7_2 := Exa.ext E9 f8_Eb7_2
  have f9_Vb7_3 := Arv.ext f8_Vb7_3 E9
  have f9_Eb7_3 := Exa.ext E9 f8_Eb7_3
  have V9 : Arv Z h9 b9 k9 .int (6 : Int32) [(.int (0 : Int32)), (.int (0 : Int32)), (.int (0 : Int32)), (.int (0 : Int32)), (.int (0 : Int32)), (.int (0 : Int32))] (.int (0 : Int32)) := (Arv.new A9 (by decide)).pad (pad_rep [] (.int (0 : Int32)) 6)
  refine Gz.st st9 ?_
  refine Gz.putF 77 X9 hx hZ hown (.array .int) (dd d1_74) (host := "") (Or.inl (ww hw 29 rfl)) Via.refl e9 f9_F_firstOf_a0 f9_E_a0 (Or.inr ⟨(ww hw 30 rfl), rfl, hnm⟩) (ww hw 2 rfl) (by decide) rfl rfl rfl fun T10 h10 X10 e10 W10 => ?_
  have f10_E_a0 := Exa.wr W10 f9_E_a0
  have f10_F_valueCounts_a0 := Fld.other W10 f9_F_valueCounts_a0 (Or.inr (slot_ne (Or.inr (ww hw 24 rfl)) (Or.inr (ww hw 30 rfl)) (by decide) (t := (.array .int)) (t' := (.array .int)) (by decide) (by decide)))
  have f10_F_start_a0 := Fld.other W10 f9_F_start_a0 (Or.inr (slot_ne (Or.inr (ww hw 28 rfl)) (Or.inr (ww hw 30 rfl)) (by decide) (t := (.array (.array .int))) (t' := (.array .int)) (by decide) (by decide)))
  have f10_F_secondOf_a0 := Fld.other W10 f9_F_secondOf_a0 (Or.inr (slot_ne (Or.inr (ww hw 32 rfl)) (Or.inr (ww hw 30 rfl)) (by decide) (t := (.array .int)) (t' := (.array .int)) (by decide) (by decide)))
  have f10_F_startOf_a0 := Fld.other W10 f9_F_startOf_a0 (Or.inr (slot_ne (Or.inr (ww hw 34 rfl)) (Or.inr (ww hw 30 rfl)) (by decide) (t := (.array .int)) (t' := (.array .int)) (by decide) (by decide)))
  have f10_F_count_a0 := Fld.other W10 f9_F_count_a0 (Or.inr (slot_ne (Or.inr (ww hw 36 rfl)) (Or.inr (ww hw 30 rfl)) (by decide) (t := .int) (t' := (.array .int)) (by decide) (by decide)))
  have f10_V_a1 := Arv.other f9_V_a1 W10 ne_a1_a0
  have f10_E_a1 := Exa.wr W10 f9_E_a1
  have f10_Eb4 := Exa.wr W10 f9_Eb4
  have f10_Vb4 := Arv.other f9_Vb4 W10 (Ne.symm ne_a0_b4)
  have f10_Eb7 := Exa.wr W10 f9_Eb7
  have f10_Vb7 := Arv.other f9_Vb7 W10 (Ne.symm ne_a0_b7)
  have f10_Vb7_0 := Arv.other f9_Vb7_0 W10 (Ne.symm ne_a0_b7_0)
  have f10_Eb7_0 := Exa.wr W10 f9_Eb7_0
  have f10_Vb7_1 := Arv.other f9_Vb7_1 W10 (Ne.symm ne_a0_b7_1)
  have f10_Eb7_1 := Exa.wr W10 f9_Eb7_1
  have f10_Vb7_2 := Arv.other f9_Vb7_2 W10 (Ne.symm ne_a0_b7_2)
  have f10_Eb7_2 := Exa.wr W10 f9_Eb7_2
  have f10_Vb7_3 := Arv.other f9_Vb7_3 W10 (Ne.symm ne_a0_b7_3)
  have f10_Eb7_3 := Exa.wr W10 f9_Eb7_3
  have f10_Eb9 := Exa.wr W10 Q9
  have f10_Vb9 := Arv.other V9 W10 (Ne.symm ne_a0_b9)
  have f10_F_firstOf_a0 := Fld.same W10 f9_F_firstOf_a0
  have N10 := Fr.snoc X10 N8 g_a0
  have SZ10 : n0 ≤ h10.size := Nat.le_trans SZ9 (Keep.of_wr W10).1
  have K10 := Keep.wr K9 W10 (Or.inl (List.mem_of_getElem? (i := 0) rfl))
  refine Gz.aloadN 78 X10 hx (dd d1_77) rfl rfl rfl ?_
  refine Gz.iload 80 X10 hx (dd d1_78) rfl rfl ?_
  obtain ⟨T11, h11, k11, X11, e11, E11, A11, Q11, st11⟩ := newPE X10 hx hZ (ww hw 0 rfl) e10 (g := (mkF m 80 #[.val (.ref a0), .val (.ref a1), .val (.long (fC4 a1 v0 v1 v2 v3)), .second, .val (.int (4 : Int32)), .val (.int (6 : Int32)), .unset, .unset, .unset, .unset] [(.int (6 : Int32)), (.ref a0)])) rfl (dd d1_80) rfl (by decide) (cap := 6) (by decide) (by decide) (by decide) (by decide) (ad := "[I") rfl
  obtain ⟨b11, g11⟩ : ∃ z, z = h10.size := ⟨_, rfl⟩
  rw [← g11] at A11 Q11 st11
  have ne_a0_b11 : a0 ≠ b11 := Nat.ne_of_lt (Nat.lt_of_lt_of_le (f10_E_a0).lt (Nat.le_of_eq g11.symm))
  have ne_a1_b11 : a1 ≠ b11 := Nat.ne_of_lt (Nat.lt_of_lt_of_le (f10_V_a1).lt (Nat.le_of_eq g11.symm))
  have ne_b4_b11 : b4 ≠ b11 := Nat.ne_of_lt (Nat.lt_of_lt_of_le (f10_Eb4).lt (Nat.le_of_eq g11.symm))
  have ne_b7_b11 : b7 ≠ b11 := Nat.ne_of_lt (Nat.lt_of_lt_of_le (f10_Eb7).lt (Nat.le_of_eq g11.symm))
  have ne_b7_0_b11 : b7_0 ≠ b11 := Nat.ne_of_lt (Nat.lt_of_lt_of_le (f10_Vb7_0).lt (Nat.le_of_eq g11.symm))
  have ne_b7_1_b11 : b7_1 ≠ b11 := Nat.ne_of_lt (Nat.lt_of_lt_of_le (f10_Vb7_1).lt (Nat.le_of_eq g11.symm))
  have ne_b7_2_b11 : b7_2 ≠ b11 := Nat.ne_of_lt (Nat.lt_of_lt_of_le (f10_Vb7_2).lt (Nat.le_of_eq g11.symm))
  have ne_b7_3_b11 : b7_3 ≠ b11 := Nat.ne_of_lt (Nat.lt_of_lt_of_le (f10_Vb7_3).lt (Nat.le_of_eq g11.symm))
  have ne_b9_b11 : b9 ≠ b11 := Nat.ne_of_lt (Nat.lt_of_lt_of_le (f10_Eb9).lt (Nat.le_of_eq g11.symm))
  have g_b11 : n0 ≤ b11 := Nat.le_trans SZ10 (Nat.le_of_eq g11.symm)
  have SZ11 : n0 ≤ h11.size := Nat.le_trans SZ10 E11.1
  have sz_b11 : h0.size ≤ b11 := Nat.le_trans K10.1 (Nat.le_of_eq g11.symm)
  have K11 := Keep.ext K10 E11
  have f11_E_a0 := Exa.ext E11 f10_E_a0
  have f11_F_valueCounts_a0 := Fld.ext E11 f10_F_valueCounts_a0
  have f11_F_start_a0 := Fld.ext E11 f10_F_start_a0
  have f11_F_firstOf_a0 := Fld.ext E11 f10_F_firstOf_a0
  have f11_F_secondOf_a0 := Fld.ext E11 f10_F_secondOf_a0
  have f11_F_startOf_a0 := Fld.ext E11 f10_F_startOf_a0
  have f11_F_count_a0 := Fld.ext E11 f10_F_count_a0
  have f11_V_a1 := Arv.ext f10_V_a1 E11
  have f11_E_a1 := Exa.ext E11 f10_E_a1
  have f11_Eb4 := Exa.ext E11 f10_Eb4
  have f11_Vb4 := Arv.ext f10_Vb4 E11
  have f11_Eb7 := Exa.ext E11 f10_Eb7
  have f11_Vb7 := Arv.ext f10_Vb7 E11
  have f11_Vb7_0 := Arv.ext f10_Vb7_0 E11
  have f11_Eb7_0 := Exa.ext E11 f10_Eb7_0
  have f11_Vb7_1 := Arv.ext f10_Vb7_1 E11
  have f11_Eb7_1 := Exa.ext E11 f10_Eb7_1
  have f11_Vb7_2 := Arv.ext f10_Vb7_2 E11
  have f11_Eb7_2 := Exa.ext E11 f10_Eb7_2
  have f11_Vb7_3 := Arv.ext f10_Vb7_3 E11
  have f11_Eb7_3 := Exa.ext E11 f10_Eb7_3
  have f11_Eb9 := Exa.ext E11 f10_Eb9
  have f11_Vb9 := Arv.ext f10_Vb9 E11
  have V11 : Arv Z h11 b11 k11 .int (6 : Int32) [(.int (0 : Int32)), (.int (0 : Int32)), (.int (0 : Int32)), (.int (0 : Int32)), (.int (0 : Int32)), (.int (0 : Int32))] (.int (0 : Int32)) := (Arv.new A11 (by decide)).pad (pad_rep [] (.int (0 : Int32)) 6)
  refine Gz.st st11 ?_
  refine Gz.putF 85 X11 hx hZ hown (.array .int) (dd d1_82) (host := "") (Or.inl (ww hw 31 rfl)) Via.refl e11 f11_F_secondOf_a0 f11_E_a0 (Or.inr ⟨(ww hw 32 rfl), rfl, hnm⟩) (ww hw 2 rfl) (by decide) rfl rfl rfl fun T12 h12 X12 e12 W12 => ?_
  have f12_E_a0 := Exa.wr W12 f11_E_a0
  have f12_F_valueCounts_a0 := Fld.other W12 f11_F_valueCounts_a0 (Or.inr (slot_ne (Or.inr (ww hw 24 rfl)) (Or.inr (ww hw 32 rfl)) (by decide) (t := (.array .int)) (t' := (.array .int)) (by decide) (by decide)))
  have f12_F_start_a0 := Fld.other W12 f11_F_start_a0 (Or.inr (slot_ne (Or.inr (ww hw 28 rfl)) (Or.inr (ww hw 32 rfl)) (by decide) (t := (.array (.array .int))) (t' := (.array .int)) (by decide) (by decide)))
  have f12_F_firstOf_a0 := Fld.other W12 f11_F_firstOf_a0 (Or.inr (slot_ne (Or.inr (ww hw 30 rfl)) (Or.inr (ww hw 32 rfl)) (by decide) (t := (.array .int)) (t' := (.array .int)) (by decide) (by decide)))
  have f12_F_startOf_a0 := Fld.other W12 f11_F_startOf_a0 (Or.inr (slot_ne (Or.inr (ww hw 34 rfl)) (Or.inr (ww hw 32 rfl)) (by decide) (t := (.array .int)) (t' := (.array .int)) (by decide) (by decide)))
  have f12_F_count_a0 := Fld.other W12 f11_F_count_a0 (Or.inr (slot_ne (Or.inr (ww hw 36 rfl)) (Or.inr (ww hw 32 rfl)) (by decide) (t := .int) (t' := (.array .int)) (by decide) (by decide)))
  have f12_V_a1 := Arv.other f11_V_a1 W12 ne_a1_a0
  have f12_E_a1 := Exa.wr W12 f11_E_a1
  have f12_Eb4 := Exa.wr W12 f11_Eb4
  have f12_Vb4 := Arv.other f11_Vb4 W12 (Ne.symm ne_a0_b4)
  have f12_Eb7 := Exa.wr W12 f11_Eb7
  have f12_Vb7 := Arv.other f11_Vb7 W12 (Ne.symm ne_a0_b7)
  have f12_Vb7_0 := Arv.other f11_Vb7_0 W12 (Ne.symm ne_a0_b7_0)
  have f12_Eb7_0 := Exa.wr W12 f11_Eb7_0
  have f12_Vb7_1 := Arv.other f11_Vb7_1 W12 (Ne.symm ne_a0_b7_1)
  have f12_Eb7_1 := Exa.wr W12 f11_Eb7_1
  have f12_Vb7_2 := Arv.other f11_Vb7_2 W12 (Ne.symm ne_a0_b7_2)
  have f12_Eb7_2 := Exa.wr W12 f11_Eb7_2
  have f12_Vb7_3 := Arv.other f11_Vb7_3 W12 (Ne.symm ne_a0_b7_3)
  have f12_Eb7_3 := Exa.wr W12 f11_Eb7_3
  have f12_Eb9 := Exa.wr W12 f11_Eb9
  have f12_Vb9 := Arv.other f11_Vb9 W12 (Ne.symm ne_a0_b9)
  have f12_Eb11 := Exa.wr W12 Q11
  have f12_Vb11 := Arv.other V11 W12 (Ne.symm ne_a0_b11)
  have f12_F_secondOf_a0 := Fld.same W12 f11_F_secondOf_a0
  have N12 := Fr.snoc X12 N10 g_a0
  have SZ12 : n0 ≤ h12.size := Nat.le_trans SZ11 (Keep.of_wr W12).1
  have K12 := Keep.wr K11 W12 (Or.inl (List.mem_of_getElem? (i := 0) rfl))
  refine Gz.aloadN 86 X12 hx (dd d1_85) rfl rfl rfl ?_
  refine Gz.iload 88 X12 hx (dd d1_86) rfl rfl ?_
  obtain ⟨T13, h13, k13, X13, e13, E13, A13, Q13, st13⟩ := newPE X12 hx hZ (ww hw 0 rfl) e12 (g := (mkF m 88 #[.val (.ref a0), .val (.ref a1), .val (.long (fC4 a1 v0 v1 v2 v3)), .second, .val (.int (4 : Int32)), .val (.int (6 : Int32)), .unset, .unset, .unset, .unset] [(.int (6 : Int32)), (.ref a0)])) rfl (dd d1_88) rfl (by decide) (cap := 6) (by decide) (by decide) (by decide) (by decide) (ad := "[I") rfl
  obtain ⟨b13, g13⟩ : ∃ z, z = h12.size := ⟨_, rfl⟩
  rw [← g13] at A13 Q13 st13
  have ne_a0_b13 : a0 ≠ b13 := Nat.ne_of_lt (Nat.lt_of_lt_of_le (f12_E_a0).lt (Nat.le_of_eq g13.symm))
  have ne_a1_b13 : a1 ≠ b13 := Nat.ne_of_lt (Nat.lt_of_lt_of_le (f12_V_a1).lt (Nat.le_of_eq g13.symm))
  have ne_b4_b13 : b4 ≠ b13 := Nat.ne_of_lt (Nat.lt_of_lt_of_le (f12_Eb4).lt (Nat.le_of_eq g13.symm))
  have ne_b7_b13 : b7 ≠ b13 := Nat.ne_of_lt (Nat.lt_of_lt_of_le (f12_Eb7).lt (Nat.le_of_eq g13.symm))
  have ne_b7_0_b13 : b7_0 ≠ b13 := Nat.ne_of_lt (Nat.lt_of_lt_of_le (f12_Vb7_0).lt (Nat.le_of_eq g13.symm))
  have ne_b7_1_b13 : b7_1 ≠ b13 := Nat.ne_of_lt (Nat.lt_of_lt_of_le (f12_Vb7_1).lt (Nat.le_of_eq g13.symm))
  have ne_b7_2_b13 : b7_2 ≠ b13 := Nat.ne_of_lt (Nat.lt_of_lt_of_le (f12_Vb7_2).lt (Nat.le_of_eq g13.symm))
  have ne_b7_3_b13 : b7_3 ≠ b13 := Nat.ne_of_lt (Nat.lt_of_lt_of_le (f12_Vb7_3).lt (Nat.le_of_eq g13.symm))
  have ne_b9_b13 : b9 ≠ b13 := Nat.ne_of_lt (Nat.lt_of_lt_of_le (f12_Eb9).lt (Nat.le_of_eq g13.symm))
  have ne_b11_b13 : b11 ≠ b13 := Nat.ne_of_lt (Nat.lt_of_lt_of_le (f12_Eb11).lt (Nat.le_of_eq g13.symm))
  have g_b13 : n0 ≤ b13 := Nat.le_trans SZ12 (Nat.le_of_eq g13.symm)
  have SZ13 : n0 ≤ h13.size := Nat.le_trans SZ12 E13.1
  have sz_b13 : h0.size ≤ b13 := Nat.le_trans K12.1 (Nat.le_of_eq g13.symm)
  have K13 := Keep.ext K12 E13
  have f13_E_a0 := Exa.ext E13 f12_E_a0
  have f13_F_valueCounts_a0 := Fld.ext E13 f12_F_valueCounts_a0
  have f13_F_start_a0 := Fld.ext E13 f12_F_start_a0
  have f13_F_firstOf_a0 := Fld.ext E13 f12_F_firstOf_a0
  have f13_F_secondOf_a0 := Fld.ext E13 f12_F_secondOf_a0
  have f13_F_startOf_a0 := Fld.ext E13 f12_F_startOf_a0
  have f13_F_count_a0 := Fld.ext E13 f12_F_count_a0
  have f13_V_a1 := Arv.ext f12_V_a1 E13
  have f13_E_a1 := Exa.ext E13 f12_E_a1
  have f13_Eb4 := Exa.ext E13 f12_Eb4
  have f13_Vb4 := Arv.ext f12_Vb4 E13
  have f13_Eb7 := Exa.ext E13 f12_Eb7
  have f13_Vb7 := Arv.ext f12_Vb7 E13
  have f13_Vb7_0 := Arv.ext f12_Vb7_0 E13
  have f13_Eb7_0 := Exa.ext E13 f12_Eb7_0
  have f13_Vb7_1 := Arv.ext f12_Vb7_1 E13
  have f13_Eb7_1 := Exa.ext E13 f12_Eb7_1
  have f13_Vb7_2 := Arv.ext f12_Vb7_2 E13
  have f13_Eb7_2 := Exa.ext E13 f12_Eb7_2
  have f13_Vb7_3 := Arv.ext f12_Vb7_3 E13
  have f13_Eb7_3 := Exa.ext E13 f12_Eb7_3
  have f13_Eb9 := Exa.ext E13 f12_Eb9
  have f13_Vb9 := Arv.ext f12_Vb9 E13
  have f13_Eb11 := Exa.ext E13 f12_Eb11
  have f13_Vb11 := Arv.ext f12_Vb11 E13
  have V13 : Arv Z h13 b13 k13 .int (6 : Int32) [(.int (0 : Int32)), (.int (0 : Int32)), (.int (0 : Int32)), (.int (0 : Int32)), (.int (0 : Int32)), (.int (0 : Int32))] (.int (0 : Int32)) := (Arv.new A13 (by decide)).pad (pad_rep [] (.int (0 : Int32)) 6)
  refine Gz.st st13 ?_
  refine Gz.putF 93 X13 hx hZ hown (.array .int) (dd d1_90) (host := "") (Or.inl (ww hw 33 rfl)) Via.refl e13 f13_F_startOf_a0 f13_E_a0 (Or.inr ⟨(ww hw 34 rfl), rfl, hnm⟩) (ww hw 2 rfl) (by decide) rfl rfl rfl fun T14 h14 X14 e14 W14 => ?_
  have f14_E_a0 := Exa.wr W14 f13_E_a0
  have f14_F_valueCounts_a0 := Fld.other W14 f13_F_valueCounts_a0 (Or.inr (slot_ne (Or.inr (ww hw 24 rfl)) (Or.inr (ww hw 34 rfl)) (by decide) (t := (.array .int)) (t' := (.array .int)) (by decide) (by decide)))
  have f14_F_start_a0 := Fld.other W14 f13_F_start_a0 (Or.inr (slot_ne (Or.inr (ww hw 28 rfl)) (Or.inr (ww hw 34 rfl)) (by decide) (t := (.array (.array .int))) (t' := (.array .int)) (by decide) (by decide)))
  have f14_F_firstOf_a0 := Fld.other W14 f13_F_firstOf_a0 (Or.inr (slot_ne (Or.inr (ww hw 30 rfl)) (Or.inr (ww hw 34 rfl)) (by decide) (t := (.array .int)) (t' := (.array .int)) (by decide) (by decide)))
  have f14_F_secondOf_a0 := Fld.other W14 f13_F_secondOf_a0 (Or.inr (slot_ne (Or.inr (ww hw 32 rfl)) (Or.inr (ww hw 34 rfl)) (by decide) (t := (.array .int)) (t' := (.array .int)) (by decide) (by decide)))
  have f14_F_count_a0 := Fld.other W14 f13_F_count_a0 (Or.inr (slot_ne (Or.inr (ww hw 36 rfl)) (Or.inr (ww hw 34 rfl)) (by decide) (t := .int) (t' := (.array .int)) (by decide) (by decide)))
  have f14_V_a1 := Arv.other f13_V_a1 W14 ne_a1_a0
  have f14_E_a1 := Exa.wr W14 f13_E_a1
  have f14_Eb4 := Exa.wr W14 f13_Eb4
  have f14_Vb4 := Arv.other f13_Vb4 W14 (Ne.symm ne_a0_b4)
  have f14_Eb7 := Exa.wr W14 f13_Eb7
  have f14_Vb7 := Arv.other f13_Vb7 W14 (Ne.symm ne_a0_b7)
  have f14_Vb7_0 := Arv.other f13_Vb7_0 W14 (Ne.symm ne_a0_b7_0)
  have f14_Eb7_0 := Exa.wr W14 f13_Eb7_0
  have f14_Vb7_1 := Arv.other f13_Vb7_1 W14 (Ne.symm ne_a0_b7_1)
  have f14_Eb7_1 := Exa.wr W14 f13_Eb7_1
  have f14_Vb7_2 := Arv.other f13_Vb7_2 W14 (Ne.symm ne_a0_b7_2)
  have f14_Eb7_2 := Exa.wr W14 f13_Eb7_2
  have f14_Vb7_3 := Arv.other f13_Vb7_3 W14 (Ne.symm ne_a0_b7_3)
  have f14_Eb7_3 := Exa.wr W14 f13_Eb7_3
  have f14_Eb9 := Exa.wr W14 f13_Eb9
  have f14_Vb9 := Arv.other f13_Vb9 W14 (Ne.symm ne_a0_b9)
  have f14_Eb11 := Exa.wr W14 f13_Eb11
  have f14_Vb11 := Arv.other f13_Vb11 W14 (Ne.symm ne_a0_b11)
  have f14_Eb13 := Exa.wr W14 Q13
  have f14_Vb13 := Arv.other V13 W14 (Ne.symm ne_a0_b13)
  have f14_F_startOf_a0 := Fld.same W14 f13_F_startOf_a0
  have N14 := Fr.snoc X14 N12 g_a0
  have SZ14 : n0 ≤ h14.size := Nat.le_trans SZ13 (Keep.of_wr W14).1
  have K14 := Keep.wr K13 W14 (Or.inl (List.mem_of_getElem? (i := 0) rfl))
  refine Gz.iconst 94 (0 : Int32) X14 hx (dd d1_93) rfl rfl ?_
  refine Gz.istore 96 #[.val (.ref a0), .val (.ref a1), .val (.long (fC4 a1 v0 v1 v2 v3)), .second, .val (.int (4 : Int32)), .val (.int (6 : Int32)), .val (.int (0 : Int32)), .unset, .unset, .unset] X14 hx (dd d1_94) rfl rfl ?_
  refine Gz.iconst 97 (0 : Int32) X14 hx (dd d1_96) rfl rfl ?_
  refine Gz.istore 99 #[.val (.ref a0), .val (.ref a1), .val (.long (fC4 a1 v0 v1 v2 v3)), .second, .val (.int (4 : Int32)), .val (.int (6 : Int32)), .val (.int (0 : Int32)), .val (.int (0 : Int32)), .unset, .unset] X14 hx (dd d1_97) rfl rfl ?_
  refine Gz.iconst 100 (0 : Int32) X14 hx (dd d1_99) rfl rfl ?_
  refine Gz.istore 102 #[.val (.ref a0), .val (.ref a1), .val (.long (fC4 a1 v0 v1 v2 v3)), .second, .val (.int (4 : Int32)), .val (.int (6 : Int32)), .val (.int (0 : Int32)), .val (.int (0 : Int32)), .val (.int (0 : Int32)), .unset] X14 hx (dd d1_100) rfl rfl ?_
  refine Gz.iload 104 X14 hx (dd d1_102) rfl rfl ?_
  refine Gz.iload 106 X14 hx (dd d1_104) rfl rfl ?_
  refine Gz.icmpNo 109 X14 hx (dd d1_106) (tlt (by decide : (0 : Int32) < (4 : Int32))).2.1 rfl ?_
  refine Gz.iload 111 X14 hx (dd d1_109) rfl rfl ?_
  refine Gz.iconst 112 (1 : Int32) X14 hx (dd d1_111) rfl rfl ?_
  refine Gz.iaddV 113 (1 : Int32) X14 hx (dd d1_112) rfl rfl ?_
  refine Gz.istore 115 #[.val (.ref a0), .val (.ref a1), .val (.long (fC4 a1 v0 v1 v2 v3)), .second, .val (.int (4 : Int32)), .val (.int (6 : Int32)), .val (.int (0 : Int32)), .val (.int (0 : Int32)), .val (.int (0 : Int32)), .val (.int (1 : Int32))] X14 hx (dd d1_113) rfl rfl ?_
  refine Gz.iload 117 X14 hx (dd d1_115) rfl rfl ?_
  refine Gz.iload 119 X14 hx (dd d1_117) rfl rfl ?_
  refine Gz.icmpNo 122 X14 hx (dd d1_119) (tlt (by decide : (1 : Int32) < (4 : Int32))).2.1 rfl ?_
  refine Gz.aloadN 123 X14 hx (dd d1_122) rfl rfl rfl ?_
  refine Gz.getF 126 X14 hx hZ hown (dd d1_123) (host := "") (Or.inl (ww hw 27 rfl)) Via.refl e14 f14_F_start_a0 rfl fun T15 X15 e15 => ?_
  refine Gz.iload 128 X15 hx (dd d1_126) rfl rfl ?_
  obtain ⟨c16, A16, q16, S16, N16, H16, G16⟩ := id f14_Vb7
  have hin16 : ¬ ((0 : Int32) < 0 ∨ c16.slots.size ≤ ((0 : Int32)).toNatClampNeg) := inb_of S16 ⟨by decide, by decide⟩
  refine Gz.ldA 129 X15 hx hZ rfl (dd d1_128) e15 A16 hin16 (Has.at H16 hin16 (rfl : _ = ((.ref b7_0) : Value))) rfl ?_
  refine Gz.iload 131 X15 hx (dd d1_129) rfl rfl ?_
  refine Gz.iload 133 X15 hx (dd d1_131) rfl rfl ?_
  obtain ⟨c17, A17, q17, S17, N17, H17, G17⟩ := id f14_Vb7_0
  have hin17 : ¬ ((1 : Int32) < 0 ∨ c17.slots.size ≤ ((1 : Int32)).toNatClampNeg) := inb_of S17 ⟨by decide, by decide⟩
  refine Gz.stI 134 X15 hx hZ (dd d1_133) e15 A17 hin17 rfl fun T18 h18 X18 e18 W18 => ?_
  have V18 := Arv.set A17 q17 S17 N17 H17 G17 rfl W18 1 rfl (Nat.le_of_ble_eq_true rfl)
  replace V18 : Arv Z h18 b7_0 kr7 .int (4 : Int32) [(.int (0 : Int32)), (.int (0 : Int32)), (.int (0 : Int32)), (.int (0 : Int32))] (.int (0 : Int32)) := V18
  have f18_E_a0 := Exa.wr W18 f14_E_a0
  have f18_F_valueCounts_a0 := Fld.other W18 f14_F_valueCounts_a0 (Or.inl ne_a0_b7_0)
  have f18_F_start_a0 := Fld.other W18 f14_F_start_a0 (Or.inl ne_a0_b7_0)
  have f18_F_firstOf_a0 := Fld.other W18 f14_F_firstOf_a0 (Or.inl ne_a0_b7_0)
  have f18_F_secondOf_a0 := Fld.other W18 f14_F_secondOf_a0 (Or.inl ne_a0_b7_0)
  have f18_F_startOf_a0 := Fld.other W18 f14_F_startOf_a0 (Or.inl ne_a0_b7_0)
  have f18_F_count_a0 := Fld.other W18 f14_F_count_a0 (Or.inl ne_a0_b7_0)
  have f18_V_a1 := Arv.other f14_V_a1 W18 ne_a1_b7_0
  have f18_E_a1 := Exa.wr W18 f14_E_a1
  have f18_Eb4 := Exa.wr W18 f14_Eb4
  have f18_Vb4 := Arv.other f14_Vb4 W18 ne_b4_b7_0
  have f18_Eb7 := Exa.wr W18 f14_Eb7
  have f18_Vb7 := Arv.other f14_Vb7 W18 ne_b7_b7_0
  have f18_Eb7_0 := Exa.wr W18 f14_Eb7_0
  have f18_Vb7_1 := Arv.other f14_Vb7_1 W18 (Ne.symm ne_b7_0_b7_1)
  have f18_Eb7_1 := Exa.wr W18 f14_Eb7_1
  have f18_Vb7_2 := Arv.other f14_Vb7_2 W18 (Ne.symm ne_b7_0_b7_2)
  have f18_Eb7_2 := Exa.wr W18 f14_Eb7_2
  have f18_Vb7_3 := Arv.other f14_Vb7_3 W18 (Ne.symm ne_b7_0_b7_3)
  have f18_Eb7_3 := Exa.wr W18 f14_Eb7_3
  have f18_Eb9 := Exa.wr W18 f14_Eb9
  have f18_Vb9 := Arv.other f14_Vb9 W18 (Ne.symm ne_b7_0_b9)
  have f18_Eb11 := Exa.wr W18 f14_Eb11
  have f18_Vb11 := Arv.other f14_Vb11 W18 (Ne.symm ne_b7_0_b11)
  have f18_Eb13 := Exa.wr W18 f14_Eb13
  have f18_Vb13 := Arv.other f14_Vb13 W18 (Ne.symm ne_b7_0_b13)
  have N18 := Fr.snoc X18 N14 g_b7_0
  have SZ18 : n0 ≤ h18.size := Nat.le_trans SZ14 (Keep.of_wr W18).1
  have K18 := Keep.wr K14 W18 (Or.inr sz_b7_0)
  refine Gz.aloadN 135 X18 hx (dd d1_134) rfl rfl rfl ?_
  refine Gz.getF 138 X18 hx hZ hown (dd d1_135) (host := "") (Or.inl (ww hw 29 rfl)) Via.refl e18 f18_F_firstOf_a0 rfl fun T19 X19 e19 => ?_
  refine Gz.iload 140 X19 hx (dd d1_138) rfl rfl ?_
  refine Gz.iload 142 X19 hx (dd d1_140) rfl rfl ?_
  obtain ⟨c20, A20, q20, S20, N20, H20, G20⟩ := id f18_Vb9
  have hin20 : ¬ ((0 : Int32) < 0 ∨ c20.slots.size ≤ ((0 : Int32)).toNatClampNeg) := inb_of S20 ⟨by decide, by decide⟩
  refine Gz.stI 143 X19 hx hZ (dd d1_142) e19 A20 hin20 rfl fun T21 h21 X21 e21 W21 => ?_
  have V21 := Arv.set A20 q20 S20 N20 H20 G20 rfl W21 0 rfl (Nat.le_of_ble_eq_true rfl)
  replace V21 : Arv Z h21 b9 k9 .int (6 : Int32) [(.int (0 : Int32)), (.int (0 : Int32)), (.int (0 : Int32)), (.int (0 : Int32)), (.int (0 : Int32)), (.int (0 : Int32))] (.int (0 : Int32)) := V21
  have f21_E_a0 := Exa.wr W21 f18_E_a0
  have f21_F_valueCounts_a0 := Fld.other W21 f18_F_valueCounts_a0 (Or.inl ne_a0_b9)
  have f21_F_start_a0 := Fld.other W21 f18_F_start_a0 (Or.inl ne_a0_b9)
  have f21_F_firstOf_a0 := Fld.other W21 f18_F_firstOf_a0 (Or.inl ne_a0_b9)
  have f21_F_secondOf_a0 := Fld.other W21 f18_F_secondOf_a0 (Or.inl ne_a0_b9)
  have f21_F_startOf_a0 := Fld.other W21 f18_F_startOf_a0 (Or.inl ne_a0_b9)
  have f21_F_count_a0 := Fld.other W21 f18_F_count_a0 (Or.inl ne_a0_b9)
  have f21_V_a1 := Arv.other f18_V_a1 W21 ne_a1_b9
  have f21_E_a1 := Exa.wr W21 f18_E_a1
  have f21_Eb4 := Exa.wr W21 f18_Eb4
  have f21_Vb4 := Arv.other f18_Vb4 W21 ne_b4_b9
  have f21_Eb7 := Exa.wr W21 f18_Eb7
  have f21_Vb7 := Arv.other f18_Vb7 W21 ne_b7_b9
  have f21_Vb7_0 := Arv.other V18 W21 ne_b7_0_b9
  have f21_Eb7_0 := Exa.wr W21 f18_Eb7_0
  have f21_Vb7_1 := Arv.other f18_Vb7_1 W21 ne_b7_1_b9
  have f21_Eb7_1 := Exa.wr W21 f18_Eb7_1
  have f21_Vb7_2 := Arv.other f18_Vb7_2 W21 ne_b7_2_b9
  have f21_Eb7_2 := Exa.wr W21 f18_Eb7_2
  have f21_Vb7_3 := Arv.other f18_Vb7_3 W21 ne_b7_3_b9
  have f21_Eb7_3 := Exa.wr W21 f18_Eb7_3
  have f21_Eb9 := Exa.wr W21 f18_Eb9
  have f21_Eb11 := Exa.wr W21 f18_Eb11
  have f21_Vb11 := Arv.other f18_Vb11 W21 (Ne.symm ne_b9_b11)
  have f21_Eb13 := Exa.wr W21 f18_Eb13
  have f21_Vb13 := Arv.other f18_Vb13 W21 (Ne.symm ne_b9_b13)
  have N21 := Fr.snoc X21 N18 g_b9
  have SZ21 : n0 ≤ h21.size := Nat.le_trans SZ18 (Keep.of_wr W21).1
  have K21 := Keep.wr K18 W21 (Or.inr sz_b9)
  refine Gz.aloadN 144 X21 hx (dd d1_143) rfl rfl rfl ?_
  refine Gz.getF 147 X21 hx hZ hown (dd d1_144) (host := "") (Or.inl (ww hw 31 rfl)) Via.refl e21 f21_F_secondOf_a0 rfl fun T22 X22 e22 => ?_
  refine Gz.iload 149 X22 hx (dd d1_147) rfl rfl ?_
  refine Gz.iload 151 X22 hx (dd d1_149) rfl rfl ?_
  obtain ⟨c23, A23, q23, S23, N23, H23, G23⟩ := id f21_Vb11
  have hin23 : ¬ ((0 : Int32) < 0 ∨ c23.slots.size ≤ ((0 : Int32)).toNatClampNeg) := inb_of S23 ⟨by decide, by decide⟩
  refine Gz.stI 152 X22 hx hZ (dd d1_151) e22 A23 hin23 rfl fun T24 h24 X24 e24 W24 => ?_
  have V24 := Arv.set A23 q23 S23 N23 H23 G23 rfl W24 0 rfl (Nat.le_of_ble_eq_true rfl)
  replace V24 : Arv Z h24 b11 k11 .int (6 : Int32) [(.int (1 : Int32)), (.int (0 : Int32)), (.int (0 : Int32)), (.int (0 : Int32)), (.int (0 : Int32)), (.int (0 : Int32))] (.int (0 : Int32)) := V24
  have f24_E_a0 := Exa.wr W24 f21_E_a0
  have f24_F_valueCounts_a0 := Fld.other W24 f21_F_valueCounts_a0 (Or.inl ne_a0_b11)
  have f24_F_start_a0 := Fld.other W24 f21_F_start_a0 (Or.inl ne_a0_b11)
  have f24_F_firstOf_a0 := Fld.other W24 f21_F_firstOf_a0 (Or.inl ne_a0_b11)
  have f24_F_secondOf_a0 := Fld.other W24 f21_F_secondOf_a0 (Or.inl ne_a0_b11)
  have f24_F_startOf_a0 := Fld.other W24 f21_F_startOf_a0 (Or.inl ne_a0_b11)
  have f24_F_count_a0 := Fld.other W24 f21_F_count_a0 (Or.inl ne_a0_b11)
  have f24_V_a1 := Arv.other f21_V_a1 W24 ne_a1_b11
  have f24_E_a1 := Exa.wr W24 f21_E_a1
  have f24_Eb4 := Exa.wr W24 f21_Eb4
  have f24_Vb4 := Arv.other f21_Vb4 W24 ne_b4_b11
  have f24_Eb7 := Exa.wr W24 f21_Eb7
  have f24_Vb7 := Arv.other f21_Vb7 W24 ne_b7_b11
  have f24_Vb7_0 := Arv.other f21_Vb7_0 W24 ne_b7_0_b11
  have f24_Eb7_0 := Exa.wr W24 f21_Eb7_0
  have f24_Vb7_1 := Arv.other f21_Vb7_1 W24 ne_b7_1_b11
  have f24_Eb7_1 := Exa.wr W24 f21_Eb7_1
  have f24_Vb7_2 := Arv.other f21_Vb7_2 W24 ne_b7_2_b11
  have f24_Eb7_2 := Exa.wr W24 f21_Eb7_2
  have f24_Vb7_3 := Arv.other f21_Vb7_3 W24 ne_b7_3_b11
  have f24_Eb7_3 := Exa.wr W24 f21_Eb7_3
  have f24_Eb9 := Exa.wr W24 f21_Eb9
  have f24_Vb9 := Arv.other V21 W24 ne_b9_b11
  have f24_Eb11 := Exa.wr W24 f21_Eb11
  have f24_Eb13 := Exa.wr W24 f21_Eb13
  have f24_Vb13 := Arv.other f21_Vb13 W24 (Ne.symm ne_b11_b13)
  have N24 := Fr.snoc X24 N21 g_b11
  have SZ24 : n0 ≤ h24.size := Nat.le_trans SZ21 (Keep.of_wr W24).1
  have K24 := Keep.wr K21 W24 (Or.inr sz_b11)
  refine Gz.aloadN 153 X24 hx (dd d1_152) rfl rfl rfl ?_
  refine Gz.getF 156 X24 hx hZ hown (dd d1_153) (host := "") (Or.inl (ww hw 33 rfl)) Via.refl e24 f24_F_startOf_a0 rfl fun T25 X25 e25 => ?_
  refine Gz.iload 158 X25 hx (dd d1_156) rfl rfl ?_
  refine Gz.iload 160 X25 hx (dd d1_158) rfl rfl ?_
  obtain ⟨c26, A26, q26, S26, N26, H26, G26⟩ := id f24_Vb13
  have hin26 : ¬ ((0 : Int32) < 0 ∨ c26.slots.size ≤ ((0 : Int32)).toNatClampNeg) := inb_of S26 ⟨by decide, by decide⟩
  refine Gz.stI 161 X25 hx hZ (dd d1_160) e25 A26 hin26 rfl fun T27 h27 X27 e27 W27 => ?_
  have V27 := Arv.set A26 q26 S26 N26 H26 G26 rfl W27 0 rfl (Nat.le_of_ble_eq_true rfl)
  replace V27 : Arv Z h27 b13 k13 .int (6 : Int32) [(.int (0 : Int32)), (.int (0 : Int32)), (.int (0 : Int32)), (.int (0 : Int32)), (.int (0 : Int32)), (.int (0 : Int32))] (.int (0 : Int32)) := V27
  have f27_E_a0 := Exa.wr W27 f24_E_a0
  have f27_F_valueCounts_a0 := Fld.other W27 f24_F_valueCounts_a0 (Or.inl ne_a0_b13)
  have f27_F_start_a0 := Fld.other W27 f24_F_start_a0 (Or.inl ne_a0_b13)
  have f27_F_firstOf_a0 := Fld.other W27 f24_F_firstOf_a0 (Or.inl ne_a0_b13)
  have f27_F_secondOf_a0 := Fld.other W27 f24_F_secondOf_a0 (Or.inl ne_a0_b13)
  have f27_F_startOf_a0 := Fld.other W27 f24_F_startOf_a0 (Or.inl ne_a0_b13)
  have f27_F_count_a0 := Fld.other W27 f24_F_count_a0 (Or.inl ne_a0_b13)
  have f27_V_a1 := Arv.other f24_V_a1 W27 ne_a1_b13
  have f27_E_a1 := Exa.wr W27 f24_E_a1
  have f27_Eb4 := Exa.wr W27 f24_Eb4
  have f27_Vb4 := Arv.other f24_Vb4 W27 ne_b4_b13
  have f27_Eb7 := Exa.wr W27 f24_Eb7
  have f27_Vb7 := Arv.other f24_Vb7 W27 ne_b7_b13
  have f27_Vb7_0 := Arv.other f24_Vb7_0 W27 ne_b7_0_b13
  have f27_Eb7_0 := Exa.wr W27 f24_Eb7_0
  have f27_Vb7_1 := Arv.other f24_Vb7_1 W27 ne_b7_1_b13
  have f27_Eb7_1 := Exa.wr W27 f24_Eb7_1
  have f27_Vb7_2 := Arv.other f24_Vb7_2 W27 ne_b7_2_b13
  have f27_Eb7_2 := Exa.wr W27 f24_Eb7_2
  have f27_Vb7_3 := Arv.other f24_Vb7_3 W27 ne_b7_3_b13
  have f27_Eb7_3 := Exa.wr W27 f24_Eb7_3
  have f27_Eb9 := Exa.wr W27 f24_Eb9
  have f27_Vb9 := Arv.other f24_Vb9 W27 ne_b9_b13
  have f27_Eb11 := Exa.wr W27 f24_Eb11
  have f27_Vb11 := Arv.other V24 W27 ne_b11_b13
  have f27_Eb13 := Exa.wr W27 f24_Eb13
  have N27 := Fr.snoc X27 N24 g_b13
  have SZ27 : n0 ≤ h27.size := Nat.le_trans SZ24 (Keep.of_wr W27).1
  have K27 := Keep.wr K24 W27 (Or.inr sz_b13)
  refine Gz.iinc 164 #[.val (.ref a0), .val (.ref a1), .val (.long (fC4 a1 v0 v1 v2 v3)), .second, .val (.int (4 : Int32)), .val (.int (6 : Int32)), .val (.int (0 : Int32)), .val (.int (1 : Int32)), .val (.int (0 : Int32)), .val (.int (1 : Int32))] X27 hx (dd d1_161) rfl rfl rfl ?_
  refine Gz.iload 166 X27 hx (dd d1_164) rfl rfl ?_
  refine Gz.aloadN 167 X27 hx (dd d1_166) rfl rfl rfl ?_
  refine Gz.iload 169 X27 hx (dd d1_167) rfl rfl ?_
  obtain ⟨c28, A28, q28, S28, N28, H28, G28⟩ := id f27_V_a1
  have hin28 : ¬ ((0 : Int32) < 0 ∨ c28.slots.size ≤ ((0 : Int32)).toNatClampNeg) := inb_of S28 ⟨by decide, by decide⟩
  refine Gz.ldI 170 X27 hx hZ (dd d1_169) e27 A28 hin28 (Has.at H28 hin28 (rfl : _ = ((.int v0) : Value))) rfl ?_
  refine Gz.aloadN 171 X27 hx (dd d1_170) rfl rfl rfl ?_
  refine Gz.iload 173 X27 hx (dd d1_171) rfl rfl ?_
  obtain ⟨c29, A29, q29, S29, N29, H29, G29⟩ := id f27_V_a1
  have hin29 : ¬ ((1 : Int32) < 0 ∨ c29.slots.size ≤ ((1 : Int32)).toNatClampNeg) := inb_of S29 ⟨by decide, by decide⟩
  refine Gz.ldI 174 X27 hx hZ (dd d1_173) e27 A29 hin29 (Has.at H29 hin29 (rfl : _ = ((.int v1) : Value))) rfl ?_
  refine Gz.imul 175 X27 hx (dd d1_174) rfl ?_
  refine Gz.iadd 176 X27 hx (dd d1_175) rfl ?_
  refine Gz.istore 178 #[.val (.ref a0), .val (.ref a1), .val (.long (fC4 a1 v0 v1 v2 v3)), .second, .val (.int (4 : Int32)), .val (.int (6 : Int32)), .val (.int ((0 : Int32) + (v0 * v1))), .val (.int (1 : Int32)), .val (.int (0 : Int32)), .val (.int (1 : Int32))] X27 hx (dd d1_176) rfl rfl ?_
  refine Gz.iinc 181 #[.val (.ref a0), .val (.ref a1), .val (.long (fC4 a1 v0 v1 v2 v3)), .second, .val (.int (4 : Int32)), .val (.int (6 : Int32)), .val (.int ((0 : Int32) + (v0 * v1))), .val (.int (1 : Int32)), .val (.int (0 : Int32)), .val (.int (2 : Int32))] X27 hx (dd d1_178) rfl rfl rfl ?_
  refine Gz.goto 115 X27 hx (dd d1_181) (by decide) (by decide) ?_
  refine Gz.iload 117 X27 hx (dd d1_115) rfl rfl ?_
  refine Gz.iload 119 X27 hx (dd d1_117) rfl rfl ?_
  refine Gz.icmpNo 122 X27 hx (dd d1_119) (tlt (by decide : (2 : Int32) < (4 : Int32))).2.1 rfl ?_
  refine Gz.aloadN 123 X27 hx (dd d1_122) rfl rfl rfl ?_
  refine Gz.getF 126 X27 hx hZ hown (dd d1_123) (host := "") (Or.inl (ww hw 27 rfl)) Via.refl e27 f27_F_start_a0 rfl fun T30 X30 e30 => ?_
  refine Gz.iload 128 X30 hx (dd d1_126) rfl rfl ?_
  obtain ⟨c31, A31, q31, S31, N31, H31, G31⟩ := id f27_Vb7
  have hin31 : ¬ ((0 : Int32) < 0 ∨ c31.slots.size ≤ ((0 : Int32)).toNatClampNeg) := inb_of S31 ⟨by decide, by decide⟩
  refine Gz.ldA 129 X30 hx hZ rfl (dd d1_128) e30 A31 hin31 (Has.at H31 hin31 (rfl : _ = ((.ref b7_0) : Value))) rfl ?_
  refine Gz.iload 131 X30 hx (dd d1_129) rfl rfl ?_
  refine Gz.iload 133 X30 hx (dd d1_131) rfl rfl ?_
  obtain ⟨c32, A32, q32, S32, N32, H32, G32⟩ := id f27_Vb7_0
  have hin32 : ¬ ((2 : Int32) < 0 ∨ c32.slots.size ≤ ((2 : Int32)).toNatClampNeg) := inb_of S32 ⟨by decide, by decide⟩
  refine Gz.stI 134 X30 hx hZ (dd d1_133) e30 A32 hin32 rfl fun T33 h33 X33 e33 W33 => ?_
  have V33 := Arv.set A32 q32 S32 N32 H32 G32 rfl W33 2 rfl (Nat.le_of_ble_eq_true rfl)
  replace V33 : Arv Z h33 b7_0 kr7 .int (4 : Int32) [(.int (0 : Int32)), (.int (0 : Int32)), (.int ((0 : Int32) + (v0 * v1))), (.int (0 : Int32))] (.int (0 : Int32)) := V33
  have f33_E_a0 := Exa.wr W33 f27_E_a0
  have f33_F_valueCounts_a0 := Fld.other W33 f27_F_valueCounts_a0 (Or.inl ne_a0_b7_0)
  have f33_F_start_a0 := Fld.other W33 f27_F_start_a0 (Or.inl ne_a0_b7_0)
  have f33_F_firstOf_a0 := Fld.other W33 f27_F_firstOf_a0 (Or.inl ne_a0_b7_0)
  have f33_F_secondOf_a0 := Fld.other W33 f27_F_secondOf_a0 (Or.inl ne_a0_b7_0)
  have f33_F_startOf_a0 := Fld.other W33 f27_F_startOf_a0 (Or.inl ne_a0_b7_0)
  have f33_F_count_a0 := Fld.other W33 f27_F_count_a0 (Or.inl ne_a0_b7_0)
  have f33_V_a1 := Arv.other f27_V_a1 W33 ne_a1_b7_0
  have f33_E_a1 := Exa.wr W33 f27_E_a1
  have f33_Eb4 := Exa.wr W33 f27_Eb4
  have f33_Vb4 := Arv.other f27_Vb4 W33 ne_b4_b7_0
  have f33_Eb7 := Exa.wr W33 f27_Eb7
  have f33_Vb7 := Arv.other f27_Vb7 W33 ne_b7_b7_0
  have f33_Eb7_0 := Exa.wr W33 f27_Eb7_0
  have f33_Vb7_1 := Arv.other f27_Vb7_1 W33 (Ne.symm ne_b7_0_b7_1)
  have f33_Eb7_1 := Exa.wr W33 f27_Eb7_1
  have f33_Vb7_2 := Arv.other f27_Vb7_2 W33 (Ne.symm ne_b7_0_b7_2)
  have f33_Eb7_2 := Exa.wr W33 f27_Eb7_2
  have f33_Vb7_3 := Arv.other f27_Vb7_3 W33 (Ne.symm ne_b7_0_b7_3)
  have f33_Eb7_3 := Exa.wr W33 f27_Eb7_3
  have f33_Eb9 := Exa.wr W33 f27_Eb9
  have f33_Vb9 := Arv.other f27_Vb9 W33 (Ne.symm ne_b7_0_b9)
  have f33_Eb11 := Exa.wr W33 f27_Eb11
  have f33_Vb11 := Arv.other f27_Vb11 W33 (Ne.symm ne_b7_0_b11)
  have f33_Eb13 := Exa.wr W33 f27_Eb13
  have f33_Vb13 := Arv.other V27 W33 (Ne.symm ne_b7_0_b13)
  have N33 := Fr.snoc X33 N27 g_b7_0
  have SZ33 : n0 ≤ h33.size := Nat.le_trans SZ27 (Keep.of_wr W33).1
  have K33 := Keep.wr K27 W33 (Or.inr sz_b7_0)
  refine Gz.aloadN 135 X33 hx (dd d1_134) rfl rfl rfl ?_
  refine Gz.getF 138 X33 hx hZ hown (dd d1_135) (host := "") (Or.inl (ww hw 29 rfl)) Via.refl e33 f33_F_firstOf_a0 rfl fun T34 X34 e34 => ?_
  refine Gz.iload 140 X34 hx (dd d1_138) rfl rfl ?_
  refine Gz.iload 142 X34 hx (dd d1_140) rfl rfl ?_
  obtain ⟨c35, A35, q35, S35, N35, H35, G35⟩ := id f33_Vb9
  have hin35 : ¬ ((1 : Int32) < 0 ∨ c35.slots.size ≤ ((1 : Int32)).toNatClampNeg) := inb_of S35 ⟨by decide, by decide⟩
  refine Gz.stI 143 X34 hx hZ (dd d1_142) e34 A35 hin35 rfl fun T36 h36 X36 e36 W36 => ?_
  have V36 := Arv.set A35 q35 S35 N35 H35 G35 rfl W36 1 rfl (Nat.le_of_ble_eq_true rfl)
  replace V36 : Arv Z h36 b9 k9 .int (6 : Int32) [(.int (0 : Int32)), (.int (0 : Int32)), (.int (0 : Int32)), (.int (0 : Int32)), (.int (0 : Int32)), (.int (0 : Int32))] (.int (0 : Int32)) := V36
  have f36_E_a0 := Exa.wr W36 f33_E_a0
  have f36_F_valueCounts_a0 := Fld.other W36 f33_F_valueCounts_a0 (Or.inl ne_a0_b9)
  have f36_F_start_a0 := Fld.other W36 f33_F_start_a0 (Or.inl ne_a0_b9)
  have f36_F_firstOf_a0 := Fld.other W36 f33_F_firstOf_a0 (Or.inl ne_a0_b9)
  have f36_F_secondOf_a0 := Fld.other W36 f33_F_secondOf_a0 (Or.inl ne_a0_b9)
  have f36_F_startOf_a0 := Fld.other W36 f33_F_startOf_a0 (Or.inl ne_a0_b9)
  have f36_F_count_a0 := Fld.other W36 f33_F_count_a0 (Or.inl ne_a0_b9)
  have f36_V_a1 := Arv.other f33_V_a1 W36 ne_a1_b9
  have f36_E_a1 := Exa.wr W36 f33_E_a1
  have f36_Eb4 := Exa.wr W36 f33_Eb4
  have f36_Vb4 := Arv.other f33_Vb4 W36 ne_b4_b9
  have f36_Eb7 := Exa.wr W36 f33_Eb7
  have f36_Vb7 := Arv.other f33_Vb7 W36 ne_b7_b9
  have f36_Vb7_0 := Arv.other V33 W36 ne_b7_0_b9
  have f36_Eb7_0 := Exa.wr W36 f33_Eb7_0
  have f36_Vb7_1 := Arv.other f33_Vb7_1 W36 ne_b7_1_b9
  have f36_Eb7_1 := Exa.wr W36 f33_Eb7_1
  have f36_Vb7_2 := Arv.other f33_Vb7_2 W36 ne_b7_2_b9
  have f36_Eb7_2 := Exa.wr W36 f33_Eb7_2
  have f36_Vb7_3 := Arv.other f33_Vb7_3 W36 ne_b7_3_b9
  have f36_Eb7_3 := Exa.wr W36 f33_Eb7_3
  have f36_Eb9 := Exa.wr W36 f33_Eb9
  have f36_Eb11 := Exa.wr W36 f33_Eb11
  have f36_Vb11 := Arv.other f33_Vb11 W36 (Ne.symm ne_b9_b11)
  have f36_Eb13 := Exa.wr W36 f33_Eb13
  have f36_Vb13 := Arv.other f33_Vb13 W36 (Ne.symm ne_b9_b13)
  have N36 := Fr.snoc X36 N33 g_b9
  have SZ36 : n0 ≤ h36.size := Nat.le_trans SZ33 (Keep.of_wr W36).1
  have K36 := Keep.wr K33 W36 (Or.inr sz_b9)
  refine Gz.aloadN 144 X36 hx (dd d1_143) rfl rfl rfl ?_
  refine Gz.getF 147 X36 hx hZ hown (dd d1_144) (host := "") (Or.inl (ww hw 31 rfl)) Via.refl e36 f36_F_secondOf_a0 rfl fun T37 X37 e37 => ?_
  refine Gz.iload 149 X37 hx (dd d1_147) rfl rfl ?_
  refine Gz.iload 151 X37 hx (dd d1_149) rfl rfl ?_
  obtain ⟨c38, A38, q38, S38, N38, H38, G38⟩ := id f36_Vb11
  have hin38 : ¬ ((1 : Int32) < 0 ∨ c38.slots.size ≤ ((1 : Int32)).toNatClampNeg) := inb_of S38 ⟨by decide, by decide⟩
  refine Gz.stI 152 X37 hx hZ (dd d1_151) e37 A38 hin38 rfl fun T39 h39 X39 e39 W39 => ?_
  have V39 := Arv.set A38 q38 S38 N38 H38 G38 rfl W39 1 rfl (Nat.le_of_ble_eq_true rfl)
  replace V39 : Arv Z h39 b11 k11 .int (6 : Int32) [(.int (1 : Int32)), (.int (2 : Int32)), (.int (0 : Int32)), (.int (0 : Int32)), (.int (0 : Int32)), (.int (0 : Int32))] (.int (0 : Int32)) := V39
  have f39_E_a0 := Exa.wr W39 f36_E_a0
  have f39_F_valueCounts_a0 := Fld.other W39 f36_F_valueCounts_a0 (Or.inl ne_a0_b11)
  have f39_F_start_a0 := Fld.other W39 f36_F_start_a0 (Or.inl ne_a0_b11)
  have f39_F_firstOf_a0 := Fld.other W39 f36_F_firstOf_a0 (Or.inl ne_a0_b11)
  have f39_F_secondOf_a0 := Fld.other W39 f36_F_secondOf_a0 (Or.inl ne_a0_b11)
  have f39_F_startOf_a0 := Fld.other W39 f36_F_startOf_a0 (Or.inl ne_a0_b11)
  have f39_F_count_a0 := Fld.other W39 f36_F_count_a0 (Or.inl ne_a0_b11)
  have f39_V_a1 := Arv.other f36_V_a1 W39 ne_a1_b11
  have f39_E_a1 := Exa.wr W39 f36_E_a1
  have f39_Eb4 := Exa.wr W39 f36_Eb4
  have f39_Vb4 := Arv.other f36_Vb4 W39 ne_b4_b11
  have f39_Eb7 := Exa.wr W39 f36_Eb7
  have f39_Vb7 := Arv.other f36_Vb7 W39 ne_b7_b11
  have f39_Vb7_0 := Arv.other f36_Vb7_0 W39 ne_b7_0_b11
  have f39_Eb7_0 := Exa.wr W39 f36_Eb7_0
  have f39_Vb7_1 := Arv.other f36_Vb7_1 W39 ne_b7_1_b11
  have f39_Eb7_1 := Exa.wr W39 f36_Eb7_1
  have f39_Vb7_2 := Arv.other f36_Vb7_2 W39 ne_b7_2_b11
  have f39_Eb7_2 := Exa.wr W39 f36_Eb7_2
  have f39_Vb7_3 := Arv.other f36_Vb7_3 W39 ne_b7_3_b11
  have f39_Eb7_3 := Exa.wr W39 f36_Eb7_3
  have f39_Eb9 := Exa.wr W39 f36_Eb9
  have f39_Vb9 := Arv.other V36 W39 ne_b9_b11
  have f39_Eb11 := Exa.wr W39 f36_Eb11
  have f39_Eb13 := Exa.wr W39 f36_Eb13
  have f39_Vb13 := Arv.other f36_Vb13 W39 (Ne.symm ne_b11_b13)
  have N39 := Fr.snoc X39 N36 g_b11
  have SZ39 : n0 ≤ h39.size := Nat.le_trans SZ36 (Keep.of_wr W39).1
  have K39 := Keep.wr K36 W39 (Or.inr sz_b11)
  refine Gz.aloadN 153 X39 hx (dd d1_152) rfl rfl rfl ?_
  refine Gz.getF 156 X39 hx hZ hown (dd d1_153) (host := "") (Or.inl (ww hw 33 rfl)) Via.refl e39 f39_F_startOf_a0 rfl fun T40 X40 e40 => ?_
  refine Gz.iload 158 X40 hx (dd d1_156) rfl rfl ?_
  refine Gz.iload 160 X40 hx (dd d1_158) rfl rfl ?_
  obtain ⟨c41, A41, q41, S41, N41, H41, G41⟩ := id f39_Vb13
  have hin41 : ¬ ((1 : Int32) < 0 ∨ c41.slots.size ≤ ((1 : Int32)).toNatClampNeg) := inb_of S41 ⟨by decide, by decide⟩
  refine Gz.stI 161 X40 hx hZ (dd d1_160) e40 A41 hin41 rfl fun T42 h42 X42 e42 W42 => ?_
  have V42 := Arv.set A41 q41 S41 N41 H41 G41 rfl W42 1 rfl (Nat.le_of_ble_eq_true rfl)
  replace V42 : Arv Z h42 b13 k13 .int (6 : Int32) [(.int (0 : Int32)), (.int ((0 : Int32) + (v0 * v1))), (.int (0 : Int32)), (.int (0 : Int32)), (.int (0 : Int32)), (.int (0 : Int32))] (.int (0 : Int32)) := V42
  have f42_E_a0 := Exa.wr W42 f39_E_a0
  have f42_F_valueCounts_a0 := Fld.other W42 f39_F_valueCounts_a0 (Or.inl ne_a0_b13)
  have f42_F_start_a0 := Fld.other W42 f39_F_start_a0 (Or.inl ne_a0_b13)
  have f42_F_firstOf_a0 := Fld.other W42 f39_F_firstOf_a0 (Or.inl ne_a0_b13)
  have f42_F_secondOf_a0 := Fld.other W42 f39_F_secondOf_a0 (Or.inl ne_a0_b13)
  have f42_F_startOf_a0 := Fld.other W42 f39_F_startOf_a0 (Or.inl ne_a0_b13)
  have f42_F_count_a0 := Fld.other W42 f39_F_count_a0 (Or.inl ne_a0_b13)
  have f42_V_a1 := Arv.other f39_V_a1 W42 ne_a1_b13
  have f42_E_a1 := Exa.wr W42 f39_E_a1
  have f42_Eb4 := Exa.wr W42 f39_Eb4
  have f42_Vb4 := Arv.other f39_Vb4 W42 ne_b4_b13
  have f42_Eb7 := Exa.wr W42 f39_Eb7
  have f42_Vb7 := Arv.other f39_Vb7 W42 ne_b7_b13
  have f42_Vb7_0 := Arv.other f39_Vb7_0 W42 ne_b7_0_b13
  have f42_Eb7_0 := Exa.wr W42 f39_Eb7_0
  have f42_Vb7_1 := Arv.other f39_Vb7_1 W42 ne_b7_1_b13
  have f42_Eb7_1 := Exa.wr W42 f39_Eb7_1
  have f42_Vb7_2 := Arv.other f39_Vb7_2 W42 ne_b7_2_b13
  have f42_Eb7_2 := Exa.wr W42 f39_Eb7_2
  have f42_Vb7_3 := Arv.other f39_Vb7_3 W42 ne_b7_3_b13
  have f42_Eb7_3 := Exa.wr W42 f39_Eb7_3
  have f42_Eb9 := Exa.wr W42 f39_Eb9
  have f42_Vb9 := Arv.other f39_Vb9 W42 ne_b9_b13
  have f42_Eb11 := Exa.wr W42 f39_Eb11
  have f42_Vb11 := Arv.other V39 W42 ne_b11_b13
  have f42_Eb13 := Exa.wr W42 f39_Eb13
  have N42 := Fr.snoc X42 N39 g_b13
  have SZ42 : n0 ≤ h42.size := Nat.le_trans SZ39 (Keep.of_wr W42).1
  have K42 := Keep.wr K39 W42 (Or.inr sz_b13)
  refine Gz.iinc 164 #[.val (.ref a0), .val (.ref a1), .val (.long (fC4 a1 v0 v1 v2 v3)), .second, .val (.int (4 : Int32)), .val (.int (6 : Int32)), .val (.int ((0 : Int32) + (v0 * v1))), .val (.int (2 : Int32)), .val (.int (0 : Int32)), .val (.int (2 : Int32))] X42 hx (dd d1_161) rfl rfl rfl ?_
  refine Gz.iload 166 X42 hx (dd d1_164) rfl rfl ?_
  refine Gz.aloadN 167 X42 hx (dd d1_166) rfl rfl rfl ?_
  refine Gz.iload 169 X42 hx (dd d1_167) rfl rfl ?_
  obtain ⟨c43, A43, q43, S43, N43, H43, G43⟩ := id f42_V_a1
  have hin43 : ¬ ((0 : Int32) < 0 ∨ c43.slots.size ≤ ((0 : Int32)).toNatClampNeg) := inb_of S43 ⟨by decide, by decide⟩
  refine Gz.ldI 170 X42 hx hZ (dd d1_169) e42 A43 hin43 (Has.at H43 hin43 (rfl : _ = ((.int v0) : Value))) rfl ?_
  refine Gz.aloadN 171 X42 hx (dd d1_170) rfl rfl rfl ?_
  refine Gz.iload 173 X42 hx (dd d1_171) rfl rfl ?_
  obtain ⟨c44, A44, q44, S44, N44, H44, G44⟩ := id f42_V_a1
  have hin44 : ¬ ((2 : Int32) < 0 ∨ c44.slots.size ≤ ((2 : Int32)).toNatClampNeg) := inb_of S44 ⟨by decide, by decide⟩
  refine Gz.ldI 174 X42 hx hZ (dd d1_173) e42 A44 hin44 (Has.at H44 hin44 (rfl : _ = ((.int v2) : Value))) rfl ?_
  refine Gz.imul 175 X42 hx (dd d1_174) rfl ?_
  refine Gz.iadd 176 X42 hx (dd d1_175) rfl ?_
  refine Gz.istore 178 #[.val (.ref a0), .val (.ref a1), .val (.long (fC4 a1 v0 v1 v2 v3)), .second, .val (.int (4 : Int32)), .val (.int (6 : Int32)), .val (.int (((0 : Int32) + (v0 * v1)) + (v0 * v2))), .val (.int (2 : Int32)), .val (.int (0 : Int32)), .val (.int (2 : Int32))] X42 hx (dd d1_176) rfl rfl ?_
  refine Gz.iinc 181 #[.val (.ref a0), .val (.ref a1), .val (.long (fC4 a1 v0 v1 v2 v3)), .second, .val (.int (4 : Int32)), .val (.int (6 : Int32)), .val (.int (((0 : Int32) + (v0 * v1)) + (v0 * v2))), .val (.int (2 : Int32)), .val (.int (0 : Int32)), .val (.int (3 : Int32))] X42 hx (dd d1_178) rfl rfl rfl ?_
  refine Gz.goto 115 X42 hx (dd d1_181) (by decide) (by decide) ?_
  refine Gz.iload 117 X42 hx (dd d1_115) rfl rfl ?_
  refine Gz.iload 119 X42 hx (dd d1_117) rfl rfl ?_
  refine Gz.icmpNo 122 X42 hx (dd d1_119) (tlt (by decide : (3 : Int32) < (4 : Int32))).2.1 rfl ?_
  refine Gz.aloadN 123 X42 hx (dd d1_122) rfl rfl rfl ?_
  refine Gz.getF 126 X42 hx hZ hown (dd d1_123) (host := "") (Or.inl (ww hw 27 rfl)) Via.refl e42 f42_F_start_a0 rfl fun T45 X45 e45 => ?_
  refine Gz.iload 128 X45 hx (dd d1_126) rfl rfl ?_
  obtain ⟨c46, A46, q46, S46, N46, H46, G46⟩ := id f42_Vb7
  have hin46 : ¬ ((0 : Int32) < 0 ∨ c46.slots.size ≤ ((0 : Int32)).toNatClampNeg) := inb_of S46 ⟨by decide, by decide⟩
  refine Gz.ldA 129 X45 hx hZ rfl (dd d1_128) e45 A46 hin46 (Has.at H46 hin46 (rfl : _ = ((.ref b7_0) : Value))) rfl ?_
  refine Gz.iload 131 X45 hx (dd d1_129) rfl rfl ?_
  refine Gz.iload 133 X45 hx (dd d1_131) rfl rfl ?_
  obtain ⟨c47, A47, q47, S47, N47, H47, G47⟩ := id f42_Vb7_0
  have hin47 : ¬ ((3 : Int32) < 0 ∨ c47.slots.size ≤ ((3 : Int32)).toNatClampNeg) := inb_of S47 ⟨by decide, by decide⟩
  refine Gz.stI 134 X45 hx hZ (dd d1_133) e45 A47 hin47 rfl fun T48 h48 X48 e48 W48 => ?_
  have V48 := Arv.set A47 q47 S47 N47 H47 G47 rfl W48 3 rfl (Nat.le_of_ble_eq_true rfl)
  replace V48 : Arv Z h48 b7_0 kr7 .int (4 : Int32) [(.int (0 : Int32)), (.int (0 : Int32)), (.int ((0 : Int32) + (v0 * v1))), (.int (((0 : Int32) + (v0 * v1)) + (v0 * v2)))] (.int (0 : Int32)) := V48
  have f48_E_a0 := Exa.wr W48 f42_E_a0
  have f48_F_valueCounts_a0 := Fld.other W48 f42_F_valueCounts_a0 (Or.inl ne_a0_b7_0)
  have f48_F_start_a0 := Fld.other W48 f42_F_start_a0 (Or.inl ne_a0_b7_0)
  have f48_F_firstOf_a0 := Fld.other W48 f42_F_firstOf_a0 (Or.inl ne_a0_b7_0)
  have f48_F_secondOf_a0 := Fld.other W48 f42_F_secondOf_a0 (Or.inl ne_a0_b7_0)
  have f48_F_startOf_a0 := Fld.other W48 f42_F_startOf_a0 (Or.inl ne_a0_b7_0)
  have f48_F_count_a0 := Fld.other W48 f42_F_count_a0 (Or.inl ne_a0_b7_0)
  have f48_V_a1 := Arv.other f42_V_a1 W48 ne_a1_b7_0
  have f48_E_a1 := Exa.wr W48 f42_E_a1
  have f48_Eb4 := Exa.wr W48 f42_Eb4
  have f48_Vb4 := Arv.other f42_Vb4 W48 ne_b4_b7_0
  have f48_Eb7 := Exa.wr W48 f42_Eb7
  have f48_Vb7 := Arv.other f42_Vb7 W48 ne_b7_b7_0
  have f48_Eb7_0 := Exa.wr W48 f42_Eb7_0
  have f48_Vb7_1 := Arv.other f42_Vb7_1 W48 (Ne.symm ne_b7_0_b7_1)
  have f48_Eb7_1 := Exa.wr W48 f42_Eb7_1
  have f48_Vb7_2 := Arv.other f42_Vb7_2 W48 (Ne.symm ne_b7_0_b7_2)
  have f48_Eb7_2 := Exa.wr W48 f42_Eb7_2
  have f48_Vb7_3 := Arv.other f42_Vb7_3 W48 (Ne.symm ne_b7_0_b7_3)
  have f48_Eb7_3 := Exa.wr W48 f42_Eb7_3
  have f48_Eb9 := Exa.wr W48 f42_Eb9
  have f48_Vb9 := Arv.other f42_Vb9 W48 (Ne.symm ne_b7_0_b9)
  have f48_Eb11 := Exa.wr W48 f42_Eb11
  have f48_Vb11 := Arv.other f42_Vb11 W48 (Ne.symm ne_b7_0_b11)
  have f48_Eb13 := Exa.wr W48 f42_Eb13
  have f48_Vb13 := Arv.other V42 W48 (Ne.symm ne_b7_0_b13)
  have N48 := Fr.snoc X48 N42 g_b7_0
  have SZ48 : n0 ≤ h48.size := Nat.le_trans SZ42 (Keep.of_wr W48).1
  have K48 := Keep.wr K42 W48 (Or.inr sz_b7_0)
  refine Gz.aloadN 135 X48 hx (dd d1_134) rfl rfl rfl ?_
  refine Gz.getF 138 X48 hx hZ hown (dd d1_135) (host := "") (Or.inl (ww hw 29 rfl)) Via.refl e48 f48_F_firstOf_a0 rfl fun T49 X49 e49 => ?_
  refine Gz.iload 140 X49 hx (dd d1_138) rfl rfl ?_
  refine Gz.iload 142 X49 hx (dd d1_140) rfl rfl ?_
  obtain ⟨c50, A50, q50, S50, N50, H50, G50⟩ := id f48_Vb9
  have hin50 : ¬ ((2 : Int32) < 0 ∨ c50.slots.size ≤ ((2 : Int32)).toNatClampNeg) := inb_of S50 ⟨by decide, by decide⟩
  refine Gz.stI 143 X49 hx hZ (dd d1_142) e49 A50 hin50 rfl fun T51 h51 X51 e51 W51 => ?_
  have V51 := Arv.set A50 q50 S50 N50 H50 G50 rfl W51 2 rfl (Nat.le_of_ble_eq_true rfl)
  replace V51 : Arv Z h51 b9 k9 .int (6 : Int32) [(.int (0 : Int32)), (.int (0 : Int32)), (.int (0 : Int32)), (.int (0 : Int32)), (.int (0 : Int32)), (.int (0 : Int32))] (.int (0 : Int32)) := V51
  have f51_E_a0 := Exa.wr W51 f48_E_a0
  have f51_F_valueCounts_a0 := Fld.other W51 f48_F_valueCounts_a0 (Or.inl ne_a0_b9)
  have f51_F_start_a0 := Fld.other W51 f48_F_start_a0 (Or.inl ne_a0_b9)
  have f51_F_firstOf_a0 := Fld.other W51 f48_F_firstOf_a0 (Or.inl ne_a0_b9)
  have f51_F_secondOf_a0 := Fld.other W51 f48_F_secondOf_a0 (Or.inl ne_a0_b9)
  have f51_F_startOf_a0 := Fld.other W51 f48_F_startOf_a0 (Or.inl ne_a0_b9)
  have f51_F_count_a0 := Fld.other W51 f48_F_count_a0 (Or.inl ne_a0_b9)
  have f51_V_a1 := Arv.other f48_V_a1 W51 ne_a1_b9
  have f51_E_a1 := Exa.wr W51 f48_E_a1
  have f51_Eb4 := Exa.wr W51 f48_Eb4
  have f51_Vb4 := Arv.other f48_Vb4 W51 ne_b4_b9
  have f51_Eb7 := Exa.wr W51 f48_Eb7
  have f51_Vb7 := Arv.other f48_Vb7 W51 ne_b7_b9
  have f51_Vb7_0 := Arv.other V48 W51 ne_b7_0_b9
  have f51_Eb7_0 := Exa.wr W51 f48_Eb7_0
  have f51_Vb7_1 := Arv.other f48_Vb7_1 W51 ne_b7_1_b9
  have f51_Eb7_1 := Exa.wr W51 f48_Eb7_1
  have f51_Vb7_2 := Arv.other f48_Vb7_2 W51 ne_b7_2_b9
  have f51_Eb7_2 := Exa.wr W51 f48_Eb7_2
  have f51_Vb7_3 := Arv.other f48_Vb7_3 W51 ne_b7_3_b9
  have f51_Eb7_3 := Exa.wr W51 f48_Eb7_3
  have f51_Eb9 := Exa.wr W51 f48_Eb9
  have f51_Eb11 := Exa.wr W51 f48_Eb11
  have f51_Vb11 := Arv.other f48_Vb11 W51 (Ne.symm ne_b9_b11)
  have f51_Eb13 := Exa.wr W51 f48_Eb13
  have f51_Vb13 := Arv.other f48_Vb13 W51 (Ne.symm ne_b9_b13)
  have N51 := Fr.snoc X51 N48 g_b9
  have SZ51 : n0 ≤ h51.size := Nat.le_trans SZ48 (Keep.of_wr W51).1
  have K51 := Keep.wr K48 W51 (Or.inr sz_b9)
  refine Gz.aloadN 144 X51 hx (dd d1_143) rfl rfl rfl ?_
  refine Gz.getF 147 X51 hx hZ hown (dd d1_144) (host := "") (Or.inl (ww hw 31 rfl)) Via.refl e51 f51_F_secondOf_a0 rfl fun T52 X52 e52 => ?_
  refine Gz.iload 149 X52 hx (dd d1_147) rfl rfl ?_
  refine Gz.iload 151 X52 hx (dd d1_149) rfl rfl ?_
  obtain ⟨c53, A53, q53, S53, N53, H53, G53⟩ := id f51_Vb11
  have hin53 : ¬ ((2 : Int32) < 0 ∨ c53.slots.size ≤ ((2 : Int32)).toNatClampNeg) := inb_of S53 ⟨by decide, by decide⟩
  refine Gz.stI 152 X52 hx hZ (dd d1_151) e52 A53 hin53 rfl fun T54 h54 X54 e54 W54 => ?_
  have V54 := Arv.set A53 q53 S53 N53 H53 G53 rfl W54 2 rfl (Nat.le_of_ble_eq_true rfl)
  replace V54 : Arv Z h54 b11 k11 .int (6 : Int32) [(.int (1 : Int32)), (.int (2 : Int32)), (.int (3 : Int32)), (.int (0 : Int32)), (.int (0 : Int32)), (.int (0 : Int32))] (.int (0 : Int32)) := V54
  have f54_E_a0 := Exa.wr W54 f51_E_a0
  have f54_F_valueCounts_a0 := Fld.other W54 f51_F_valueCounts_a0 (Or.inl ne_a0_b11)
  have f54_F_start_a0 := Fld.other W54 f51_F_start_a0 (Or.inl ne_a0_b11)
  have f54_F_firstOf_a0 := Fld.other W54 f51_F_firstOf_a0 (Or.inl ne_a0_b11)
  have f54_F_secondOf_a0 := Fld.other W54 f51_F_secondOf_a0 (Or.inl ne_a0_b11)
  have f54_F_startOf_a0 := Fld.other W54 f51_F_startOf_a0 (Or.inl ne_a0_b11)
  have f54_F_count_a0 := Fld.other W54 f51_F_count_a0 (Or.inl ne_a0_b11)
  have f54_V_a1 := Arv.other f51_V_a1 W54 ne_a1_b11
  have f54_E_a1 := Exa.wr W54 f51_E_a1
  have f54_Eb4 := Exa.wr W54 f51_Eb4
  have f54_Vb4 := Arv.other f51_Vb4 W54 ne_b4_b11
  have f54_Eb7 := Exa.wr W54 f51_Eb7
  have f54_Vb7 := Arv.other f51_Vb7 W54 ne_b7_b11
  have f54_Vb7_0 := Arv.other f51_Vb7_0 W54 ne_b7_0_b11
  have f54_Eb7_0 := Exa.wr W54 f51_Eb7_0
  have f54_Vb7_1 := Arv.other f51_Vb7_1 W54 ne_b7_1_b11
  have f54_Eb7_1 := Exa.wr W54 f51_Eb7_1
  have f54_Vb7_2 := Arv.other f51_Vb7_2 W54 ne_b7_2_b11
  have f54_Eb7_2 := Exa.wr W54 f51_Eb7_2
  have f54_Vb7_3 := Arv.other f51_Vb7_3 W54 ne_b7_3_b11
  have f54_Eb7_3 := Exa.wr W54 f51_Eb7_3
  have f54_Eb9 := Exa.wr W54 f51_Eb9
  have f54_Vb9 := Arv.other V51 W54 ne_b9_b11
  have f54_Eb11 := Exa.wr W54 f51_Eb11
  have f54_Eb13 := Exa.wr W54 f51_Eb13
  have f54_Vb13 := Arv.other f51_Vb13 W54 (Ne.symm ne_b11_b13)
  have N54 := Fr.snoc X54 N51 g_b11
  have SZ54 : n0 ≤ h54.size := Nat.le_trans SZ51 (Keep.of_wr W54).1
  have K54 := Keep.wr K51 W54 (Or.inr sz_b11)
  refine Gz.aloadN 153 X54 hx (dd d1_152) rfl rfl rfl ?_
  refine Gz.getF 156 X54 hx hZ hown (dd d1_153) (host := "") (Or.inl (ww hw 33 rfl)) Via.refl e54 f54_F_startOf_a0 rfl fun T55 X55 e55 => ?_
  refine Gz.iload 158 X55 hx (dd d1_156) rfl rfl ?_
  refine Gz.iload 160 X55 hx (dd d1_158) rfl rfl ?_
  obtain ⟨c56, A56, q56, S56, N56, H56, G56⟩ := id f54_Vb13
  have hin56 : ¬ ((2 : Int32) < 0 ∨ c56.slots.size ≤ ((2 : Int32)).toNatClampNeg) := inb_of S56 ⟨by decide, by decide⟩
  refine Gz.stI 161 X55 hx hZ (dd d1_160) e55 A56 hin56 rfl fun T57 h57 X57 e57 W57 => ?_
  have V57 := Arv.set A56 q56 S56 N56 H56 G56 rfl W57 2 rfl (Nat.le_of_ble_eq_true rfl)
  replace V57 : Arv Z h57 b13 k13 .int (6 : Int32) [(.int (0 : Int32)), (.int ((0 : Int32) + (v0 * v1))), (.int (((0 : Int32) + (v0 * v1)) + (v0 * v2))), (.int (0 : Int32)), (.int (0 : Int32)), (.int (0 : Int32))] (.int (0 : Int32)) := V57
  have f57_E_a0 := Exa.wr W57 f54_E_a0
  have f57_F_valueCounts_a0 := Fld.other W57 f54_F_valueCounts_a0 (Or.inl ne_a0_b13)
  have f57_F_start_a0 := Fld.other W57 f54_F_start_a0 (Or.inl ne_a0_b13)
  have f57_F_firstOf_a0 := Fld.other W57 f54_F_firstOf_a0 (Or.inl ne_a0_b13)
  have f57_F_secondOf_a0 := Fld.other W57 f54_F_secondOf_a0 (Or.inl ne_a0_b13)
  have f57_F_startOf_a0 := Fld.other W57 f54_F_startOf_a0 (Or.inl ne_a0_b13)
  have f57_F_count_a0 := Fld.other W57 f54_F_count_a0 (Or.inl ne_a0_b13)
  have f57_V_a1 := Arv.other f54_V_a1 W57 ne_a1_b13
  have f57_E_a1 := Exa.wr W57 f54_E_a1
  have f57_Eb4 := Exa.wr W57 f54_Eb4
  have f57_Vb4 := Arv.other f54_Vb4 W57 ne_b4_b13
  have f57_Eb7 := Exa.wr W57 f54_Eb7
  have f57_Vb7 := Arv.other f54_Vb7 W57 ne_b7_b13
  have f57_Vb7_0 := Arv.other f54_Vb7_0 W57 ne_b7_0_b13
  have f57_Eb7_0 := Exa.wr W57 f54_Eb7_0
  have f57_Vb7_1 := Arv.other f54_Vb7_1 W57 ne_b7_1_b13
  have f57_Eb7_1 := Exa.wr W57 f54_Eb7_1
  have f57_Vb7_2 := Arv.other f54_Vb7_2 W57 ne_b7_2_b13
  have f57_Eb7_2 := Exa.wr W57 f54_Eb7_2
  have f57_Vb7_3 := Arv.other f54_Vb7_3 W57 ne_b7_3_b13
  have f57_Eb7_3 := Exa.wr W57 f54_Eb7_3
  have f57_Eb9 := Exa.wr W57 f54_Eb9
  have f57_Vb9 := Arv.other f54_Vb9 W57 ne_b9_b13
  have f57_Eb11 := Exa.wr W57 f54_Eb11
  have f57_Vb11 := Arv.other V54 W57 ne_b11_b13
  have f57_Eb13 := Exa.wr W57 f54_Eb13
  have N57 := Fr.snoc X57 N54 g_b13
  have SZ57 : n0 ≤ h57.size := Nat.le_trans SZ54 (Keep.of_wr W57).1
  have K57 := Keep.wr K54 W57 (Or.inr sz_b13)
  refine Gz.iinc 164 #[.val (.ref a0), .val (.ref a1), .val (.long (fC4 a1 v0 v1 v2 v3)), .second, .val (.int (4 : Int32)), .val (.int (6 : Int32)), .val (.int (((0 : Int32) + (v0 * v1)) + (v0 * v2))), .val (.int (3 : Int32)), .val (.int (0 : Int32)), .val (.int (3 : Int32))] X57 hx (dd d1_161) rfl rfl rfl ?_
  refine Gz.iload 166 X57 hx (dd d1_164) rfl rfl ?_
  refine Gz.aloadN 167 X57 hx (dd d1_166) rfl rfl rfl ?_
  refine Gz.iload 169 X57 hx (dd d1_167) rfl rfl ?_
  obtain ⟨c58, A58, q58, S58, N58, H58, G58⟩ := id f57_V_a1
  have hin58 : ¬ ((0 : Int32) < 0 ∨ c58.slots.size ≤ ((0 : Int32)).toNatClampNeg) := inb_of S58 ⟨by decide, by decide⟩
  refine Gz.ldI 170 X57 hx hZ (dd d1_169) e57 A58 hin58 (Has.at H58 hin58 (rfl : _ = ((.int v0) : Value))) rfl ?_
  refine Gz.aloadN 171 X57 hx (dd d1_170) rfl rfl rfl ?_
  refine Gz.iload 173 X57 hx (dd d1_171) rfl rfl ?_
  obtain ⟨c59, A59, q59, S59, N59, H59, G59⟩ := id f57_V_a1
  have hin59 : ¬ ((3 : Int32) < 0 ∨ c59.slots.size ≤ ((3 : Int32)).toNatClampNeg) := inb_of S59 ⟨by decide, by decide⟩
  refine Gz.ldI 174 X57 hx hZ (dd d1_173) e57 A59 hin59 (Has.at H59 hin59 (rfl : _ = ((.int v3) : Value))) rfl ?_
  refine Gz.imul 175 X57 hx (dd d1_174) rfl ?_
  refine Gz.iadd 176 X57 hx (dd d1_175) rfl ?_
  refine Gz.istore 178 #[.val (.ref a0), .val (.ref a1), .val (.long (fC4 a1 v0 v1 v2 v3)), .second, .val (.int (4 : Int32)), .val (.int (6 : Int32)), .val (.int ((((0 : Int32) + (v0 * v1)) + (v0 * v2)) + (v0 * v3))), .val (.int (3 : Int32)), .val (.int (0 : Int32)), .val (.int (3 : Int32))] X57 hx (dd d1_176) rfl rfl ?_
  refine Gz.iinc 181 #[.val (.ref a0), .val (.ref a1), .val (.long (fC4 a1 v0 v1 v2 v3)), .second, .val (.int (4 : Int32)), .val (.int (6 : Int32)), .val (.int ((((0 : Int32) + (v0 * v1)) + (v0 * v2)) + (v0 * v3))), .val (.int (3 : Int32)), .val (.int (0 : Int32)), .val (.int (4 : Int32))] X57 hx (dd d1_178) rfl rfl rfl ?_
  refine Gz.goto 115 X57 hx (dd d1_181) (by decide) (by decide) ?_
  refine Gz.iload 117 X57 hx (dd d1_115) rfl rfl ?_
  refine Gz.iload 119 X57 hx (dd d1_117) rfl rfl ?_
  refine Gz.icmpYes 184 X57 hx (dd d1_119) (flt (by decide : ¬ ((4 : Int32) < (4 : Int32)))).2.1 (by decide) (by decide) ?_
  refine Gz.iinc 187 #[.val (.ref a0), .val (.ref a1), .val (.long (fC4 a1 v0 v1 v2 v3)), .second, .val (.int (4 : Int32)), .val (.int (6 : Int32)), .val (.int ((((0 : Int32) + (v0 * v1)) + (v0 * v2)) + (v0 * v3))), .val (.int (3 : Int32)), .val (.int (1 : Int32)), .val (.int (4 : Int32))] X57 hx (dd d1_184) rfl rfl rfl ?_
  refine Gz.goto 102 X57 hx (dd d1_187) (by decide) (by decide) ?_
  refine Gz.iload 104 X57 hx (dd d1_102) rfl rfl ?_
  refine Gz.iload 106 X57 hx (dd d1_104) rfl rfl ?_
  refine Gz.icmpNo 109 X57 hx (dd d1_106) (tlt (by decide : (1 : Int32) < (4 : Int32))).2.1 rfl ?_
  refine Gz.iload 111 X57 hx (dd d1_109) rfl rfl ?_
  refine Gz.iconst 112 (1 : Int32) X57 hx (dd d1_111) rfl rfl ?_
  refine Gz.iaddV 113 (2 : Int32) X57 hx (dd d1_112) rfl rfl ?_
  refine Gz.istore 115 #[.val (.ref a0), .val (.ref a1), .val (.long (fC4 a1 v0 v1 v2 v3)), .second, .val (.int (4 : Int32)), .val (.int (6 : Int32)), .val (.int ((((0 : Int32) + (v0 * v1)) + (v0 * v2)) + (v0 * v3))), .val (.int (3 : Int32)), .val (.int (1 : Int32)), .val (.int (2 : Int32))] X57 hx (dd d1_113) rfl rfl ?_
  refine Gz.iload 117 X57 hx (dd d1_115) rfl rfl ?_
  refine Gz.iload 119 X57 hx (dd d1_117) rfl rfl ?_
  refine Gz.icmpNo 122 X57 hx (dd d1_119) (tlt (by decide : (2 : Int32) < (4 : Int32))).2.1 rfl ?_
  refine Gz.aloadN 123 X57 hx (dd d1_122) rfl rfl rfl ?_
  refine Gz.getF 126 X57 hx hZ hown (dd d1_123) (host := "") (Or.inl (ww hw 27 rfl)) Via.refl e57 f57_F_start_a0 rfl fun T60 X60 e60 => ?_
  refine Gz.iload 128 X60 hx (dd d1_126) rfl rfl ?_
  obtain ⟨c61, A61, q61, S61, N61, H61, G61⟩ := id f57_Vb7
  have hin61 : ¬ ((1 : Int32) < 0 ∨ c61.slots.size ≤ ((1 : Int32)).toNatClampNeg) := inb_of S61 ⟨by decide, by decide⟩
  refine Gz.ldA 129 X60 hx hZ rfl (dd d1_128) e60 A61 hin61 (Has.at H61 hin61 (rfl : _ = ((.ref b7_1) : Value))) rfl ?_
  refine Gz.iload 131 X60 hx (dd d1_129) rfl rfl ?_
  refine Gz.iload 133 X60 hx (dd d1_131) rfl rfl ?_
  obtain ⟨c62, A62, q62, S62, N62, H62, G62⟩ := id f57_Vb7_1
  have hin62 : ¬ ((2 : Int32) < 0 ∨ c62.slots.size ≤ ((2 : Int32)).toNatClampNeg) := inb_of S62 ⟨by decide, by decide⟩
  refine Gz.stI 134 X60 hx hZ (dd d1_133) e60 A62 hin62 rfl fun T63 h63 X63 e63 W63 => ?_
  have V63 := Arv.set A62 q62 S62 N62 H62 G62 rfl W63 2 rfl (Nat.le_of_ble_eq_true rfl)
  replace V63 : Arv Z h63 b7_1 kr7 .int (4 : Int32) [(.int (0 : Int32)), (.int (0 : Int32)), (.int ((((0 : Int32) + (v0 * v1)) + (v0 * v2)) + (v0 * v3))), (.int (0 : Int32))] (.int (0 : Int32)) := V63
  have f63_E_a0 := Exa.wr W63 f57_E_a0
  have f63_F_valueCounts_a0 := Fld.other W63 f57_F_valueCounts_a0 (Or.inl ne_a0_b7_1)
  have f63_F_start_a0 := Fld.other W63 f57_F_start_a0 (Or.inl ne_a0_b7_1)
  have f63_F_firstOf_a0 := Fld.other W63 f57_F_firstOf_a0 (Or.inl ne_a0_b7_1)
  have f63_F_secondOf_a0 := Fld.other W63 f57_F_secondOf_a0 (Or.inl ne_a0_b7_1)
  have f63_F_startOf_a0 := Fld.other W63 f57_F_startOf_a0 (Or.inl ne_a0_b7_1)
  have f63_F_count_a0 := Fld.other W63 f57_F_count_a0 (Or.inl ne_a0_b7_1)
  have f63_V_a1 := Arv.other f57_V_a1 W63 ne_a1_b7_1
  have f63_E_a1 := Exa.wr W63 f57_E_a1
  have f63_Eb4 := Exa.wr W63 f57_Eb4
  have f63_Vb4 := Arv.other f57_Vb4 W63 ne_b4_b7_1
  have f63_Eb7 := Exa.wr W63 f57_Eb7
  have f63_Vb7 := Arv.other f57_Vb7 W63 ne_b7_b7_1
  have f63_Vb7_0 := Arv.other f57_Vb7_0 W63 ne_b7_0_b7_1
  have f63_Eb7_0 := Exa.wr W63 f57_Eb7_0
  have f63_Eb7_1 := Exa.wr W63 f57_Eb7_1
  have f63_Vb7_2 := Arv.other f57_Vb7_2 W63 (Ne.symm ne_b7_1_b7_2)
  have f63_Eb7_2 := Exa.wr W63 f57_Eb7_2
  have f63_Vb7_3 := Arv.other f57_Vb7_3 W63 (Ne.symm ne_b7_1_b7_3)
  have f63_Eb7_3 := Exa.wr W63 f57_Eb7_3
  have f63_Eb9 := Exa.wr W63 f57_Eb9
  have f63_Vb9 := Arv.other f57_Vb9 W63 (Ne.symm ne_b7_1_b9)
  have f63_Eb11 := Exa.wr W63 f57_Eb11
  have f63_Vb11 := Arv.other f57_Vb11 W63 (Ne.symm ne_b7_1_b11)
  have f63_Eb13 := Exa.wr W63 f57_Eb13
  have f63_Vb13 := Arv.other V57 W63 (Ne.symm ne_b7_1_b13)
  have N63 := Fr.snoc X63 N57 g_b7_1
  have SZ63 : n0 ≤ h63.size := Nat.le_trans SZ57 (Keep.of_wr W63).1
  have K63 := Keep.wr K57 W63 (Or.inr sz_b7_1)
  refine Gz.aloadN 135 X63 hx (dd d1_134) rfl rfl rfl ?_
  refine Gz.getF 138 X63 hx hZ hown (dd d1_135) (host := "") (Or.inl (ww hw 29 rfl)) Via.refl e63 f63_F_firstOf_a0 rfl fun T64 X64 e64 => ?_
  refine Gz.iload 140 X64 hx (dd d1_138) rfl rfl ?_
  refine Gz.iload 142 X64 hx (dd d1_140) rfl rfl ?_
  obtain ⟨c65, A65, q65, S65, N65, H65, G65⟩ := id f63_Vb9
  have hin65 : ¬ ((3 : Int32) < 0 ∨ c65.slots.size ≤ ((3 : Int32)).toNatClampNeg) := inb_of S65 ⟨by decide, by decide⟩
  refine Gz.stI 143 X64 hx hZ (dd d1_142) e64 A65 hin65 rfl fun T66 h66 X66 e66 W66 => ?_
  have V66 := Arv.set A65 q65 S65 N65 H65 G65 rfl W66 3 rfl (Nat.le_of_ble_eq_true rfl)
  replace V66 : Arv Z h66 b9 k9 .int (6 : Int32) [(.int (0 : Int32)), (.int (0 : Int32)), (.int (0 : Int32)), (.int (1 : Int32)), (.int (0 : Int32)), (.int (0 : Int32))] (.int (0 : Int32)) := V66
  have f66_E_a0 := Exa.wr W66 f63_E_a0
  have f66_F_valueCounts_a0 := Fld.other W66 f63_F_valueCounts_a0 (Or.inl ne_a0_b9)
  have f66_F_start_a0 := Fld.other W66 f63_F_start_a0 (Or.inl ne_a0_b9)
  have f66_F_firstOf_a0 := Fld.other W66 f63_F_firstOf_a0 (Or.inl ne_a0_b9)
  have f66_F_secondOf_a0 := Fld.other W66 f63_F_secondOf_a0 (Or.inl ne_a0_b9)
  have f66_F_startOf_a0 := Fld.other W66 f63_F_startOf_a0 (Or.inl ne_a0_b9)
  have f66_F_count_a0 := Fld.other W66 f63_F_count_a0 (Or.inl ne_a0_b9)
  have f66_V_a1 := Arv.other f63_V_a1 W66 ne_a1_b9
  have f66_E_a1 := Exa.wr W66 f63_E_a1
  have f66_Eb4 := Exa.wr W66 f63_Eb4
  have f66_Vb4 := Arv.other f63_Vb4 W66 ne_b4_b9
  have f66_Eb7 := Exa.wr W66 f63_Eb7
  have f66_Vb7 := Arv.other f63_Vb7 W66 ne_b7_b9
  have f66_Vb7_0 := Arv.other f63_Vb7_0 W66 ne_b7_0_b9
  have f66_Eb7_0 := Exa.wr W66 f63_Eb7_0
  have f66_Vb7_1 := Arv.other V63 W66 ne_b7_1_b9
  have f66_Eb7_1 := Exa.wr W66 f63_Eb7_1
  have f66_Vb7_2 := Arv.other f63_Vb7_2 W66 ne_b7_2_b9
  have f66_Eb7_2 := Exa.wr W66 f63_Eb7_2
  have f66_Vb7_3 := Arv.other f63_Vb7_3 W66 ne_b7_3_b9
  have f66_Eb7_3 := Exa.wr W66 f63_Eb7_3
  have f66_Eb9 := Exa.wr W66 f63_Eb9
  have f66_Eb11 := Exa.wr W66 f63_Eb11
  have f66_Vb11 := Arv.other f63_Vb11 W66 (Ne.symm ne_b9_b11)
  have f66_Eb13 := Exa.wr W66 f63_Eb13
  have f66_Vb13 := Arv.other f63_Vb13 W66 (Ne.symm ne_b9_b13)
  have N66 := Fr.snoc X66 N63 g_b9
  have SZ66 : n0 ≤ h66.size := Nat.le_trans SZ63 (Keep.of_wr W66).1
  have K66 := Keep.wr K63 W66 (Or.inr sz_b9)
  refine Gz.aloadN 144 X66 hx (dd d1_143) rfl rfl rfl ?_
  refine Gz.getF 147 X66 hx hZ hown (dd d1_144) (host := "") (Or.inl (ww hw 31 rfl)) Via.refl e66 f66_F_secondOf_a0 rfl fun T67 X67 e67 => ?_
  refine Gz.iload 149 X67 hx (dd d1_147) rfl rfl ?_
  refine Gz.iload 151 X67 hx (dd d1_149) rfl rfl ?_
  obtain ⟨c68, A68, q68, S68, N68, H68, G68⟩ := id f66_Vb11
  have hin68 : ¬ ((3 : Int32) < 0 ∨ c68.slots.size ≤ ((3 : Int32)).toNatClampNeg) := inb_of S68 ⟨by decide, by decide⟩
  refine Gz.stI 152 X67 hx hZ (dd d1_151) e67 A68 hin68 rfl fun T69 h69 X69 e69 W69 => ?_
  have V69 := Arv.set A68 q68 S68 N68 H68 G68 rfl W69 3 rfl (Nat.le_of_ble_eq_true rfl)
  replace V69 : Arv Z h69 b11 k11 .int (6 : Int32) [(.int (1 : Int32)), (.int (2 : Int32)), (.int (3 : Int32)), (.int (2 : Int32)), (.int (0 : Int32)), (.int (0 : Int32))] (.int (0 : Int32)) := V69
  have f69_E_a0 := Exa.wr W69 f66_E_a0
  have f69_F_valueCounts_a0 := Fld.other W69 f66_F_valueCounts_a0 (Or.inl ne_a0_b11)
  have f69_F_start_a0 := Fld.other W69 f66_F_start_a0 (Or.inl ne_a0_b11)
  have f69_F_firstOf_a0 := Fld.other W69 f66_F_firstOf_a0 (Or.inl ne_a0_b11)
  have f69_F_secondOf_a0 := Fld.other W69 f66_F_secondOf_a0 (Or.inl ne_a0_b11)
  have f69_F_startOf_a0 := Fld.other W69 f66_F_startOf_a0 (Or.inl ne_a0_b11)
  have f69_F_count_a0 := Fld.other W69 f66_F_count_a0 (Or.inl ne_a0_b11)
  have f69_V_a1 := Arv.other f66_V_a1 W69 ne_a1_b11
  have f69_E_a1 := Exa.wr W69 f66_E_a1
  have f69_Eb4 := Exa.wr W69 f66_Eb4
  have f69_Vb4 := Arv.other f66_Vb4 W69 ne_b4_b11
  have f69_Eb7 := Exa.wr W69 f66_Eb7
  have f69_Vb7 := Arv.other f66_Vb7 W69 ne_b7_b11
  have f69_Vb7_0 := Arv.other f66_Vb7_0 W69 ne_b7_0_b11
  have f69_Eb7_0 := Exa.wr W69 f66_Eb7_0
  have f69_Vb7_1 := Arv.other f66_Vb7_1 W69 ne_b7_1_b11
  have f69_Eb7_1 := Exa.wr W69 f66_Eb7_1
  have f69_Vb7_2 := Arv.other f66_Vb7_2 W69 ne_b7_2_b11
  have f69_Eb7_2 := Exa.wr W69 f66_Eb7_2
  have f69_Vb7_3 := Arv.other f66_Vb7_3 W69 ne_b7_3_b11
  have f69_Eb7_3 := Exa.wr W69 f66_Eb7_3
  have f69_Eb9 := Exa.wr W69 f66_Eb9
  have f69_Vb9 := Arv.other V66 W69 ne_b9_b11
  have f69_Eb11 := Exa.wr W69 f66_Eb11
  have f69_Eb13 := Exa.wr W69 f66_Eb13
  have f69_Vb13 := Arv.other f66_Vb13 W69 (Ne.symm ne_b11_b13)
  have N69 := Fr.snoc X69 N66 g_b11
  have SZ69 : n0 ≤ h69.size := Nat.le_trans SZ66 (Keep.of_wr W69).1
  have K69 := Keep.wr K66 W69 (Or.inr sz_b11)
  refine Gz.aloadN 153 X69 hx (dd d1_152) rfl rfl rfl ?_
  refine Gz.getF 156 X69 hx hZ hown (dd d1_153) (host := "") (Or.inl (ww hw 33 rfl)) Via.refl e69 f69_F_startOf_a0 rfl fun T70 X70 e70 => ?_
  refine Gz.iload 158 X70 hx (dd d1_156) rfl rfl ?_
  refine Gz.iload 160 X70 hx (dd d1_158) rfl rfl ?_
  obtain ⟨c71, A71, q71, S71, N71, H71, G71⟩ := id f69_Vb13
  have hin71 : ¬ ((3 : Int32) < 0 ∨ c71.slots.size ≤ ((3 : Int32)).toNatClampNeg) := inb_of S71 ⟨by decide, by decide⟩
  refine Gz.stI 161 X70 hx hZ (dd d1_160) e70 A71 hin71 rfl fun T72 h72 X72 e72 W72 => ?_
  have V72 := Arv.set A71 q71 S71 N71 H71 G71 rfl W72 3 rfl (Nat.le_of_ble_eq_true rfl)
  replace V72 : Arv Z h72 b13 k13 .int (6 : Int32) [(.int (0 : Int32)), (.int ((0 : Int32) + (v0 * v1))), (.int (((0 : Int32) + (v0 * v1)) + (v0 * v2))), (.int ((((0 : Int32) + (v0 * v1)) + (v0 * v2)) + (v0 * v3))), (.int (0 : Int32)), (.int (0 : Int32))] (.int (0 : Int32)) := V72
  have f72_E_a0 := Exa.wr W72 f69_E_a0
  have f72_F_valueCounts_a0 := Fld.other W72 f69_F_valueCounts_a0 (Or.inl ne_a0_b13)
  have f72_F_start_a0 := Fld.other W72 f69_F_start_a0 (Or.inl ne_a0_b13)
  have f72_F_firstOf_a0 := Fld.other W72 f69_F_firstOf_a0 (Or.inl ne_a0_b13)
  have f72_F_secondOf_a0 := Fld.other W72 f69_F_secondOf_a0 (Or.inl ne_a0_b13)
  have f72_F_startOf_a0 := Fld.other W72 f69_F_startOf_a0 (Or.inl ne_a0_b13)
  have f72_F_count_a0 := Fld.other W72 f69_F_count_a0 (Or.inl ne_a0_b13)
  have f72_V_a1 := Arv.other f69_V_a1 W72 ne_a1_b13
  have f72_E_a1 := Exa.wr W72 f69_E_a1
  have f72_Eb4 := Exa.wr W72 f69_Eb4
  have f72_Vb4 := Arv.other f69_Vb4 W72 ne_b4_b13
  have f72_Eb7 := Exa.wr W72 f69_Eb7
  have f72_Vb7 := Arv.other f69_Vb7 W72 ne_b7_b13
  have f72_Vb7_0 := Arv.other f69_Vb7_0 W72 ne_b7_0_b13
  have f72_Eb7_0 := Exa.wr W72 f69_Eb7_0
  have f72_Vb7_1 := Arv.other f69_Vb7_1 W72 ne_b7_1_b13
  have f72_Eb7_1 := Exa.wr W72 f69_Eb7_1
  have f72_Vb7_2 := Arv.other f69_Vb7_2 W72 ne_b7_2_b13
  have f72_Eb7_2 := Exa.wr W72 f69_Eb7_2
  have f72_Vb7_3 := Arv.other f69_Vb7_3 W72 ne_b7_3_b13
  have f72_Eb7_3 := Exa.wr W72 f69_Eb7_3
  have f72_Eb9 := Exa.wr W72 f69_Eb9
  have f72_Vb9 := Arv.other f69_Vb9 W72 ne_b9_b13
  have f72_Eb11 := Exa.wr W72 f69_Eb11
  have f72_Vb11 := Arv.other V69 W72 ne_b11_b13
  have f72_Eb13 := Exa.wr W72 f69_Eb13
  have N72 := Fr.snoc X72 N69 g_b13
  have SZ72 : n0 ≤ h72.size := Nat.le_trans SZ69 (Keep.of_wr W72).1
  have K72 := Keep.wr K69 W72 (Or.inr sz_b13)
  refine Gz.iinc 164 #[.val (.ref a0), .val (.ref a1), .val (.long (fC4 a1 v0 v1 v2 v3)), .second, .val (.int (4 : Int32)), .val (.int (6 : Int32)), .val (.int ((((0 : Int32) + (v0 * v1)) + (v0 * v2)) + (v0 * v3))), .val (.int (4 : Int32)), .val (.int (1 : Int32)), .val (.int (2 : Int32))] X72 hx (dd d1_161) rfl rfl rfl ?_
  refine Gz.iload 166 X72 hx (dd d1_164) rfl rfl ?_
  refine Gz.aloadN 167 X72 hx (dd d1_166) rfl rfl rfl ?_
  refine Gz.iload 169 X72 hx (dd d1_167) rfl rfl ?_
  obtain ⟨c73, A73, q73, S73, N73, H73, G73⟩ := id f72_V_a1
  have hin73 : ¬ ((1 : Int32) < 0 ∨ c73.slots.size ≤ ((1 : Int32)).toNatClampNeg) := inb_of S73 ⟨by decide, by decide⟩
  refine Gz.ldI 170 X72 hx hZ (dd d1_169) e72 A73 hin73 (Has.at H73 hin73 (rfl : _ = ((.int v1) : Value))) rfl ?_
  refine Gz.aloadN 171 X72 hx (dd d1_170) rfl rfl rfl ?_
  refine Gz.iload 173 X72 hx (dd d1_171) rfl rfl ?_
  obtain ⟨c74, A74, q74, S74, N74, H74, G74⟩ := id f72_V_a1
  have hin74 : ¬ ((2 : Int32) < 0 ∨ c74.slots.size ≤ ((2 : Int32)).toNatClampNeg) := inb_of S74 ⟨by decide, by decide⟩
  refine Gz.ldI 174 X72 hx hZ (dd d1_173) e72 A74 hin74 (Has.at H74 hin74 (rfl : _ = ((.int v2) : Value))) rfl ?_
  refine Gz.imul 175 X72 hx (dd d1_174) rfl ?_
  refine Gz.iadd 176 X72 hx (dd d1_175) rfl ?_
  refine Gz.istore 178 #[.val (.ref a0), .val (.ref a1), .val (.long (fC4 a1 v0 v1 v2 v3)), .second, .val (.int (4 : Int32)), .val (.int (6 : Int32)), .val (.int (((((0 : Int32) + (v0 * v1)) + (v0 * v2)) + (v0 * v3)) + (v1 * v2))), .val (.int (4 : Int32)), .val (.int (1 : Int32)), .val (.int (2 : Int32))] X72 hx (dd d1_176) rfl rfl ?_
  refine Gz.iinc 181 #[.val (.ref a0), .val (.ref a1), .val (.long (fC4 a1 v0 v1 v2 v3)), .second, .val (.int (4 : Int32)), .val (.int (6 : Int32)), .val (.int (((((0 : Int32) + (v0 * v1)) + (v0 * v2)) + (v0 * v3)) + (v1 * v2))), .val (.int (4 : Int32)), .val (.int (1 : Int32)), .val (.int (3 : Int32))] X72 hx (dd d1_178) rfl rfl rfl ?_
  refine Gz.goto 115 X72 hx (dd d1_181) (by decide) (by decide) ?_
  refine Gz.iload 117 X72 hx (dd d1_115) rfl rfl ?_
  refine Gz.iload 119 X72 hx (dd d1_117) rfl rfl ?_
  refine Gz.icmpNo 122 X72 hx (dd d1_119) (tlt (by decide : (3 : Int32) < (4 : Int32))).2.1 rfl ?_
  refine Gz.aloadN 123 X72 hx (dd d1_122) rfl rfl rfl ?_
  refine Gz.getF 126 X72 hx hZ hown (dd d1_123) (host := "") (Or.inl (ww hw 27 rfl)) Via.refl e72 f72_F_start_a0 rfl fun T75 X75 e75 => ?_
  refine Gz.iload 128 X75 hx (dd d1_126) rfl rfl ?_
  obtain ⟨c76, A76, q76, S76, N76, H76, G76⟩ := id f72_Vb7
  have hin76 : ¬ ((1 : Int32) < 0 ∨ c76.slots.size ≤ ((1 : Int32)).toNatClampNeg) := inb_of S76 ⟨by decide, by decide⟩
  refine Gz.ldA 129 X75 hx hZ rfl (dd d1_128) e75 A76 hin76 (Has.at H76 hin76 (rfl : _ = ((.ref b7_1) : Value))) rfl ?_
  refine Gz.iload 131 X75 hx (dd d1_129) rfl rfl ?_
  refine Gz.iload 133 X75 hx (dd d1_131) rfl rfl ?_
  obtain ⟨c77, A77, q77, S77, N77, H77, G77⟩ := id f72_Vb7_1
  have hin77 : ¬ ((3 : Int32) < 0 ∨ c77.slots.size ≤ ((3 : Int32)).toNatClampNeg) := inb_of S77 ⟨by decide, by decide⟩
  refine Gz.stI 134 X75 hx hZ (dd d1_133) e75 A77 hin77 rfl fun T78 h78 X78 e78 W78 => ?_
  have V78 := Arv.set A77 q77 S77 N77 H77 G77 rfl W78 3 rfl (Nat.le_of_ble_eq_true rfl)
  replace V78 : Arv Z h78 b7_1 kr7 .int (4 : Int32) [(.int (0 : Int32)), (.int (0 : Int32)), (.int ((((0 : Int32) + (v0 * v1)) + (v0 * v2)) + (v0 * v3))), (.int (((((0 : Int32) + (v0 * v1)) + (v0 * v2)) + (v0 * v3)) + (v1 * v2)))] (.int (0 : Int32)) := V78
  have f78_E_a0 := Exa.wr W78 f72_E_a0
  have f78_F_valueCounts_a0 := Fld.other W78 f72_F_valueCounts_a0 (Or.inl ne_a0_b7_1)
  have f78_F_start_a0 := Fld.other W78 f72_F_start_a0 (Or.inl ne_a0_b7_1)
  have f78_F_firstOf_a0 := Fld.other W78 f72_F_firstOf_a0 (Or.inl ne_a0_b7_1)
  have f78_F_secondOf_a0 := Fld.other W78 f72_F_secondOf_a0 (Or.inl ne_a0_b7_1)
  have f78_F_startOf_a0 := Fld.other W78 f72_F_startOf_a0 (Or.inl ne_a0_b7_1)
  have f78_F_count_a0 := Fld.other W78 f72_F_count_a0 (Or.inl ne_a0_b7_1)
  have f78_V_a1 := Arv.other f72_V_a1 W78 ne_a1_b7_1
  have f78_E_a1 := Exa.wr W78 f72_E_a1
  have f78_Eb4 := Exa.wr W78 f72_Eb4
  have f78_Vb4 := Arv.other f72_Vb4 W78 ne_b4_b7_1
  have f78_Eb7 := Exa.wr W78 f72_Eb7
  have f78_Vb7 := Arv.other f72_Vb7 W78 ne_b7_b7_1
  have f78_Vb7_0 := Arv.other f72_Vb7_0 W78 ne_b7_0_b7_1
  have f78_Eb7_0 := Exa.wr W78 f72_Eb7_0
  have f78_Eb7_1 := Exa.wr W78 f72_Eb7_1
  have f78_Vb7_2 := Arv.other f72_Vb7_2 W78 (Ne.symm ne_b7_1_b7_2)
  have f78_Eb7_2 := Exa.wr W78 f72_Eb7_2
  have f78_Vb7_3 := Arv.other f72_Vb7_3 W78 (Ne.symm ne_b7_1_b7_3)
  have f78_Eb7_3 := Exa.wr W78 f72_Eb7_3
  have f78_Eb9 := Exa.wr W78 f72_Eb9
  have f78_Vb9 := Arv.other f72_Vb9 W78 (Ne.symm ne_b7_1_b9)
  have f78_Eb11 := Exa.wr W78 f72_Eb11
  have f78_Vb11 := Arv.other f72_Vb11 W78 (Ne.symm ne_b7_1_b11)
  have f78_Eb13 := Exa.wr W78 f72_Eb13
  have f78_Vb13 := Arv.other V72 W78 (Ne.symm ne_b7_1_b13)
  have N78 := Fr.snoc X78 N72 g_b7_1
  have SZ78 : n0 ≤ h78.size := Nat.le_trans SZ72 (Keep.of_wr W78).1
  have K78 := Keep.wr K72 W78 (Or.inr sz_b7_1)
  refine Gz.aloadN 135 X78 hx (dd d1_134) rfl rfl rfl ?_
  refine Gz.getF 138 X78 hx hZ hown (dd d1_135) (host := "") (Or.inl (ww hw 29 rfl)) Via.refl e78 f78_F_firstOf_a0 rfl fun T79 X79 e79 => ?_
  refine Gz.iload 140 X79 hx (dd d1_138) rfl rfl ?_
  refine Gz.iload 142 X79 hx (dd d1_140) rfl rfl ?_
  obtain ⟨c80, A80, q80, S80, N80, H80, G80⟩ := id f78_Vb9
  have hin80 : ¬ ((4 : Int32) < 0 ∨ c80.slots.size ≤ ((4 : Int32)).toNatClampNeg) := inb_of S80 ⟨by decide, by decide⟩
  refine Gz.stI 143 X79 hx hZ (dd d1_142) e79 A80 hin80 rfl fun T81 h81 X81 e81 W81 => ?_
  have V81 := Arv.set A80 q80 S80 N80 H80 G80 rfl W81 4 rfl (Nat.le_of_ble_eq_true rfl)
  replace V81 : Arv Z h81 b9 k9 .int (6 : Int32) [(.int (0 : Int32)), (.int (0 : Int32)), (.int (0 : Int32)), (.int (1 : Int32)), (.int (1 : Int32)), (.int (0 : Int32))] (.int (0 : Int32)) := V81
  have f81_E_a0 := Exa.wr W81 f78_E_a0
  have f81_F_valueCounts_a0 := Fld.other W81 f78_F_valueCounts_a0 (Or.inl ne_a0_b9)
  have f81_F_start_a0 := Fld.other W81 f78_F_start_a0 (Or.inl ne_a0_b9)
  have f81_F_firstOf_a0 := Fld.other W81 f78_F_firstOf_a0 (Or.inl ne_a0_b9)
  have f81_F_secondOf_a0 := Fld.other W81 f78_F_secondOf_a0 (Or.inl ne_a0_b9)
  have f81_F_startOf_a0 := Fld.other W81 f78_F_startOf_a0 (Or.inl ne_a0_b9)
  have f81_F_count_a0 := Fld.other W81 f78_F_count_a0 (Or.inl ne_a0_b9)
  have f81_V_a1 := Arv.other f78_V_a1 W81 ne_a1_b9
  have f81_E_a1 := Exa.wr W81 f78_E_a1
  have f81_Eb4 := Exa.wr W81 f78_Eb4
  have f81_Vb4 := Arv.other f78_Vb4 W81 ne_b4_b9
  have f81_Eb7 := Exa.wr W81 f78_Eb7
  have f81_Vb7 := Arv.other f78_Vb7 W81 ne_b7_b9
  have f81_Vb7_0 := Arv.other f78_Vb7_0 W81 ne_b7_0_b9
  have f81_Eb7_0 := Exa.wr W81 f78_Eb7_0
  have f81_Vb7_1 := Arv.other V78 W81 ne_b7_1_b9
  have f81_Eb7_1 := Exa.wr W81 f78_Eb7_1
  have f81_Vb7_2 := Arv.other f78_Vb7_2 W81 ne_b7_2_b9
  have f81_Eb7_2 := Exa.wr W81 f78_Eb7_2
  have f81_Vb7_3 := Arv.other f78_Vb7_3 W81 ne_b7_3_b9
  have f81_Eb7_3 := Exa.wr W81 f78_Eb7_3
  have f81_Eb9 := Exa.wr W81 f78_Eb9
  have f81_Eb11 := Exa.wr W81 f78_Eb11
  have f81_Vb11 := Arv.other f78_Vb11 W81 (Ne.symm ne_b9_b11)
  have f81_Eb13 := Exa.wr W81 f78_Eb13
  have f81_Vb13 := Arv.other f78_Vb13 W81 (Ne.symm ne_b9_b13)
  have N81 := Fr.snoc X81 N78 g_b9
  have SZ81 : n0 ≤ h81.size := Nat.le_trans SZ78 (Keep.of_wr W81).1
  have K81 := Keep.wr K78 W81 (Or.inr sz_b9)
  refine Gz.aloadN 144 X81 hx (dd d1_143) rfl rfl rfl ?_
  refine Gz.getF 147 X81 hx hZ hown (dd d1_144) (host := "") (Or.inl (ww hw 31 rfl)) Via.refl e81 f81_F_secondOf_a0 rfl fun T82 X82 e82 => ?_
  refine Gz.iload 149 X82 hx (dd d1_147) rfl rfl ?_
  refine Gz.iload 151 X82 hx (dd d1_149) rfl rfl ?_
  obtain ⟨c83, A83, q83, S83, N83, H83, G83⟩ := id f81_Vb11
  have hin83 : ¬ ((4 : Int32) < 0 ∨ c83.slots.size ≤ ((4 : Int32)).toNatClampNeg) := inb_of S83 ⟨by decide, by decide⟩
  refine Gz.stI 152 X82 hx hZ (dd d1_151) e82 A83 hin83 rfl fun T84 h84 X84 e84 W84 => ?_
  have V84 := Arv.set A83 q83 S83 N83 H83 G83 rfl W84 4 rfl (Nat.le_of_ble_eq_true rfl)
  replace V84 : Arv Z h84 b11 k11 .int (6 : Int32) [(.int (1 : Int32)), (.int (2 : Int32)), (.int (3 : Int32)), (.int (2 : Int32)), (.int (3 : Int32)), (.int (0 : Int32))] (.int (0 : Int32)) := V84
  have f84_E_a0 := Exa.wr W84 f81_E_a0
  have f84_F_valueCounts_a0 := Fld.other W84 f81_F_valueCounts_a0 (Or.inl ne_a0_b11)
  have f84_F_start_a0 := Fld.other W84 f81_F_start_a0 (Or.inl ne_a0_b11)
  have f84_F_firstOf_a0 := Fld.other W84 f81_F_firstOf_a0 (Or.inl ne_a0_b11)
  have f84_F_secondOf_a0 := Fld.other W84 f81_F_secondOf_a0 (Or.inl ne_a0_b11)
  have f84_F_startOf_a0 := Fld.other W84 f81_F_startOf_a0 (Or.inl ne_a0_b11)
  have f84_F_count_a0 := Fld.other W84 f81_F_count_a0 (Or.inl ne_a0_b11)
  have f84_V_a1 := Arv.other f81_V_a1 W84 ne_a1_b11
  have f84_E_a1 := Exa.wr W84 f81_E_a1
  have f84_Eb4 := Exa.wr W84 f81_Eb4
  have f84_Vb4 := Arv.other f81_Vb4 W84 ne_b4_b11
  have f84_Eb7 := Exa.wr W84 f81_Eb7
  have f84_Vb7 := Arv.other f81_Vb7 W84 ne_b7_b11
  have f84_Vb7_0 := Arv.other f81_Vb7_0 W84 ne_b7_0_b11
  have f84_Eb7_0 := Exa.wr W84 f81_Eb7_0
  have f84_Vb7_1 := Arv.other f81_Vb7_1 W84 ne_b7_1_b11
  have f84_Eb7_1 := Exa.wr W84 f81_Eb7_1
  have f84_Vb7_2 := Arv.other f81_Vb7_2 W84 ne_b7_2_b11
  have f84_Eb7_2 := Exa.wr W84 f81_Eb7_2
  have f84_Vb7_3 := Arv.other f81_Vb7_3 W84 ne_b7_3_b11
  have f84_Eb7_3 := Exa.wr W84 f81_Eb7_3
  have f84_Eb9 := Exa.wr W84 f81_Eb9
  have f84_Vb9 := Arv.other V81 W84 ne_b9_b11
  have f84_Eb11 := Exa.wr W84 f81_Eb11
  have f84_Eb13 := Exa.wr W84 f81_Eb13
  have f84_Vb13 := Arv.other f81_Vb13 W84 (Ne.symm ne_b11_b13)
  have N84 := Fr.snoc X84 N81 g_b11
  have SZ84 : n0 ≤ h84.size := Nat.le_trans SZ81 (Keep.of_wr W84).1
  have K84 := Keep.wr K81 W84 (Or.inr sz_b11)
  refine Gz.aloadN 153 X84 hx (dd d1_152) rfl rfl rfl ?_
  refine Gz.getF 156 X84 hx hZ hown (dd d1_153) (host := "") (Or.inl (ww hw 33 rfl)) Via.refl e84 f84_F_startOf_a0 rfl fun T85 X85 e85 => ?_
  refine Gz.iload 158 X85 hx (dd d1_156) rfl rfl ?_
  refine Gz.iload 160 X85 hx (dd d1_158) rfl rfl ?_
  obtain ⟨c86, A86, q86, S86, N86, H86, G86⟩ := id f84_Vb13
  have hin86 : ¬ ((4 : Int32) < 0 ∨ c86.slots.size ≤ ((4 : Int32)).toNatClampNeg) := inb_of S86 ⟨by decide, by decide⟩
  refine Gz.stI 161 X85 hx hZ (dd d1_160) e85 A86 hin86 rfl fun T87 h87 X87 e87 W87 => ?_
  have V87 := Arv.set A86 q86 S86 N86 H86 G86 rfl W87 4 rfl (Nat.le_of_ble_eq_true rfl)
  replace V87 : Arv Z h87 b13 k13 .int (6 : Int32) [(.int (0 : Int32)), (.int ((0 : Int32) + (v0 * v1))), (.int (((0 : Int32) + (v0 * v1)) + (v0 * v2))), (.int ((((0 : Int32) + (v0 * v1)) + (v0 * v2)) + (v0 * v3))), (.int (((((0 : Int32) + (v0 * v1)) + (v0 * v2)) + (v0 * v3)) + (v1 * v2))), (.int (0 : Int32))] (.int (0 : Int32)) := V87
  have f87_E_a0 := Exa.wr W87 f84_E_a0
  have f87_F_valueCounts_a0 := Fld.other W87 f84_F_valueCounts_a0 (Or.inl ne_a0_b13)
  have f87_F_start_a0 := Fld.other W87 f84_F_start_a0 (Or.inl ne_a0_b13)
  have f87_F_firstOf_a0 := Fld.other W87 f84_F_firstOf_a0 (Or.inl ne_a0_b13)
  have f87_F_secondOf_a0 := Fld.other W87 f84_F_secondOf_a0 (Or.inl ne_a0_b13)
  have f87_F_startOf_a0 := Fld.other W87 f84_F_startOf_a0 (Or.inl ne_a0_b13)
  have f87_F_count_a0 := Fld.other W87 f84_F_count_a0 (Or.inl ne_a0_b13)
  have f87_V_a1 := Arv.other f84_V_a1 W87 ne_a1_b13
  have f87_E_a1 := Exa.wr W87 f84_E_a1
  have f87_Eb4 := Exa.wr W87 f84_Eb4
  have f87_Vb4 := Arv.other f84_Vb4 W87 ne_b4_b13
  have f87_Eb7 := Exa.wr W87 f84_Eb7
  have f87_Vb7 := Arv.other f84_Vb7 W87 ne_b7_b13
  have f87_Vb7_0 := Arv.other f84_Vb7_0 W87 ne_b7_0_b13
  have f87_Eb7_0 := Exa.wr W87 f84_Eb7_0
  have f87_Vb7_1 := Arv.other f84_Vb7_1 W87 ne_b7_1_b13
  have f87_Eb7_1 := Exa.wr W87 f84_Eb7_1
  have f87_Vb7_2 := Arv.other f84_Vb7_2 W87 ne_b7_2_b13
  have f87_Eb7_2 := Exa.wr W87 f84_Eb7_2
  have f87_Vb7_3 := Arv.other f84_Vb7_3 W87 ne_b7_3_b13
  have f87_Eb7_3 := Exa.wr W87 f84_Eb7_3
  have f87_Eb9 := Exa.wr W87 f84_Eb9
  have f87_Vb9 := Arv.other f84_Vb9 W87 ne_b9_b13
  have f87_Eb11 := Exa.wr W87 f84_Eb11
  have f87_Vb11 := Arv.other V84 W87 ne_b11_b13
  have f87_Eb13 := Exa.wr W87 f84_Eb13
  have N87 := Fr.snoc X87 N84 g_b13
  have SZ87 : n0 ≤ h87.size := Nat.le_trans SZ84 (Keep.of_wr W87).1
  have K87 := Keep.wr K84 W87 (Or.inr sz_b13)
  refine Gz.iinc 164 #[.val (.ref a0), .val (.ref a1), .val (.long (fC4 a1 v0 v1 v2 v3)), .second, .val (.int (4 : Int32)), .val (.int (6 : Int32)), .val (.int (((((0 : Int32) + (v0 * v1)) + (v0 * v2)) + (v0 * v3)) + (v1 * v2))), .val (.int (5 : Int32)), .val (.int (1 : Int32)), .val (.int (3 : Int32))] X87 hx (dd d1_161) rfl rfl rfl ?_
  refine Gz.iload 166 X87 hx (dd d1_164) rfl rfl ?_
  refine Gz.aloadN 167 X87 hx (dd d1_166) rfl rfl rfl ?_
  refine Gz.iload 169 X87 hx (dd d1_167) rfl rfl ?_
  obtain ⟨c88, A88, q88, S88, N88, H88, G88⟩ := id f87_V_a1
  have hin88 : ¬ ((1 : Int32) < 0 ∨ c88.slots.size ≤ ((1 : Int32)).toNatClampNeg) := inb_of S88 ⟨by decide, by decide⟩
  refine Gz.ldI 170 X87 hx hZ (dd d1_169) e87 A88 hin88 (Has.at H88 hin88 (rfl : _ = ((.int v1) : Value))) rfl ?_
  refine Gz.aloadN 171 X87 hx (dd d1_170) rfl rfl rfl ?_
  refine Gz.iload 173 X87 hx (dd d1_171) rfl rfl ?_
  obtain ⟨c89, A89, q89, S89, N89, H89, G89⟩ := id f87_V_a1
  have hin89 : ¬ ((3 : Int32) < 0 ∨ c89.slots.size ≤ ((3 : Int32)).toNatClampNeg) := inb_of S89 ⟨by decide, by decide⟩
  refine Gz.ldI 174 X87 hx hZ (dd d1_173) e87 A89 hin89 (Has.at H89 hin89 (rfl : _ = ((.int v3) : Value))) rfl ?_
  refine Gz.imul 175 X87 hx (dd d1_174) rfl ?_
  refine Gz.iadd 176 X87 hx (dd d1_175) rfl ?_
  refine Gz.istore 178 #[.val (.ref a0), .val (.ref a1), .val (.long (fC4 a1 v0 v1 v2 v3)), .second, .val (.int (4 : Int32)), .val (.int (6 : Int32)), .val (.int ((((((0 : Int32) + (v0 * v1)) + (v0 * v2)) + (v0 * v3)) + (v1 * v2)) + (v1 * v3))), .val (.int (5 : Int32)), .val (.int (1 : Int32)), .val (.int (3 : Int32))] X87 hx (dd d1_176) rfl rfl ?_
  refine Gz.iinc 181 #[.val (.ref a0), .val (.ref a1), .val (.long (fC4 a1 v0 v1 v2 v3)), .second, .val (.int (4 : Int32)), .val (.int (6 : Int32)), .val (.int ((((((0 : Int32) + (v0 * v1)) + (v0 * v2)) + (v0 * v3)) + (v1 * v2)) + (v1 * v3))), .val (.int (5 : Int32)), .val (.int (1 : Int32)), .val (.int (4 : Int32))] X87 hx (dd d1_178) rfl rfl rfl ?_
  refine Gz.goto 115 X87 hx (dd d1_181) (by decide) (by decide) ?_
  refine Gz.iload 117 X87 hx (dd d1_115) rfl rfl ?_
  refine Gz.iload 119 X87 hx (dd d1_117) rfl rfl ?_
  refine Gz.icmpYes 184 X87 hx (dd d1_119) (flt (by decide : ¬ ((4 : Int32) < (4 : Int32)))).2.1 (by decide) (by decide) ?_
  refine Gz.iinc 187 #[.val (.ref a0), .val (.ref a1), .val (.long (fC4 a1 v0 v1 v2 v3)), .second, .val (.int (4 : Int32)), .val (.int (6 : Int32)), .val (.int ((((((0 : Int32) + (v0 * v1)) + (v0 * v2)) + (v0 * v3)) + (v1 * v2)) + (v1 * v3))), .val (.int (5 : Int32)), .val (.int (2 : Int32)), .val (.int (4 : Int32))] X87 hx (dd d1_184) rfl rfl rfl ?_
  refine Gz.goto 102 X87 hx (dd d1_187) (by decide) (by decide) ?_
  refine Gz.iload 104 X87 hx (dd d1_102) rfl rfl ?_
  refine Gz.iload 106 X87 hx (dd d1_104) rfl rfl ?_
  refine Gz.icmpNo 109 X87 hx (dd d1_106) (tlt (by decide : (2 : Int32) < (4 : Int32))).2.1 rfl ?_
  refine Gz.iload 111 X87 hx (dd d1_109) rfl rfl ?_
  refine Gz.iconst 112 (1 : Int32) X87 hx (dd d1_111) rfl rfl ?_
  refine Gz.iaddV 113 (3 : Int32) X87 hx (dd d1_112) rfl rfl ?_
  refine Gz.istore 115 #[.val (.ref a0), .val (.ref a1), .val (.long (fC4 a1 v0 v1 v2 v3)), .second, .val (.int (4 : Int32)), .val (.int (6 : Int32)), .val (.int ((((((0 : Int32) + (v0 * v1)) + (v0 * v2)) + (v0 * v3)) + (v1 * v2)) + (v1 * v3))), .val (.int (5 : Int32)), .val (.int (2 : Int32)), .val (.int (3 : Int32))] X87 hx (dd d1_113) rfl rfl ?_
  refine Gz.iload 117 X87 hx (dd d1_115) rfl rfl ?_
  refine Gz.iload 119 X87 hx (dd d1_117) rfl rfl ?_
  refine Gz.icmpNo 122 X87 hx (dd d1_119) (tlt (by decide : (3 : Int32) < (4 : Int32))).2.1 rfl ?_
  refine Gz.aloadN 123 X87 hx (dd d1_122) rfl rfl rfl ?_
  refine Gz.getF 126 X87 hx hZ hown (dd d1_123) (host := "") (Or.inl (ww hw 27 rfl)) Via.refl e87 f87_F_start_a0 rfl fun T90 X90 e90 => ?_
  refine Gz.iload 128 X90 hx (dd d1_126) rfl rfl ?_
  obtain ⟨c91, A91, q91, S91, N91, H91, G91⟩ := id f87_Vb7
  have hin91 : ¬ ((2 : Int32) < 0 ∨ c91.slots.size ≤ ((2 : Int32)).toNatClampNeg) := inb_of S91 ⟨by decide, by decide⟩
  refine Gz.ldA 129 X90 hx hZ rfl (dd d1_128) e90 A91 hin91 (Has.at H91 hin91 (rfl : _ = ((.ref b7_2) : Value))) rfl ?_
  refine Gz.iload 131 X90 hx (dd d1_129) rfl rfl ?_
  refine Gz.iload 133 X90 hx (dd d1_131) rfl rfl ?_
  obtain ⟨c92, A92, q92, S92, N92, H92, G92⟩ := id f87_Vb7_2
  have hin92 : ¬ ((3 : Int32) < 0 ∨ c92.slots.size ≤ ((3 : Int32)).toNatClampNeg) := inb_of S92 ⟨by decide, by decide⟩
  refine Gz.stI 134 X90 hx hZ (dd d1_133) e90 A92 hin92 rfl fun T93 h93 X93 e93 W93 => ?_
  have V93 := Arv.set A92 q92 S92 N92 H92 G92 rfl W93 3 rfl (Nat.le_of_ble_eq_true rfl)
  replace V93 : Arv Z h93 b7_2 kr7 .int (4 : Int32) [(.int (0 : Int32)), (.int (0 : Int32)), (.int (0 : Int32)), (.int ((((((0 : Int32) + (v0 * v1)) + (v0 * v2)) + (v0 * v3)) + (v1 * v2)) + (v1 * v3)))] (.int (0 : Int32)) := V93
  have f93_E_a0 := Exa.wr W93 f87_E_a0
  have f93_F_valueCounts_a0 := Fld.other W93 f87_F_valueCounts_a0 (Or.inl ne_a0_b7_2)
  have f93_F_start_a0 := Fld.other W93 f87_F_start_a0 (Or.inl ne_a0_b7_2)
  have f93_F_firstOf_a0 := Fld.other W93 f87_F_firstOf_a0 (Or.inl ne_a0_b7_2)
  have f93_F_secondOf_a0 := Fld.other W93 f87_F_secondOf_a0 (Or.inl ne_a0_b7_2)
  have f93_F_startOf_a0 := Fld.other W93 f87_F_startOf_a0 (Or.inl ne_a0_b7_2)
  have f93_F_count_a0 := Fld.other W93 f87_F_count_a0 (Or.inl ne_a0_b7_2)
  have f93_V_a1 := Arv.other f87_V_a1 W93 ne_a1_b7_2
  have f93_E_a1 := Exa.wr W93 f87_E_a1
  have f93_Eb4 := Exa.wr W93 f87_Eb4
  have f93_Vb4 := Arv.other f87_Vb4 W93 ne_b4_b7_2
  have f93_Eb7 := Exa.wr W93 f87_Eb7
  have f93_Vb7 := Arv.other f87_Vb7 W93 ne_b7_b7_2
  have f93_Vb7_0 := Arv.other f87_Vb7_0 W93 ne_b7_0_b7_2
  have f93_Eb7_0 := Exa.wr W93 f87_Eb7_0
  have f93_Vb7_1 := Arv.other f87_Vb7_1 W93 ne_b7_1_b7_2
  have f93_Eb7_1 := Exa.wr W93 f87_Eb7_1
  have f93_Eb7_2 := Exa.wr W93 f87_Eb7_2
  have f93_Vb7_3 := Arv.other f87_Vb7_3 W93 (Ne.symm ne_b7_2_b7_3)
  have f93_Eb7_3 := Exa.wr W93 f87_Eb7_3
  have f93_Eb9 := Exa.wr W93 f87_Eb9
  have f93_Vb9 := Arv.other f87_Vb9 W93 (Ne.symm ne_b7_2_b9)
  have f93_Eb11 := Exa.wr W93 f87_Eb11
  have f93_Vb11 := Arv.other f87_Vb11 W93 (Ne.symm ne_b7_2_b11)
  have f93_Eb13 := Exa.wr W93 f87_Eb13
  have f93_Vb13 := Arv.other V87 W93 (Ne.symm ne_b7_2_b13)
  have N93 := Fr.snoc X93 N87 g_b7_2
  have SZ93 : n0 ≤ h93.size := Nat.le_trans SZ87 (Keep.of_wr W93).1
  have K93 := Keep.wr K87 W93 (Or.inr sz_b7_2)
  refine Gz.aloadN 135 X93 hx (dd d1_134) rfl rfl rfl ?_
  refine Gz.getF 138 X93 hx hZ hown (dd d1_135) (host := "") (Or.inl (ww hw 29 rfl)) Via.refl e93 f93_F_firstOf_a0 rfl fun T94 X94 e94 => ?_
  refine Gz.iload 140 X94 hx (dd d1_138) rfl rfl ?_
  refine Gz.iload 142 X94 hx (dd d1_140) rfl rfl ?_
  obtain ⟨c95, A95, q95, S95, N95, H95, G95⟩ := id f93_Vb9
  have hin95 : ¬ ((5 : Int32) < 0 ∨ c95.slots.size ≤ ((5 : Int32)).toNatClampNeg) := inb_of S95 ⟨by decide, by decide⟩
  refine Gz.stI 143 X94 hx hZ (dd d1_142) e94 A95 hin95 rfl fun T96 h96 X96 e96 W96 => ?_
  have V96 := Arv.set A95 q95 S95 N95 H95 G95 rfl W96 5 rfl (Nat.le_of_ble_eq_true rfl)
  replace V96 : Arv Z h96 b9 k9 .int (6 : Int32) [(.int (0 : Int32)), (.int (0 : Int32)), (.int (0 : Int32)), (.int (1 : Int32)), (.int (1 : Int32)), (.int (2 : Int32))] (.int (0 : Int32)) := V96
  have f96_E_a0 := Exa.wr W96 f93_E_a0
  have f96_F_valueCounts_a0 := Fld.other W96 f93_F_valueCounts_a0 (Or.inl ne_a0_b9)
  have f96_F_start_a0 := Fld.other W96 f93_F_start_a0 (Or.inl ne_a0_b9)
  have f96_F_firstOf_a0 := Fld.other W96 f93_F_firstOf_a0 (Or.inl ne_a0_b9)
  have f96_F_secondOf_a0 := Fld.other W96 f93_F_secondOf_a0 (Or.inl ne_a0_b9)
  have f96_F_startOf_a0 := Fld.other W96 f93_F_startOf_a0 (Or.inl ne_a0_b9)
  have f96_F_count_a0 := Fld.other W96 f93_F_count_a0 (Or.inl ne_a0_b9)
  have f96_V_a1 := Arv.other f93_V_a1 W96 ne_a1_b9
  have f96_E_a1 := Exa.wr W96 f93_E_a1
  have f96_Eb4 := Exa.wr W96 f93_Eb4
  have f96_Vb4 := Arv.other f93_Vb4 W96 ne_b4_b9
  have f96_Eb7 := Exa.wr W96 f93_Eb7
  have f96_Vb7 := Arv.other f93_Vb7 W96 ne_b7_b9
  have f96_Vb7_0 := Arv.other f93_Vb7_0 W96 ne_b7_0_b9
  have f96_Eb7_0 := Exa.wr W96 f93_Eb7_0
  have f96_Vb7_1 := Arv.other f93_Vb7_1 W96 ne_b7_1_b9
  have f96_Eb7_1 := Exa.wr W96 f93_Eb7_1
  have f96_Vb7_2 := Arv.other V93 W96 ne_b7_2_b9
  have f96_Eb7_2 := Exa.wr W96 f93_Eb7_2
  have f96_Vb7_3 := Arv.other f93_Vb7_3 W96 ne_b7_3_b9
  have f96_Eb7_3 := Exa.wr W96 f93_Eb7_3
  have f96_Eb9 := Exa.wr W96 f93_Eb9
  have f96_Eb11 := Exa.wr W96 f93_Eb11
  have f96_Vb11 := Arv.other f93_Vb11 W96 (Ne.symm ne_b9_b11)
  have f96_Eb13 := Exa.wr W96 f93_Eb13
  have f96_Vb13 := Arv.other f93_Vb13 W96 (Ne.symm ne_b9_b13)
  have N96 := Fr.snoc X96 N93 g_b9
  have SZ96 : n0 ≤ h96.size := Nat.le_trans SZ93 (Keep.of_wr W96).1
  have K96 := Keep.wr K93 W96 (Or.inr sz_b9)
  refine Gz.aloadN 144 X96 hx (dd d1_143) rfl rfl rfl ?_
  refine Gz.getF 147 X96 hx hZ hown (dd d1_144) (host := "") (Or.inl (ww hw 31 rfl)) Via.refl e96 f96_F_secondOf_a0 rfl fun T97 X97 e97 => ?_
  refine Gz.iload 149 X97 hx (dd d1_147) rfl rfl ?_
  refine Gz.iload 151 X97 hx (dd d1_149) rfl rfl ?_
  obtain ⟨c98, A98, q98, S98, N98, H98, G98⟩ := id f96_Vb11
  have hin98 : ¬ ((5 : Int32) < 0 ∨ c98.slots.size ≤ ((5 : Int32)).toNatClampNeg) := inb_of S98 ⟨by decide, by decide⟩
  refine Gz.stI 152 X97 hx hZ (dd d1_151) e97 A98 hin98 rfl fun T99 h99 X99 e99 W99 => ?_
  have V99 := Arv.set A98 q98 S98 N98 H98 G98 rfl W99 5 rfl (Nat.le_of_ble_eq_true rfl)
  replace V99 : Arv Z h99 b11 k11 .int (6 : Int32) [(.int (1 : Int32)), (.int (2 : Int32)), (.int (3 : Int32)), (.int (2 : Int32)), (.int (3 : Int32)), (.int (3 : Int32))] (.int (0 : Int32)) := V99
  have f99_E_a0 := Exa.wr W99 f96_E_a0
  have f99_F_valueCounts_a0 := Fld.other W99 f96_F_valueCounts_a0 (Or.inl ne_a0_b11)
  have f99_F_start_a0 := Fld.other W99 f96_F_start_a0 (Or.inl ne_a0_b11)
  have f99_F_firstOf_a0 := Fld.other W99 f96_F_firstOf_a0 (Or.inl ne_a0_b11)
  have f99_F_secondOf_a0 := Fld.other W99 f96_F_secondOf_a0 (Or.inl ne_a0_b11)
  have f99_F_startOf_a0 := Fld.other W99 f96_F_startOf_a0 (Or.inl ne_a0_b11)
  have f99_F_count_a0 := Fld.other W99 f96_F_count_a0 (Or.inl ne_a0_b11)
  have f99_V_a1 := Arv.other f96_V_a1 W99 ne_a1_b11
  have f99_E_a1 := Exa.wr W99 f96_E_a1
  have f99_Eb4 := Exa.wr W99 f96_Eb4
  have f99_Vb4 := Arv.other f96_Vb4 W99 ne_b4_b11
  have f99_Eb7 := Exa.wr W99 f96_Eb7
  have f99_Vb7 := Arv.other f96_Vb7 W99 ne_b7_b11
  have f99_Vb7_0 := Arv.other f96_Vb7_0 W99 ne_b7_0_b11
  have f99_Eb7_0 := Exa.wr W99 f96_Eb7_0
  have f99_Vb7_1 := Arv.other f96_Vb7_1 W99 ne_b7_1_b11
  have f99_Eb7_1 := Exa.wr W99 f96_Eb7_1
  have f99_Vb7_2 := Arv.other f96_Vb7_2 W99 ne_b7_2_b11
  have f99_Eb7_2 := Exa.wr W99 f96_Eb7_2
  have f99_Vb7_3 := Arv.other f96_Vb7_3 W99 ne_b7_3_b11
  have f99_Eb7_3 := Exa.wr W99 f96_Eb7_3
  have f99_Eb9 := Exa.wr W99 f96_Eb9
  have f99_Vb9 := Arv.other V96 W99 ne_b9_b11
  have f99_Eb11 := Exa.wr W99 f96_Eb11
  have f99_Eb13 := Exa.wr W99 f96_Eb13
  have f99_Vb13 := Arv.other f96_Vb13 W99 (Ne.symm ne_b11_b13)
  have N99 := Fr.snoc X99 N96 g_b11
  have SZ99 : n0 ≤ h99.size := Nat.le_trans SZ96 (Keep.of_wr W99).1
  have K99 := Keep.wr K96 W99 (Or.inr sz_b11)
  refine Gz.aloadN 153 X99 hx (dd d1_152) rfl rfl rfl ?_
  refine Gz.getF 156 X99 hx hZ hown (dd d1_153) (host := "") (Or.inl (ww hw 33 rfl)) Via.refl e99 f99_F_startOf_a0 rfl fun T100 X100 e100 => ?_
  refine Gz.iload 158 X100 hx (dd d1_156) rfl rfl ?_
  refine Gz.iload 160 X100 hx (dd d1_158) rfl rfl ?_
  obtain ⟨c101, A101, q101, S101, N101, H101, G101⟩ := id f99_Vb13
  have hin101 : ¬ ((5 : Int32) < 0 ∨ c101.slots.size ≤ ((5 : Int32)).toNatClampNeg) := inb_of S101 ⟨by decide, by decide⟩
  refine Gz.stI 161 X100 hx hZ (dd d1_160) e100 A101 hin101 rfl fun T102 h102 X102 e102 W102 => ?_
  have V102 := Arv.set A101 q101 S101 N101 H101 G101 rfl W102 5 rfl (Nat.le_of_ble_eq_true rfl)
  replace V102 : Arv Z h102 b13 k13 .int (6 : Int32) [(.int (0 : Int32)), (.int ((0 : Int32) + (v0 * v1))), (.int (((0 : Int32) + (v0 * v1)) + (v0 * v2))), (.int ((((0 : Int32) + (v0 * v1)) + (v0 * v2)) + (v0 * v3))), (.int (((((0 : Int32) + (v0 * v1)) + (v0 * v2)) + (v0 * v3)) + (v1 * v2))), (.int ((((((0 : Int32) + (v0 * v1)) + (v0 * v2)) + (v0 * v3)) + (v1 * v2)) + (v1 * v3)))] (.int (0 : Int32)) := V102
  have f102_E_a0 := Exa.wr W102 f99_E_a0
  have f102_F_valueCounts_a0 := Fld.other W102 f99_F_valueCounts_a0 (Or.inl ne_a0_b13)
  have f102_F_start_a0 := Fld.other W102 f99_F_start_a0 (Or.inl ne_a0_b13)
  have f102_F_firstOf_a0 := Fld.other W102 f99_F_firstOf_a0 (Or.inl ne_a0_b13)
  have f102_F_secondOf_a0 := Fld.other W102 f99_F_secondOf_a0 (Or.inl ne_a0_b13)
  have f102_F_startOf_a0 := Fld.other W102 f99_F_startOf_a0 (Or.inl ne_a0_b13)
  have f102_F_count_a0 := Fld.other W102 f99_F_count_a0 (Or.inl ne_a0_b13)
  have f102_V_a1 := Arv.other f99_V_a1 W102 ne_a1_b13
  have f102_E_a1 := Exa.wr W102 f99_E_a1
  have f102_Eb4 := Exa.wr W102 f99_Eb4
  have f102_Vb4 := Arv.other f99_Vb4 W102 ne_b4_b13
  have f102_Eb7 := Exa.wr W102 f99_Eb7
  have f102_Vb7 := Arv.other f99_Vb7 W102 ne_b7_b13
  have f102_Vb7_0 := Arv.other f99_Vb7_0 W102 ne_b7_0_b13
  have f102_Eb7_0 := Exa.wr W102 f99_Eb7_0
  have f102_Vb7_1 := Arv.other f99_Vb7_1 W102 ne_b7_1_b13
  have f102_Eb7_1 := Exa.wr W102 f99_Eb7_1
  have f102_Vb7_2 := Arv.other f99_Vb7_2 W102 ne_b7_2_b13
  have f102_Eb7_2 := Exa.wr W102 f99_Eb7_2
  have f102_Vb7_3 := Arv.other f99_Vb7_3 W102 ne_b7_3_b13
  have f102_Eb7_3 := Exa.wr W102 f99_Eb7_3
  have f102_Eb9 := Exa.wr W102 f99_Eb9
  have f102_Vb9 := Arv.other f99_Vb9 W102 ne_b9_b13
  have f102_Eb11 := Exa.wr W102 f99_Eb11
  have f102_Vb11 := Arv.other V99 W102 ne_b11_b13
  have f102_Eb13 := Exa.wr W102 f99_Eb13
  have N102 := Fr.snoc X102 N99 g_b13
  have SZ102 : n0 ≤ h102.size := Nat.le_trans SZ99 (Keep.of_wr W102).1
  have K102 := Keep.wr K99 W102 (Or.inr sz_b13)
  refine Gz.iinc 164 #[.val (.ref a0), .val (.ref a1), .val (.long (fC4 a1 v0 v1 v2 v3)), .second, .val (.int (4 : Int32)), .val (.int (6 : Int32)), .val (.int ((((((0 : Int32) + (v0 * v1)) + (v0 * v2)) + (v0 * v3)) + (v1 * v2)) + (v1 * v3))), .val (.int (6 : Int32)), .val (.int (2 : Int32)), .val (.int (3 : Int32))] X102 hx (dd d1_161) rfl rfl rfl ?_
  refine Gz.iload 166 X102 hx (dd d1_164) rfl rfl ?_
  refine Gz.aloadN 167 X102 hx (dd d1_166) rfl rfl rfl ?_
  refine Gz.iload 169 X102 hx (dd d1_167) rfl rfl ?_
  obtain ⟨c103, A103, q103, S103, N103, H103, G103⟩ := id f102_V_a1
  have hin103 : ¬ ((2 : Int32) < 0 ∨ c103.slots.size ≤ ((2 : Int32)).toNatClampNeg) := inb_of S103 ⟨by decide, by decide⟩
  refine Gz.ldI 170 X102 hx hZ (dd d1_169) e102 A103 hin103 (Has.at H103 hin103 (rfl : _ = ((.int v2) : Value))) rfl ?_
  refine Gz.aloadN 171 X102 hx (dd d1_170) rfl rfl rfl ?_
  refine Gz.iload 173 X102 hx (dd d1_171) rfl rfl ?_
  obtain ⟨c104, A104, q104, S104, N104, H104, G104⟩ := id f102_V_a1
  have hin104 : ¬ ((3 : Int32) < 0 ∨ c104.slots.size ≤ ((3 : Int32)).toNatClampNeg) := inb_of S104 ⟨by decide, by decide⟩
  refine Gz.ldI 174 X102 hx hZ (dd d1_173) e102 A104 hin104 (Has.at H104 hin104 (rfl : _ = ((.int v3) : Value))) rfl ?_
  refine Gz.imul 175 X102 hx (dd d1_174) rfl ?_
  refine Gz.iadd 176 X102 hx (dd d1_175) rfl ?_
  refine Gz.istore 178 #[.val (.ref a0), .val (.ref a1), .val (.long (fC4 a1 v0 v1 v2 v3)), .second, .val (.int (4 : Int32)), .val (.int (6 : Int32)), .val (.int (((((((0 : Int32) + (v0 * v1)) + (v0 * v2)) + (v0 * v3)) + (v1 * v2)) + (v1 * v3)) + (v2 * v3))), .val (.int (6 : Int32)), .val (.int (2 : Int32)), .val (.int (3 : Int32))] X102 hx (dd d1_176) rfl rfl ?_
  refine Gz.iinc 181 #[.val (.ref a0), .val (.ref a1), .val (.long (fC4 a1 v0 v1 v2 v3)), .second, .val (.int (4 : Int32)), .val (.int (6 : Int32)), .val (.int (((((((0 : Int32) + (v0 * v1)) + (v0 * v2)) + (v0 * v3)) + (v1 * v2)) + (v1 * v3)) + (v2 * v3))), .val (.int (6 : Int32)), .val (.int (2 : Int32)), .val (.int (4 : Int32))] X102 hx (dd d1_178) rfl rfl rfl ?_
  refine Gz.goto 115 X102 hx (dd d1_181) (by decide) (by decide) ?_
  refine Gz.iload 117 X102 hx (dd d1_115) rfl rfl ?_
  refine Gz.iload 119 X102 hx (dd d1_117) rfl rfl ?_
  refine Gz.icmpYes 184 X102 hx (dd d1_119) (flt (by decide : ¬ ((4 : Int32) < (4 : Int32)))).2.1 (by decide) (by decide) ?_
  refine Gz.iinc 187 #[.val (.ref a0), .val (.ref a1), .val (.long (fC4 a1 v0 v1 v2 v3)), .second, .val (.int (4 : Int32)), .val (.int (6 : Int32)), .val (.int (((((((0 : Int32) + (v0 * v1)) + (v0 * v2)) + (v0 * v3)) + (v1 * v2)) + (v1 * v3)) + (v2 * v3))), .val (.int (6 : Int32)), .val (.int (3 : Int32)), .val (.int (4 : Int32))] X102 hx (dd d1_184) rfl rfl rfl ?_
  refine Gz.goto 102 X102 hx (dd d1_187) (by decide) (by decide) ?_
  refine Gz.iload 104 X102 hx (dd d1_102) rfl rfl ?_
  refine Gz.iload 106 X102 hx (dd d1_104) rfl rfl ?_
  refine Gz.icmpNo 109 X102 hx (dd d1_106) (tlt (by decide : (3 : Int32) < (4 : Int32))).2.1 rfl ?_
  refine Gz.iload 111 X102 hx (dd d1_109) rfl rfl ?_
  refine Gz.iconst 112 (1 : Int32) X102 hx (dd d1_111) rfl rfl ?_
  refine Gz.iaddV 113 (4 : Int32) X102 hx (dd d1_112) rfl rfl ?_
  refine Gz.istore 115 #[.val (.ref a0), .val (.ref a1), .val (.long (fC4 a1 v0 v1 v2 v3)), .second, .val (.int (4 : Int32)), .val (.int (6 : Int32)), .val (.int (((((((0 : Int32) + (v0 * v1)) + (v0 * v2)) + (v0 * v3)) + (v1 * v2)) + (v1 * v3)) + (v2 * v3))), .val (.int (6 : Int32)), .val (.int (3 : Int32)), .val (.int (4 : Int32))] X102 hx (dd d1_113) rfl rfl ?_
  refine Gz.iload 117 X102 hx (dd d1_115) rfl rfl ?_
  refine Gz.iload 119 X102 hx (dd d1_117) rfl rfl ?_
  refine Gz.icmpYes 184 X102 hx (dd d1_119) (flt (by decide : ¬ ((4 : Int32) < (4 : Int32)))).2.1 (by decide) (by decide) ?_
  refine Gz.iinc 187 #[.val (.ref a0), .val (.ref a1), .val (.long (fC4 a1 v0 v1 v2 v3)), .second, .val (.int (4 : Int32)), .val (.int (6 : Int32)), .val (.int (((((((0 : Int32) + (v0 * v1)) + (v0 * v2)) + (v0 * v3)) + (v1 * v2)) + (v1 * v3)) + (v2 * v3))), .val (.int (6 : Int32)), .val (.int (4 : Int32)), .val (.int (4 : Int32))] X102 hx (dd d1_184) rfl rfl rfl ?_
  refine Gz.goto 102 X102 hx (dd d1_187) (by decide) (by decide) ?_
  refine Gz.iload 104 X102 hx (dd d1_102) rfl rfl ?_
  refine Gz.iload 106 X102 hx (dd d1_104) rfl rfl ?_
  refine Gz.icmpYes 190 X102 hx (dd d1_106) (flt (by decide : ¬ ((4 : Int32) < (4 : Int32)))).2.1 (by decide) (by decide) ?_
  refine Gz.aloadN 191 X102 hx (dd d1_190) rfl rfl rfl ?_
  refine Gz.iload 193 X102 hx (dd d1_191) rfl rfl ?_
  refine Gz.putF 196 X102 hx hZ hown .int (dd d1_193) (host := "") (Or.inl (ww hw 35 rfl)) Via.refl e102 f102_F_count_a0 f102_E_a0 (Or.inr ⟨(ww hw 36 rfl), rfl, hnm⟩) (ww hw 2 rfl) (by decide) rfl rfl rfl fun T105 h105 X105 e105 W105 => ?_
  have f105_E_a0 := Exa.wr W105 f102_E_a0
  have f105_F_valueCounts_a0 := Fld.other W105 f102_F_valueCounts_a0 (Or.inr (slot_ne (Or.inr (ww hw 24 rfl)) (Or.inr (ww hw 36 rfl)) (by decide) (t := (.array .int)) (t' := .int) (by decide) (by decide)))
  have f105_F_start_a0 := Fld.other W105 f102_F_start_a0 (Or.inr (slot_ne (Or.inr (ww hw 28 rfl)) (Or.inr (ww hw 36 rfl)) (by decide) (t := (.array (.array .int))) (t' := .int) (by decide) (by decide)))
  have f105_F_firstOf_a0 := Fld.other W105 f102_F_firstOf_a0 (Or.inr (slot_ne (Or.inr (ww hw 30 rfl)) (Or.inr (ww hw 36 rfl)) (by decide) (t := (.array .int)) (t' := .int) (by decide) (by decide)))
  have f105_F_secondOf_a0 := Fld.other W105 f102_F_secondOf_a0 (Or.inr (slot_ne (Or.inr (ww hw 32 rfl)) (Or.inr (ww hw 36 rfl)) (by decide) (t := (.array .int)) (t' := .int) (by decide) (by decide)))
  have f105_F_startOf_a0 := Fld.other W105 f102_F_startOf_a0 (Or.inr (slot_ne (Or.inr (ww hw 34 rfl)) (Or.inr (ww hw 36 rfl)) (by decide) (t := (.array .int)) (t' := .int) (by decide) (by decide)))
  have f105_V_a1 := Arv.other f102_V_a1 W105 ne_a1_a0
  have f105_E_a1 := Exa.wr W105 f102_E_a1
  have f105_Eb4 := Exa.wr W105 f102_Eb4
  have f105_Vb4 := Arv.other f102_Vb4 W105 (Ne.symm ne_a0_b4)
  have f105_Eb7 := Exa.wr W105 f102_Eb7
  have f105_Vb7 := Arv.other f102_Vb7 W105 (Ne.symm ne_a0_b7)
  have f105_Vb7_0 := Arv.other f102_Vb7_0 W105 (Ne.symm ne_a0_b7_0)
  have f105_Eb7_0 := Exa.wr W105 f102_Eb7_0
  have f105_Vb7_1 := Arv.other f102_Vb7_1 W105 (Ne.symm ne_a0_b7_1)
  have f105_Eb7_1 := Exa.wr W105 f102_Eb7_1
  have f105_Vb7_2 := Arv.other f102_Vb7_2 W105 (Ne.symm ne_a0_b7_2)
  have f105_Eb7_2 := Exa.wr W105 f102_Eb7_2
  have f105_Vb7_3 := Arv.other f102_Vb7_3 W105 (Ne.symm ne_a0_b7_3)
  have f105_Eb7_3 := Exa.wr W105 f102_Eb7_3
  have f105_Eb9 := Exa.wr W105 f102_Eb9
  have f105_Vb9 := Arv.other f102_Vb9 W105 (Ne.symm ne_a0_b9)
  have f105_Eb11 := Exa.wr W105 f102_Eb11
  have f105_Vb11 := Arv.other f102_Vb11 W105 (Ne.symm ne_a0_b11)
  have f105_Eb13 := Exa.wr W105 f102_Eb13
  have f105_Vb13 := Arv.other V102 W105 (Ne.symm ne_a0_b13)
  have f105_F_count_a0 := Fld.same W105 f102_F_count_a0
  have N105 := Fr.snoc X105 N102 g_a0
  have SZ105 : n0 ≤ h105.size := Nat.le_trans SZ102 (Keep.of_wr W105).1
  have K105 := Keep.wr K102 W105 (Or.inl (List.mem_of_getElem? (i := 0) rfl))
  refine Gz.fin X105 (v := none) (fun _ => rfl) hlk (by decide) (by decide) (fun fs hr => X105.returnOut hx hret (dd d1_196) hr) ?_
  rw [e105]
  exact ⟨rfl, N105, K105, f105_E_a0, b4, k_a1, b7, k7, b7_0, b7_1, b7_2, b7_3, kr7, f105_F_valueCounts_a0, f105_Vb4, f105_F_start_a0, f105_Vb7, f105_Vb7_0, f105_Vb7_1, f105_Vb7_2, f105_Vb7_3⟩
theorem d7_0 : decode prog_43_method_8_code 0 = .ok (.iload_n 1, 1) := by decide +kernel
theorem d7_1 : decode prog_43_method_8_code 1 = .ok (.iload_n 3, 1) := by decide +kernel
theorem d7_2 : decode prog_43_method_8_code 2 = .ok (.if_icmp .ge 26, 3) := by decide +kernel
theorem d7_5 : decode prog_43_method_8_code 5 = .ok (.aload_n 0, 1) := by decide +kernel
theorem d7_6 : decode prog_43_method_8_code 6 = .ok (.getfield 37, 3) := by decide +kernel
theorem d7_9 : decode prog_43_method_8_code 9 = .ok (.iload_n 1, 1) := by decide +kernel
theorem d7_10 : decode prog_43_method_8_code 10 = .ok (.aaload, 1) := by decide +kernel
theorem d7_11 : decode prog_43_method_8_code 11 = .ok (.iload_n 3, 1) := by decide +kernel
theorem d7_12 : decode prog_43_method_8_code 12 = .ok (.iaload, 1) := by decide +kernel
theorem d7_13 : decode prog_43_method_8_code 13 = .ok (.iload_n 2, 1) := by decide +kernel
theorem d7_14 : decode prog_43_method_8_code 14 = .ok (.aload_n 0, 1) := by decide +kernel
theorem d7_15 : decode prog_43_method_8_code 15 = .ok (.getfield 32, 3) := by decide +kernel
theorem d7_18 : decode prog_43_method_8_code 18 = .ok (.iload_n 3, 1) := by decide +kernel
theorem d7_19 : decode prog_43_method_8_code 19 = .ok (.iaload, 1) := by decide +kernel
theorem d7_20 : decode prog_43_method_8_code 20 = .ok (.imul, 1) := by decide +kernel
theorem d7_21 : decode prog_43_method_8_code 21 = .ok (.iadd, 1) := by decide +kernel
theorem d7_22 : decode prog_43_method_8_code 22 = .ok (.iload 4, 2) := by decide +kernel
theorem d7_24 : decode prog_43_method_8_code 24 = .ok (.iadd, 1) := by decide +kernel
theorem d7_25 : decode prog_43_method_8_code 25 = .ok (.goto 23, 3) := by decide +kernel
theorem d7_48 : decode prog_43_method_8_code 48 = .ok (.ireturn, 1) := by decide +kernel
theorem ef_rmX01 (m : MethodId) (a0 : Addr) (p2 : Int32) (p4 : Int32) : entryFrame m #[(.ref a0), (.int (0 : Int32)), (.int p2), (.int (1 : Int32)), (.int p4)] 5 = mkF m 0 #[.val (.ref a0), .val (.int (0 : Int32)), .val (.int p2), .val (.int (1 : Int32)), .val (.int p4)] [] := by first | (simp [entryFrame, mkF, argsToLocals, Value.category]; done) | rfl
def fX01 (a0 : Addr) (p2 : Int32) (p4 : Int32) (so : Addr) (ro0 : Addr) (ro1 : Addr) (ro2 : Addr) (ro3 : Addr) (s0 : Int32) (s1 : Int32) (s2 : Int32) (s3 : Int32) (ac : Addr) (v0 : Int32) (v1 : Int32) (v2 : Int32) (v3 : Int32) : Int32 := ((s1 + (p2 * v1)) + p4)
def Q_rmX01 (Z : State) (a0 : Addr) (p2 : Int32) (p4 : Int32) (so : Addr) (k_so : ClassId) (ro0 : Addr) (ro1 : Addr) (ro2 : Addr) (ro3 : Addr) (k_ro0 : ClassId) (s0 : Int32) (s1 : Int32) (s2 : Int32) (s3 : Int32) (ac : Addr) (k_ac : ClassId) (v0 : Int32) (v1 : Int32) (v2 : Int32) (v3 : Int32) (h0 : Heap) (n0 : Nat) (v : Option Value) (h : Heap) (L : List Loc) : Prop := v = some (.int (fX01 a0 p2 p4 so ro0 ro1 ro2 ro3 s0 s1 s2 s3 ac v0 v1 v2 v3)) ∧ Fr n0 L ∧ h = h0
set_option maxRecDepth 65536 in
set_option maxHeartbeats 40000000 in
theorem rmX01 (l : Launch) (Z : State) (av0 : Array Value) (hw : ∀ d ∈ tables_1, d.before av0 Z = true) (ws : List Jvm.Cond) (a0 : Addr) (p2 : Int32) (p4 : Int32) (so : Addr) (k_so : ClassId) (ro0 : Addr) (ro1 : Addr) (ro2 : Addr) (ro3 : Addr) (k_ro0 : ClassId) (s0 : Int32) (s1 : Int32) (s2 : Int32) (s3 : Int32) (ac : Addr) (k_ac : ClassId) (v0 : Int32) (v1 : Int32) (v2 : Int32) (v3 : Int32) (h0 : Heap) (n0 : Nat) (Z0 : n0 ≤ h0.size) (F_start_a0 : Fld Z h0 a0 "com/example/minsuite/minsuite/ValuePairs" "start" "[[I" (.ref so)) (V_so : Arv Z h0 so k_so (.array .int) (4 : Int32) [(.ref ro0), (.ref ro1), (.ref ro2), (.ref ro3)] .null) (V_ro0 : Arv Z h0 ro0 k_ro0 .int (4 : Int32) [(.int s0), (.int s1), (.int s2), (.int s3)] (.int (0 : Int32))) (F_valueCounts_a0 : Fld Z h0 a0 "com/example/minsuite/minsuite/ValuePairs" "valueCounts" "[I" (.ref ac)) (V_ac : Arv Z h0 ac k_ac .int (4 : Int32) [(.int v0), (.int v1), (.int v2), (.int v3)] (.int (0 : Int32))) :
    MetFree l (⟨"com/example/minsuite/minsuite/ValuePairs", "index", "(IIII)I"⟩ : MethodName) (head1 (Jvm.Cond.code (⟨"com/example/minsuite/minsuite/ValuePairs", "index", "(IIII)I"⟩ : MethodName) prog_43_method_8_code 5 (some .int) :: ws) ({ frames := 0, cells := 0, slots := 0, locals := 0 } : Room)) (fun a U => a = #[(.ref a0), (.int (0 : Int32)), (.int p2), (.int (1 : Int32)), (.int p4)] ∧ Z.Warmed39 U.vm ∧ U.heap = h0) (fun _ _ _ _ _ => True) (fun _ U o U' => ∃ v L, o = .returned v ∧ Q_rmX01 Z a0 p2 p4 so k_so ro0 ro1 ro2 ro3 k_ro0 s0 s1 s2 s3 ac k_ac v0 v1 v2 v3 h0 n0 v U'.heap L ∧ FrameEnd U o U' L ({ frames := 0, cells := 0, slots := 0, locals := 0 } : Room).cells ({ frames := 0, cells := 0, slots := 0, locals := 0 } : Room).slots) := by
  refine MetFree.of_bodySF (plainFor_of_name pn_1) hisR ?_
  intro p e s m args below meth c s₁ Bd hml0 hP hK
  obtain ⟨rfl, hZ, hh⟩ := hP
  have hx := Bd.exec
  have hby := Bd.bytes
  have hml : c.maxLocals = 5 := hml0
  have dd : ∀ {pc : Nat} {r : Except DecodeError (Instr × Nat)}, decode prog_43_method_8_code pc = r → decode c.code pc = r := fun q => hb hby q
  have hown : s.vm.findClass "com/example/minsuite/minsuite/ValuePairs" = some m.cls := findClass_of_methodNamed Bd.named
  have hnm := (name_of_methodNamed Bd.named Bd.method).1
  have X0 : Stand p l e ({ frames := 0, cells := 0, slots := 0, locals := 0 } : Room) s m #[(.ref a0), (.int (0 : Int32)), (.int p2), (.int (1 : Int32)), (.int p4)] below meth c s₁ [] 0 0 := Stand.of_body Bd
  have e0 : s₁.heap = h0 := by rw [← hh, Bd.state]; rfl
  have N0 := Fr.nil n0
  have hret := Bd.returns
  have hlk := Bd.notSynchronized
  show Gz p e below s ({ frames := 0, cells := 0, slots := 0, locals := 0 } : Room).cells ({ frames := 0, cells := 0, slots := 0, locals := 0 } : Room).slots (Q_rmX01 Z a0 p2 p4 so k_so ro0 ro1 ro2 ro3 k_ro0 s0 s1 s2 s3 ac k_ac v0 v1 v2 v3 h0 n0) (s₁.setTop (entryFrame m #[(.ref a0), (.int (0 : Int32)), (.int p2), (.int (1 : Int32)), (.int p4)] 5))
  refine Gz.enter (ef_rmX01 m a0 p2 p4) ?_
  refine Gz.iloadN 1 X0 hx (dd d7_0) rfl rfl ?_
  refine Gz.iloadN 2 X0 hx (dd d7_1) rfl rfl ?_
  refine Gz.icmpNo 5 X0 hx (dd d7_2) (tlt (by decide : (0 : Int32) < (1 : Int32))).2.1 rfl ?_
  refine Gz.aloadN 6 X0 hx (dd d7_5) rfl rfl rfl ?_
  refine Gz.getF 9 X0 hx hZ hown (dd d7_6) (host := "") (Or.inl (ww hw 27 rfl)) Via.refl e0 F_start_a0 rfl fun T1 X1 e1 => ?_
  refine Gz.iloadN 10 X1 hx (dd d7_9) rfl rfl ?_
  obtain ⟨c2, A2, q2, S2, N2, H2, G2⟩ := id V_so
  have hin2 : ¬ ((0 : Int32) < 0 ∨ c2.slots.size ≤ ((0 : Int32)).toNatClampNeg) := inb_of S2 ⟨by decide, by decide⟩
  refine Gz.ldA 11 X1 hx hZ rfl (dd d7_10) e1 A2 hin2 (Has.at H2 hin2 (rfl : _ = ((.ref ro0) : Value))) rfl ?_
  refine Gz.iloadN 12 X1 hx (dd d7_11) rfl rfl ?_
  obtain ⟨c3, A3, q3, S3, N3, H3, G3⟩ := id V_ro0
  have hin3 : ¬ ((1 : Int32) < 0 ∨ c3.slots.size ≤ ((1 : Int32)).toNatClampNeg) := inb_of S3 ⟨by decide, by decide⟩
  refine Gz.ldI 13 X1 hx hZ (dd d7_12) e1 A3 hin3 (Has.at H3 hin3 (rfl : _ = ((.int s1) : Value))) rfl ?_
  refine Gz.iloadN 14 X1 hx (dd d7_13) rfl rfl ?_
  refine Gz.aloadN 15 X1 hx (dd d7_14) rfl rfl rfl ?_
  refine Gz.getF 18 X1 hx hZ hown (dd d7_15) (host := "") (Or.inl (ww hw 23 rfl)) Via.refl e1 F_valueCounts_a0 rfl fun T4 X4 e4 => ?_
  refine Gz.iloadN 19 X4 hx (dd d7_18) rfl rfl ?_
  obtain ⟨c5, A5, q5, S5, N5, H5, G5⟩ := id V_ac
  have hin5 : ¬ ((1 : Int32) < 0 ∨ c5.slots.size ≤ ((1 : Int32)).toNatClampNeg) := inb_of S5 ⟨by decide, by decide⟩
  refine Gz.ldI 20 X4 hx hZ (dd d7_19) e4 A5 hin5 (Has.at H5 hin5 (rfl : _ = ((.int v1) : Value))) rfl ?_
  refine Gz.imul 21 X4 hx (dd d7_20) rfl ?_
  refine Gz.iadd 22 X4 hx (dd d7_21) rfl ?_
  refine Gz.iload 24 X4 hx (dd d7_22) rfl rfl ?_
  refine Gz.iadd 25 X4 hx (dd d7_24) rfl ?_
  refine Gz.goto 48 X4 hx (dd d7_25) (by decide) (by decide) ?_
  refine Gz.fin X4 (v := some (.int ((s1 + (p2 * v1)) + p4))) (fun h => by rw [hret] at h; cases h) hlk (by decide) (by decide) (fun fs hr => retI X4 hx hret (dd d7_48) hr) ?_
  rw [e4]
  exact ⟨rfl, N0, rfl⟩
theorem ef_rmX02 (m : MethodId) (a0 : Addr) (p2 : Int32) (p4 : Int32) : entryFrame m #[(.ref a0), (.int (0 : Int32)), (.int p2), (.int (2 : Int32)), (.int p4)] 5 = mkF m 0 #[.val (.ref a0), .val (.int (0 : Int32)), .val (.int p2), .val (.int (2 : Int32)), .val (.int p4)] [] := by first | (simp [entryFrame, mkF, argsToLocals, Value.category]; done) | rfl
def fX02 (a0 : Addr) (p2 : Int32) (p4 : Int32) (so : Addr) (ro0 : Addr) (ro1 : Addr) (ro2 : Addr) (ro3 : Addr) (s0 : Int32) (s1 : Int32) (s2 : Int32) (s3 : Int32) (ac : Addr) (v0 : Int32) (v1 : Int32) (v2 : Int32) (v3 : Int32) : Int32 := ((s2 + (p2 * v2)) + p4)
def Q_rmX02 (Z : State) (a0 : Addr) (p2 : Int32) (p4 : Int32) (so : Addr) (k_so : ClassId) (ro0 : Addr) (ro1 : Addr) (ro2 : Addr) (ro3 : Addr) (k_ro0 : ClassId) (s0 : Int32) (s1 : Int32) (s2 : Int32) (s3 : Int32) (ac : Addr) (k_ac : ClassId) (v0 : Int32) (v1 : Int32) (v2 : Int32) (v3 : Int32) (h0 : Heap) (n0 : Nat) (v : Option Value) (h : Heap) (L : List Loc) : Prop := v = some (.int (fX02 a0 p2 p4 so ro0 ro1 ro2 ro3 s0 s1 s2 s3 ac v0 v1 v2 v3)) ∧ Fr n0 L ∧ h = h0
set_option maxRecDepth 65536 in
set_option maxHeartbeats 40000000 in
theorem rmX02 (l : Launch) (Z : State) (av0 : Array Value) (hw : ∀ d ∈ tables_1, d.before av0 Z = true) (ws : List Jvm.Cond) (a0 : Addr) (p2 : Int32) (p4 : Int32) (so : Addr) (k_so : ClassId) (ro0 : Addr) (ro1 : Addr) (ro2 : Addr) (ro3 : Addr) (k_ro0 : ClassId) (s0 : Int32) (s1 : Int32) (s2 : Int32) (s3 : Int32) (ac : Addr) (k_ac : ClassId) (v0 : Int32) (v1 : Int32) (v2 : Int32) (v3 : Int32) (h0 : Heap) (n0 : Nat) (Z0 : n0 ≤ h0.size) (F_start_a0 : Fld Z h0 a0 "com/example/minsuite/minsuite/ValuePairs" "start" "[[I" (.ref so)) (V_so : Arv Z h0 so k_so (.array .int) (4 : Int32) [(.ref ro0), (.ref ro1), (.ref ro2), (.ref ro3)] .null) (V_ro0 : Arv Z h0 ro0 k_ro0 .int (4 : Int32) [(.int s0), (.int s1), (.int s2), (.int s3)] (.int (0 : Int32))) (F_valueCounts_a0 : Fld Z h0 a0 "com/example/minsuite/minsuite/ValuePairs" "valueCounts" "[I" (.ref ac)) (V_ac : Arv Z h0 ac k_ac .int (4 : Int32) [(.int v0), (.int v1), (.int v2), (.int v3)] (.int (0 : Int32))) :
    MetFree l (⟨"com/example/minsuite/minsuite/ValuePairs", "index", "(IIII)I"⟩ : MethodName) (head1 (Jvm.Cond.code (⟨"com/example/minsuite/minsuite/ValuePairs", "index", "(IIII)I"⟩ : MethodName) prog_43_method_8_code 5 (some .int) :: ws) ({ frames := 0, cells := 0, slots := 0, locals := 0 } : Room)) (fun a U => a = #[(.ref a0), (.int (0 : Int32)), (.int p2), (.int (2 : Int32)), (.int p4)] ∧ Z.Warmed39 U.vm ∧ U.heap = h0) (fun _ _ _ _ _ => True) (fun _ U o U' => ∃ v L, o = .returned v ∧ Q_rmX02 Z a0 p2 p4 so k_so ro0 ro1 ro2 ro3 k_ro0 s0 s1 s2 s3 ac k_ac v0 v1 v2 v3 h0 n0 v U'.heap L ∧ FrameEnd U o U' L ({ frames := 0, cells := 0, slots := 0, locals := 0 } : Room).cells ({ frames := 0, cells := 0, slots := 0, locals := 0 } : Room).slots) := by
  refine MetFree.of_bodySF (plainFor_of_name pn_1) hisR ?_
  intro p e s m args below meth c s₁ Bd hml0 hP hK
  obtain ⟨rfl, hZ, hh⟩ := hP
  have hx := Bd.exec
  have hby := Bd.bytes
  have hml : c.maxLocals = 5 := hml0
  have dd : ∀ {pc : Nat} {r : Except DecodeError (Instr × Nat)}, decode prog_43_method_8_code pc = r → decode c.code pc = r := fun q => hb hby q
  have hown : s.vm.findClass "com/example/minsuite/minsuite/ValuePairs" = some m.cls := findClass_of_methodNamed Bd.named
  have hnm := (name_of_methodNamed Bd.named Bd.method).1
  have X0 : Stand p l e ({ frames := 0, cells := 0, slots := 0, locals := 0 } : Room) s m #[(.ref a0), (.int (0 : Int32)), (.int p2), (.int (2 : Int32)), (.int p4)] below meth c s₁ [] 0 0 := Stand.of_body Bd
  have e0 : s₁.heap = h0 := by rw [← hh, Bd.state]; rfl
  have N0 := Fr.nil n0
  have hret := Bd.returns
  have hlk := Bd.notSynchronized
  show Gz p e below s ({ frames := 0, cells := 0, slots := 0, locals := 0 } : Room).cells ({ frames := 0, cells := 0, slots := 0, locals := 0 } : Room).slots (Q_rmX02 Z a0 p2 p4 so k_so ro0 ro1 ro2 ro3 k_ro0 s0 s1 s2 s3 ac k_ac v0 v1 v2 v3 h0 n0) (s₁.setTop (entryFrame m #[(.ref a0), (.int (0 : Int32)), (.int p2), (.int (2 : Int32)), (.int p4)] 5))
  refine Gz.enter (ef_rmX02 m a0 p2 p4) ?_
  refine Gz.iloadN 1 X0 hx (dd d7_0) rfl rfl ?_
  refine Gz.iloadN 2 X0 hx (dd d7_1) rfl rfl ?_
  refine Gz.icmpNo 5 X0 hx (dd d7_2) (tlt (by decide : (0 : Int32) < (2 : Int32))).2.1 rfl ?_
  refine Gz.aloadN 6 X0 hx (dd d7_5) rfl rfl rfl ?_
  refine Gz.getF 9 X0 hx hZ hown (dd d7_6) (host := "") (Or.inl (ww hw 27 rfl)) Via.refl e0 F_start_a0 rfl fun T1 X1 e1 => ?_
  refine Gz.iloadN 10 X1 hx (dd d7_9) rfl rfl ?_
  obtain ⟨c2, A2, q2, S2, N2, H2, G2⟩ := id V_so
  have hin2 : ¬ ((0 : Int32) < 0 ∨ c2.slots.size ≤ ((0 : Int32)).toNatClampNeg) := inb_of S2 ⟨by decide, by decide⟩
  refine Gz.ldA 11 X1 hx hZ rfl (dd d7_10) e1 A2 hin2 (Has.at H2 hin2 (rfl : _ = ((.ref ro0) : Value))) rfl ?_
  refine Gz.iloadN 12 X1 hx (dd d7_11) rfl rfl ?_
  obtain ⟨c3, A3, q3, S3, N3, H3, G3⟩ := id V_ro0
  have hin3 : ¬ ((2 : Int32) < 0 ∨ c3.slots.size ≤ ((2 : Int32)).toNatClampNeg) := inb_of S3 ⟨by decide, by decide⟩
  refine Gz.ldI 13 X1 hx hZ (dd d7_12) e1 A3 hin3 (Has.at H3 hin3 (rfl : _ = ((.int s2) : Value))) rfl ?_
  refine Gz.iloadN 14 X1 hx (dd d7_13) rfl rfl ?_
  refine Gz.aloadN 15 X1 hx (dd d7_14) rfl rfl rfl ?_
  refine Gz.getF 18 X1 hx hZ hown (dd d7_15) (host := "") (Or.inl (ww hw 23 rfl)) Via.refl e1 F_valueCounts_a0 rfl fun T4 X4 e4 => ?_
  refine Gz.iloadN 19 X4 hx (dd d7_18) rfl rfl ?_
  obtain ⟨c5, A5, q5, S5, N5, H5, G5⟩ := id V_ac
  have hin5 : ¬ ((2 : Int32) < 0 ∨ c5.slots.size ≤ ((2 : Int32)).toNatClampNeg) := inb_of S5 ⟨by decide, by decide⟩
  refine Gz.ldI 20 X4 hx hZ (dd d7_19) e4 A5 hin5 (Has.at H5 hin5 (rfl : _ = ((.int v2) : Value))) rfl ?_
  refine Gz.imul 21 X4 hx (dd d7_20) rfl ?_
  refine Gz.iadd 22 X4 hx (dd d7_21) rfl ?_
  refine Gz.iload 24 X4 hx (dd d7_22) rfl rfl ?_
  refine Gz.iadd 25 X4 hx (dd d7_24) rfl ?_
  refine Gz.goto 48 X4 hx (dd d7_25) (by decide) (by decide) ?_
  refine Gz.fin X4 (v := some (.int ((s2 + (p2 * v2)) + p4))) (fun h => by rw [hret] at h; cases h) hlk (by decide) (by decide) (fun fs hr => retI X4 hx hret (dd d7_48) hr) ?_
  rw [e4]
  exact ⟨rfl, N0, rfl⟩
theorem ef_rmX03 (m : MethodId) (a0 : Addr) (p2 : Int32) (p4 : Int32) : entryFrame m #[(.ref a0), (.int (0 : Int32)), (.int p2), (.int (3 : Int32)), (.int p4)] 5 = mkF m 0 #[.val (.ref a0), .val (.int (0 : Int32)), .val (.int p2), .val (.int (3 : Int32)), .val (.int p4)] [] := by first | (simp [entryFrame, mkF, argsToLocals, Value.category]; done) | rfl
def fX03 (a0 : Addr) (p2 : Int32) (p4 : Int32) (so : Addr) (ro0 : Addr) (ro1 : Addr) (ro2 : Addr) (ro3 : Addr) (s0 : Int32) (s1 : Int32) (s2 : Int32) (s3 : Int32) (ac : Addr) (v0 : Int32) (v1 : Int32) (v2 : Int32) (v3 : Int32) : Int32 := ((s3 + (p2 * v3)) + p4)
def Q_rmX03 (Z : State) (a0 : Addr) (p2 : Int32) (p4 : Int32) (so : Addr) (k_so : ClassId) (ro0 : Addr) (ro1 : Addr) (ro2 : Addr) (ro3 : Addr) (k_ro0 : ClassId) (s0 : Int32) (s1 : Int32) (s2 : Int32) (s3 : Int32) (ac : Addr) (k_ac : ClassId) (v0 : Int32) (v1 : Int32) (v2 : Int32) (v3 : Int32) (h0 : Heap) (n0 : Nat) (v : Option Value) (h : Heap) (L : List Loc) : Prop := v = some (.int (fX03 a0 p2 p4 so ro0 ro1 ro2 ro3 s0 s1 s2 s3 ac v0 v1 v2 v3)) ∧ Fr n0 L ∧ h = h0
set_option maxRecDepth 65536 in
set_option maxHeartbeats 40000000 in
theorem rmX03 (l : Launch) (Z : State) (av0 : Array Value) (hw : ∀ d ∈ tables_1, d.before av0 Z = true) (ws : List Jvm.Cond) (a0 : Addr) (p2 : Int32) (p4 : Int32) (so : Addr) (k_so : ClassId) (ro0 : Addr) (ro1 : Addr) (ro2 : Addr) (ro3 : Addr) (k_ro0 : ClassId) (s0 : Int32) (s1 : Int32) (s2 : Int32) (s3 : Int32) (ac : Addr) (k_ac : ClassId) (v0 : Int32) (v1 : Int32) (v2 : Int32) (v3 : Int32) (h0 : Heap) (n0 : Nat) (Z0 : n0 ≤ h0.size) (F_start_a0 : Fld Z h0 a0 "com/example/minsuite/minsuite/ValuePairs" "start" "[[I" (.ref so)) (V_so : Arv Z h0 so k_so (.array .int) (4 : Int32) [(.ref ro0), (.ref ro1), (.ref ro2), (.ref ro3)] .null) (V_ro0 : Arv Z h0 ro0 k_ro0 .int (4 : Int32) [(.int s0), (.int s1), (.int s2), (.int s3)] (.int (0 : Int32))) (F_valueCounts_a0 : Fld Z h0 a0 "com/example/minsuite/minsuite/ValuePairs" "valueCounts" "[I" (.ref ac)) (V_ac : Arv Z h0 ac k_ac .int (4 : Int32) [(.int v0), (.int v1), (.int v2), (.int v3)] (.int (0 : Int32))) :
    MetFree l (⟨"com/example/minsuite/minsuite/ValuePairs", "index", "(IIII)I"⟩ : MethodName) (head1 (Jvm.Cond.code (⟨"com/example/minsuite/minsuite/ValuePairs", "index", "(IIII)I"⟩ : MethodName) prog_43_method_8_code 5 (some .int) :: ws) ({ frames := 0, cells := 0, slots := 0, locals := 0 } : Room)) (fun a U => a = #[(.ref a0), (.int (0 : Int32)), (.int p2), (.int (3 : Int32)), (.int p4)] ∧ Z.Warmed39 U.vm ∧ U.heap = h0) (fun _ _ _ _ _ => True) (fun _ U o U' => ∃ v L, o = .returned v ∧ Q_rmX03 Z a0 p2 p4 so k_so ro0 ro1 ro2 ro3 k_ro0 s0 s1 s2 s3 ac k_ac v0 v1 v2 v3 h0 n0 v U'.heap L ∧ FrameEnd U o U' L ({ frames := 0, cells := 0, slots := 0, locals := 0 } : Room).cells ({ frames := 0, cells := 0, slots := 0, locals := 0 } : Room).slots) := by
  refine MetFree.of_bodySF (plainFor_of_name pn_1) hisR ?_
  intro p e s m args below meth c s₁ Bd hml0 hP hK
  obtain ⟨rfl, hZ, hh⟩ := hP
  have hx := Bd.exec
  have hby := Bd.bytes
  have hml : c.maxLocals = 5 := hml0
  have dd : ∀ {pc : Nat} {r : Except DecodeError (Instr × Nat)}, decode prog_43_method_8_code pc = r → decode c.code pc = r := fun q => hb hby q
  have hown : s.vm.findClass "com/example/minsuite/minsuite/ValuePairs" = some m.cls := findClass_of_methodNamed Bd.named
  have hnm := (name_of_methodNamed Bd.named Bd.method).1
  have X0 : Stand p l e ({ frames := 0, cells := 0, slots := 0, locals := 0 } : Room) s m #[(.ref a0), (.int (0 : Int32)), (.int p2), (.int (3 : Int32)), (.int p4)] below meth c s₁ [] 0 0 := Stand.of_body Bd
  have e0 : s₁.heap = h0 := by rw [← hh, Bd.state]; rfl
  have N0 := Fr.nil n0
  have hret := Bd.returns
  have hlk := Bd.notSynchronized
  show Gz p e below s ({ frames := 0, cells := 0, slots := 0, locals := 0 } : Room).cells ({ frames := 0, cells := 0, slots := 0, locals := 0 } : Room).slots (Q_rmX03 Z a0 p2 p4 so k_so ro0 ro1 ro2 ro3 k_ro0 s0 s1 s2 s3 ac k_ac v0 v1 v2 v3 h0 n0) (s₁.setTop (entryFrame m #[(.ref a0), (.int (0 : Int32)), (.int p2), (.int (3 : Int32)), (.int p4)] 5))
  refine Gz.enter (ef_rmX03 m a0 p2 p4) ?_
  refine Gz.iloadN 1 X0 hx (dd d7_0) rfl rfl ?_
  refine Gz.iloadN 2 X0 hx (dd d7_1) rfl rfl ?_
  refine Gz.icmpNo 5 X0 hx (dd d7_2) (tlt (by decide : (0 : Int32) < (3 : Int32))).2.1 rfl ?_
  refine Gz.aloadN 6 X0 hx (dd d7_5) rfl rfl rfl ?_
  refine Gz.getF 9 X0 hx hZ hown (dd d7_6) (host := "") (Or.inl (ww hw 27 rfl)) Via.refl e0 F_start_a0 rfl fun T1 X1 e1 => ?_
  refine Gz.iloadN 10 X1 hx (dd d7_9) rfl rfl ?_
  obtain ⟨c2, A2, q2, S2, N2, H2, G2⟩ := id V_so
  have hin2 : ¬ ((0 : Int32) < 0 ∨ c2.slots.size ≤ ((0 : Int32)).toNatClampNeg) := inb_of S2 ⟨by decide, by decide⟩
  refine Gz.ldA 11 X1 hx hZ rfl (dd d7_10) e1 A2 hin2 (Has.at H2 hin2 (rfl : _ = ((.ref ro0) : Value))) rfl ?_
  refine Gz.iloadN 12 X1 hx (dd d7_11) rfl rfl ?_
  obtain ⟨c3, A3, q3, S3, N3, H3, G3⟩ := id V_ro0
  have hin3 : ¬ ((3 : Int32) < 0 ∨ c3.slots.size ≤ ((3 : Int32)).toNatClampNeg) := inb_of S3 ⟨by decide, by decide⟩
  refine Gz.ldI 13 X1 hx hZ (dd d7_12) e1 A3 hin3 (Has.at H3 hin3 (rfl : _ = ((.int s3) : Value))) rfl ?_
  refine Gz.iloadN 14 X1 hx (dd d7_13) rfl rfl ?_
  refine Gz.aloadN 15 X1 hx (dd d7_14) rfl rfl rfl ?_
  refine Gz.getF 18 X1 hx hZ hown (dd d7_15) (host := "") (Or.inl (ww hw 23 rfl)) Via.refl e1 F_valueCounts_a0 rfl fun T4 X4 e4 => ?_
  refine Gz.iloadN 19 X4 hx (dd d7_18) rfl rfl ?_
  obtain ⟨c5, A5, q5, S5, N5, H5, G5⟩ := id V_ac
  have hin5 : ¬ ((3 : Int32) < 0 ∨ c5.slots.size ≤ ((3 : Int32)).toNatClampNeg) := inb_of S5 ⟨by decide, by decide⟩
  refine Gz.ldI 20 X4 hx hZ (dd d7_19) e4 A5 hin5 (Has.at H5 hin5 (rfl : _ = ((.int v3) : Value))) rfl ?_
  refine Gz.imul 21 X4 hx (dd d7_20) rfl ?_
  refine Gz.iadd 22 X4 hx (dd d7_21) rfl ?_
  refine Gz.iload 24 X4 hx (dd d7_22) rfl rfl ?_
  refine Gz.iadd 25 X4 hx (dd d7_24) rfl ?_
  refine Gz.goto 48 X4 hx (dd d7_25) (by decide) (by decide) ?_
  refine Gz.fin X4 (v := some (.int ((s3 + (p2 * v3)) + p4))) (fun h => by rw [hret] at h; cases h) hlk (by decide) (by decide) (fun fs hr => retI X4 hx hret (dd d7_48) hr) ?_
  rw [e4]
  exact ⟨rfl, N0, rfl⟩
theorem d7_28 : decode prog_43_method_8_code 28 = .ok (.aload_n 0, 1) := by decide +kernel
theorem d7_29 : decode prog_43_method_8_code 29 = .ok (.getfield 37, 3) := by decide +kernel
theorem d7_32 : decode prog_43_method_8_code 32 = .ok (.iload_n 3, 1) := by decide +kernel
theorem d7_33 : decode prog_43_method_8_code 33 = .ok (.aaload, 1) := by decide +kernel
theorem d7_34 : decode prog_43_method_8_code 34 = .ok (.iload_n 1, 1) := by decide +kernel
theorem d7_35 : decode prog_43_method_8_code 35 = .ok (.iaload, 1) := by decide +kernel
theorem d7_36 : decode prog_43_method_8_code 36 = .ok (.iload 4, 2) := by decide +kernel
theorem d7_38 : decode prog_43_method_8_code 38 = .ok (.aload_n 0, 1) := by decide +kernel
theorem d7_39 : decode prog_43_method_8_code 39 = .ok (.getfield 32, 3) := by decide +kernel
theorem d7_42 : decode prog_43_method_8_code 42 = .ok (.iload_n 1, 1) := by decide +kernel
theorem d7_43 : decode prog_43_method_8_code 43 = .ok (.iaload, 1) := by decide +kernel
theorem d7_44 : decode prog_43_method_8_code 44 = .ok (.imul, 1) := by decide +kernel
theorem d7_45 : decode prog_43_method_8_code 45 = .ok (.iadd, 1) := by decide +kernel
theorem d7_46 : decode prog_43_method_8_code 46 = .ok (.iload_n 2, 1) := by decide +kernel
theorem d7_47 : decode prog_43_method_8_code 47 = .ok (.iadd, 1) := by decide +kernel
theorem ef_rmX10 (m : MethodId) (a0 : Addr) (p2 : Int32) (p4 : Int32) : entryFrame m #[(.ref a0), (.int (1 : Int32)), (.int p2), (.int (0 : Int32)), (.int p4)] 5 = mkF m 0 #[.val (.ref a0), .val (.int (1 : Int32)), .val (.int p2), .val (.int (0 : Int32)), .val (.int p4)] [] := by first | (simp [entryFrame, mkF, argsToLocals, Value.category]; done) | rfl
def fX10 (a0 : Addr) (p2 : Int32) (p4 : Int32) (so : Addr) (ro0 : Addr) (ro1 : Addr) (ro2 : Addr) (ro3 : Addr) (s0 : Int32) (s1 : Int32) (s2 : Int32) (s3 : Int32) (ac : Addr) (v0 : Int32) (v1 : Int32) (v2 : Int32) (v3 : Int32) : Int32 := ((s1 + (p4 * v1)) + p2)
def Q_rmX10 (Z : State) (a0 : Addr) (p2 : Int32) (p4 : Int32) (so : Addr) (k_so : ClassId) (ro0 : Addr) (ro1 : Addr) (ro2 : Addr) (ro3 : Addr) (k_ro0 : ClassId) (s0 : Int32) (s1 : Int32) (s2 : Int32) (s3 : Int32) (ac : Addr) (k_ac : ClassId) (v0 : Int32) (v1 : Int32) (v2 : Int32) (v3 : Int32) (h0 : Heap) (n0 : Nat) (v : Option Value) (h : Heap) (L : List Loc) : Prop := v = some (.int (fX10 a0 p2 p4 so ro0 ro1 ro2 ro3 s0 s1 s2 s3 ac v0 v1 v2 v3)) ∧ Fr n0 L ∧ h = h0
set_option maxRecDepth 65536 in
set_option maxHeartbeats 40000000 in
theorem rmX10 (l : Launch) (Z : State) (av0 : Array Value) (hw : ∀ d ∈ tables_1, d.before av0 Z = true) (ws : List Jvm.Cond) (a0 : Addr) (p2 : Int32) (p4 : Int32) (so : Addr) (k_so : ClassId) (ro0 : Addr) (ro1 : Addr) (ro2 : Addr) (ro3 : Addr) (k_ro0 : ClassId) (s0 : Int32) (s1 : Int32) (s2 : Int32) (s3 : Int32) (ac : Addr) (k_ac : ClassId) (v0 : Int32) (v1 : Int32) (v2 : Int32) (v3 : Int32) (h0 : Heap) (n0 : Nat) (Z0 : n0 ≤ h0.size) (F_start_a0 : Fld Z h0 a0 "com/example/minsuite/minsuite/ValuePairs" "start" "[[I" (.ref so)) (V_so : Arv Z h0 so k_so (.array .int) (4 : Int32) [(.ref ro0), (.ref ro1), (.ref ro2), (.ref ro3)] .null) (V_ro0 : Arv Z h0 ro0 k_ro0 .int (4 : Int32) [(.int s0), (.int s1), (.int s2), (.int s3)] (.int (0 : Int32))) (F_valueCounts_a0 : Fld Z h0 a0 "com/example/minsuite/minsuite/ValuePairs" "valueCounts" "[I" (.ref ac)) (V_ac : Arv Z h0 ac k_ac .int (4 : Int32) [(.int v0), (.int v1), (.int v2), (.int v3)] (.int (0 : Int32))) :
    MetFree l (⟨"com/example/minsuite/minsuite/ValuePairs", "index", "(IIII)I"⟩ : MethodName) (head1 (Jvm.Cond.code (⟨"com/example/minsuite/minsuite/ValuePairs", "index", "(IIII)I"⟩ : MethodName) prog_43_method_8_code 5 (some .int) :: ws) ({ frames := 0, cells := 0, slots := 0, locals := 0 } : Room)) (fun a U => a = #[(.ref a0), (.int (1 : Int32)), (.int p2), (.int (0 : Int32)), (.int p4)] ∧ Z.Warmed39 U.vm ∧ U.heap = h0) (fun _ _ _ _ _ => True) (fun _ U o U' => ∃ v L, o = .returned v ∧ Q_rmX10 Z a0 p2 p4 so k_so ro0 ro1 ro2 ro3 k_ro0 s0 s1 s2 s3 ac k_ac v0 v1 v2 v3 h0 n0 v U'.heap L ∧ FrameEnd U o U' L ({ frames := 0, cells := 0, slots := 0, locals := 0 } : Room).cells ({ frames := 0, cells := 0, slots := 0, locals := 0 } : Room).slots) := by
  refine MetFree.of_bodySF (plainFor_of_name pn_1) hisR ?_
  intro p e s m args below meth c s₁ Bd hml0 hP hK
  obtain ⟨rfl, hZ, hh⟩ := hP
  have hx := Bd.exec
  have hby := Bd.bytes
  have hml : c.maxLocals = 5 := hml0
  have dd : ∀ {pc : Nat} {r : Except DecodeError (Instr × Nat)}, decode prog_43_method_8_code pc = r → decode c.code pc = r := fun q => hb hby q
  have hown : s.vm.findClass "com/example/minsuite/minsuite/ValuePairs" = some m.cls := findClass_of_methodNamed Bd.named
  have hnm := (name_of_methodNamed Bd.named Bd.method).1
  have X0 : Stand p l e ({ frames := 0, cells := 0, slots := 0, locals := 0 } : Room) s m #[(.ref a0), (.int (1 : Int32)), (.int p2), (.int (0 : Int32)), (.int p4)] below meth c s₁ [] 0 0 := Stand.of_body Bd
  have e0 : s₁.heap = h0 := by rw [← hh, Bd.state]; rfl
  have N0 := Fr.nil n0
  have hret := Bd.returns
  have hlk := Bd.notSynchronized
  show Gz p e below s ({ frames := 0, cells := 0, slots := 0, locals := 0 } : Room).cells ({ frames := 0, cells := 0, slots := 0, locals := 0 } : Room).slots (Q_rmX10 Z a0 p2 p4 so k_so ro0 ro1 ro2 ro3 k_ro0 s0 s1 s2 s3 ac k_ac v0 v1 v2 v3 h0 n0) (s₁.setTop (entryFrame m #[(.ref a0), (.int (1 : Int32)), (.int p2), (.int (0 : Int32)), (.int p4)] 5))
  refine Gz.enter (ef_rmX10 m a0 p2 p4) ?_
  refine Gz.iloadN 1 X0 hx (dd d7_0) rfl rfl ?_
  refine Gz.iloadN 2 X0 hx (dd d7_1) rfl rfl ?_
  refine Gz.icmpYes 28 X0 hx (dd d7_2) (flt (by decide : ¬ ((1 : Int32) < (0 : Int32)))).2.1 (by decide) (by decide) ?_
  refine Gz.aloadN 29 X0 hx (dd d7_28) rfl rfl rfl ?_
  refine Gz.getF 32 X0 hx hZ hown (dd d7_29) (host := "") (Or.inl (ww hw 27 rfl)) Via.refl e0 F_start_a0 rfl fun T1 X1 e1 => ?_
  refine Gz.iloadN 33 X1 hx (dd d7_32) rfl rfl ?_
  obtain ⟨c2, A2, q2, S2, N2, H2, G2⟩ := id V_so
  have hin2 : ¬ ((0 : Int32) < 0 ∨ c2.slots.size ≤ ((0 : Int32)).toNatClampNeg) := inb_of S2 ⟨by decide, by decide⟩
  refine Gz.ldA 34 X1 hx hZ rfl (dd d7_33) e1 A2 hin2 (Has.at H2 hin2 (rfl : _ = ((.ref ro0) : Value))) rfl ?_
  refine Gz.iloadN 35 X1 hx (dd d7_34) rfl rfl ?_
  obtain ⟨c3, A3, q3, S3, N3, H3, G3⟩ := id V_ro0
  have hin3 : ¬ ((1 : Int32) < 0 ∨ c3.slots.size ≤ ((1 : Int32)).toNatClampNeg) := inb_of S3 ⟨by decide, by decide⟩
  refine Gz.ldI 36 X1 hx hZ (dd d7_35) e1 A3 hin3 (Has.at H3 hin3 (rfl : _ = ((.int s1) : Value))) rfl ?_
  refine Gz.iload 38 X1 hx (dd d7_36) rfl rfl ?_
  refine Gz.aloadN 39 X1 hx (dd d7_38) rfl rfl rfl ?_
  refine Gz.getF 42 X1 hx hZ hown (dd d7_39) (host := "") (Or.inl (ww hw 23 rfl)) Via.refl e1 F_valueCounts_a0 rfl fun T4 X4 e4 => ?_
  refine Gz.iloadN 43 X4 hx (dd d7_42) rfl rfl ?_
  obtain ⟨c5, A5, q5, S5, N5, H5, G5⟩ := id V_ac
  have hin5 : ¬ ((1 : Int32) < 0 ∨ c5.slots.size ≤ ((1 : Int32)).toNatClampNeg) := inb_of S5 ⟨by decide, by decide⟩
  refine Gz.ldI 44 X4 hx hZ (dd d7_43) e4 A5 hin5 (Has.at H5 hin5 (rfl : _ = ((.int v1) : Value))) rfl ?_
  refine Gz.imul 45 X4 hx (dd d7_44) rfl ?_
  refine Gz.iadd 46 X4 hx (dd d7_45) rfl ?_
  refine Gz.iloadN 47 X4 hx (dd d7_46) rfl rfl ?_
  refine Gz.iadd 48 X4 hx (dd d7_47) rfl ?_
  refine Gz.fin X4 (v := some (.int ((s1 + (p4 * v1)) + p2))) (fun h => by rw [hret] at h; cases h) hlk (by decide) (by decide) (fun fs hr => retI X4 hx hret (dd d7_48) hr) ?_
  rw [e4]
  exact ⟨rfl, N0, rfl⟩
theorem ef_rmX12 (m : MethodId) (a0 : Addr) (p2 : Int32) (p4 : Int32) : entryFrame m #[(.ref a0), (.int (1 : Int32)), (.int p2), (.int (2 : Int32)), (.int p4)] 5 = mkF m 0 #[.val (.ref a0), .val (.int (1 : Int32)), .val (.int p2), .val (.int (2 : Int32)), .val (.int p4)] [] := by first | (simp [entryFrame, mkF, argsToLocals, Value.category]; done) | rfl
def fX12 (a0 : Addr) (p2 : Int32) (p4 : Int32) (so : Addr) (ro0 : Addr) (ro1 : Addr) (ro2 : Addr) (ro3 : Addr) (s0 : Int32) (s1 : Int32) (s2 : Int32) (s3 : Int32) (ac : Addr) (v0 : Int32) (v1 : Int32) (v2 : Int32) (v3 : Int32) : Int32 := ((s2 + (p2 * v2)) + p4)
def Q_rmX12 (Z : State) (a0 : Addr) (p2 : Int32) (p4 : Int32) (so : Addr) (k_so : ClassId) (ro0 : Addr) (ro1 : Addr) (ro2 : Addr) (ro3 : Addr) (k_ro1 : ClassId) (s0 : Int32) (s1 : Int32) (s2 : Int32) (s3 : Int32) (ac : Addr) (k_ac : ClassId) (v0 : Int32) (v1 : Int32) (v2 : Int32) (v3 : Int32) (h0 : Heap) (n0 : Nat) (v : Option Value) (h : Heap) (L : List Loc) : Prop := v = some (.int (fX12 a0 p2 p4 so ro0 ro1 ro2 ro3 s0 s1 s2 s3 ac v0 v1 v2 v3)) ∧ Fr n0 L ∧ h = h0
set_option maxRecDepth 65536 in
set_option maxHeartbeats 40000000 in
theorem rmX12 (l : Launch) (Z : State) (av0 : Array Value) (hw : ∀ d ∈ tables_1, d.before av0 Z = true) (ws : List Jvm.Cond) (a0 : Addr) (p2 : Int32) (p4 : Int32) (so : Addr) (k_so : ClassId) (ro0 : Addr) (ro1 : Addr) (ro2 : Addr) (ro3 : Addr) (k_ro1 : ClassId) (s0 : Int32) (s1 : Int32) (s2 : Int32) (s3 : Int32) (ac : Addr) (k_ac : ClassId) (v0 : Int32) (v1 : Int32) (v2 : Int32) (v3 : Int32) (h0 : Heap) (n0 : Nat) (Z0 : n0 ≤ h0.size) (F_start_a0 : Fld Z h0 a0 "com/example/minsuite/minsuite/ValuePairs" "start" "[[I" (.ref so)) (V_so : Arv Z h0 so k_so (.array .int) (4 : Int32) [(.ref ro0), (.ref ro1), (.ref ro2), (.ref ro3)] .null) (V_ro1 : Arv Z h0 ro1 k_ro1 .int (4 : Int32) [(.int s0), (.int s1), (.int s2), (.int s3)] (.int (0 : Int32))) (F_valueCounts_a0 : Fld Z h0 a0 "com/example/minsuite/minsuite/ValuePairs" "valueCounts" "[I" (.ref ac)) (V_ac : Arv Z h0 ac k_ac .int (4 : Int32) [(.int v0), (.int v1), (.int v2), (.int v3)] (.int (0 : Int32))) :
    MetFree l (⟨"com/example/minsuite/minsuite/ValuePairs", "index", "(IIII)I"⟩ : MethodName) (head1 (Jvm.Cond.code (⟨"com/example/minsuite/minsuite/ValuePairs", "index", "(IIII)I"⟩ : MethodName) prog_43_method_8_code 5 (some .int) :: ws) ({ frames := 0, cells := 0, slots := 0, locals := 0 } : Room)) (fun a U => a = #[(.ref a0), (.int (1 : Int32)), (.int p2), (.int (2 : Int32)), (.int p4)] ∧ Z.Warmed39 U.vm ∧ U.heap = h0) (fun _ _ _ _ _ => True) (fun _ U o U' => ∃ v L, o = .returned v ∧ Q_rmX12 Z a0 p2 p4 so k_so ro0 ro1 ro2 ro3 k_ro1 s0 s1 s2 s3 ac k_ac v0 v1 v2 v3 h0 n0 v U'.heap L ∧ FrameEnd U o U' L ({ frames := 0, cells := 0, slots := 0, locals := 0 } : Room).cells ({ frames := 0, cells := 0, slots := 0, locals := 0 } : Room).slots) := by
  refine MetFree.of_bodySF (plainFor_of_name pn_1) hisR ?_
  intro p e s m args below meth c s₁ Bd hml0 hP hK
  obtain ⟨rfl, hZ, hh⟩ := hP
  have hx := Bd.exec
  have hby := Bd.bytes
  have hml : c.maxLocals = 5 := hml0
  have dd : ∀ {pc : Nat} {r : Except DecodeError (Instr × Nat)}, decode prog_43_method_8_code pc = r → decode c.code pc = r := fun q => hb hby q
  have hown : s.vm.findClass "com/example/minsuite/minsuite/ValuePairs" = some m.cls := findClass_of_methodNamed Bd.named
  have hnm := (name_of_methodNamed Bd.named Bd.method).1
  have X0 : Stand p l e ({ frames := 0, cells := 0, slots := 0, locals := 0 } : Room) s m #[(.ref a0), (.int (1 : Int32)), (.int p2), (.int (2 : Int32)), (.int p4)] below meth c s₁ [] 0 0 := Stand.of_body Bd
  have e0 : s₁.heap = h0 := by rw [← hh, Bd.state]; rfl
  have N0 := Fr.nil n0
  have hret := Bd.returns
  have hlk := Bd.notSynchronized
  show Gz p e below s ({ frames := 0, cells := 0, slots := 0, locals := 0 } : Room).cells ({ frames := 0, cells := 0, slots := 0, locals := 0 } : Room).slots (Q_rmX12 Z a0 p2 p4 so k_so ro0 ro1 ro2 ro3 k_ro1 s0 s1 s2 s3 ac k_ac v0 v1 v2 v3 h0 n0) (s₁.setTop (entryFrame m #[(.ref a0), (.int (1 : Int32)), (.int p2), (.int (2 : Int32)), (.int p4)] 5))
  refine Gz.enter (ef_rmX12 m a0 p2 p4) ?_
  refine Gz.iloadN 1 X0 hx (dd d7_0) rfl rfl ?_
  refine Gz.iloadN 2 X0 hx (dd d7_1) rfl rfl ?_
  refine Gz.icmpNo 5 X0 hx (dd d7_2) (tlt (by decide : (1 : Int32) < (2 : Int32))).2.1 rfl ?_
  refine Gz.aloadN 6 X0 hx (dd d7_5) rfl rfl rfl ?_
  refine Gz.getF 9 X0 hx hZ hown (dd d7_6) (host := "") (Or.inl (ww hw 27 rfl)) Via.refl e0 F_start_a0 rfl fun T1 X1 e1 => ?_
  refine Gz.iloadN 10 X1 hx (dd d7_9) rfl rfl ?_
  obtain ⟨c2, A2, q2, S2, N2, H2, G2⟩ := id V_so
  have hin2 : ¬ ((1 : Int32) < 0 ∨ c2.slots.size ≤ ((1 : Int32)).toNatClampNeg) := inb_of S2 ⟨by decide, by decide⟩
  refine Gz.ldA 11 X1 hx hZ rfl (dd d7_10) e1 A2 hin2 (Has.at H2 hin2 (rfl : _ = ((.ref ro1) : Value))) rfl ?_
  refine Gz.iloadN 12 X1 hx (dd d7_11) rfl rfl ?_
  obtain ⟨c3, A3, q3, S3, N3, H3, G3⟩ := id V_ro1
  have hin3 : ¬ ((2 : Int32) < 0 ∨ c3.slots.size ≤ ((2 : Int32)).toNatClampNeg) := inb_of S3 ⟨by decide, by decide⟩
  refine Gz.ldI 13 X1 hx hZ (dd d7_12) e1 A3 hin3 (Has.at H3 hin3 (rfl : _ = ((.int s2) : Value))) rfl ?_
  refine Gz.iloadN 14 X1 hx (dd d7_13) rfl rfl ?_
  refine Gz.aloadN 15 X1 hx (dd d7_14) rfl rfl rfl ?_
  refine Gz.getF 18 X1 hx hZ hown (dd d7_15) (host := "") (Or.inl (ww hw 23 rfl)) Via.refl e1 F_valueCounts_a0 rfl fun T4 X4 e4 => ?_
  refine Gz.iloadN 19 X4 hx (dd d7_18) rfl rfl ?_
  obtain ⟨c5, A5, q5, S5, N5, H5, G5⟩ := id V_ac
  have hin5 : ¬ ((2 : Int32) < 0 ∨ c5.slots.size ≤ ((2 : Int32)).toNatClampNeg) := inb_of S5 ⟨by decide, by decide⟩
  refine Gz.ldI 20 X4 hx hZ (dd d7_19) e4 A5 hin5 (Has.at H5 hin5 (rfl : _ = ((.int v2) : Value))) rfl ?_
  refine Gz.imul 21 X4 hx (dd d7_20) rfl ?_
  refine Gz.iadd 22 X4 hx (dd d7_21) rfl ?_
  refine Gz.iload 24 X4 hx (dd d7_22) rfl rfl ?_
  refine Gz.iadd 25 X4 hx (dd d7_24) rfl ?_
  refine Gz.goto 48 X4 hx (dd d7_25) (by decide) (by decide) ?_
  refine Gz.fin X4 (v := some (.int ((s2 + (p2 * v2)) + p4))) (fun h => by rw [hret] at h; cases h) hlk (by decide) (by decide) (fun fs hr => retI X4 hx hret (dd d7_48) hr) ?_
  rw [e4]
  exact ⟨rfl, N0, rfl⟩
theorem ef_rmX13 (m : MethodId) (a0 : Addr) (p2 : Int32) (p4 : Int32) : entryFrame m #[(.ref a0), (.int (1 : Int32)), (.int p2), (.int (3 : Int32)), (.int p4)] 5 = mkF m 0 #[.val (.ref a0), .val (.int (1 : Int32)), .val (.int p2), .val (.int (3 : Int32)), .val (.int p4)] [] := by first | (simp [entryFrame, mkF, argsToLocals, Value.category]; done) | rfl
def fX13 (a0 : Addr) (p2 : Int32) (p4 : Int32) (so : Addr) (ro0 : Addr) (ro1 : Addr) (ro2 : Addr) (ro3 : Addr) (s0 : Int32) (s1 : Int32) (s2 : Int32) (s3 : Int32) (ac : Addr) (v0 : Int32) (v1 : Int32) (v2 : Int32) (v3 : Int32) : Int32 := ((s3 + (p2 * v3)) + p4)
def Q_rmX13 (Z : State) (a0 : Addr) (p2 : Int32) (p4 : Int32) (so : Addr) (k_so : ClassId) (ro0 : Addr) (ro1 : Addr) (ro2 : Addr) (ro3 : Addr) (k_ro1 : ClassId) (s0 : Int32) (s1 : Int32) (s2 : Int32) (s3 : Int32) (ac : Addr) (k_ac : ClassId) (v0 : Int32) (v1 : Int32) (v2 : Int32) (v3 : Int32) (h0 : Heap) (n0 : Nat) (v : Option Value) (h : Heap) (L : List Loc) : Prop := v = some (.int (fX13 a0 p2 p4 so ro0 ro1 ro2 ro3 s0 s1 s2 s3 ac v0 v1 v2 v3)) ∧ Fr n0 L ∧ h = h0
set_option maxRecDepth 65536 in
set_option maxHeartbeats 40000000 in
theorem rmX13 (l : Launch) (Z : State) (av0 : Array Value) (hw : ∀ d ∈ tables_1, d.before av0 Z = true) (ws : List Jvm.Cond) (a0 : Addr) (p2 : Int32) (p4 : Int32) (so : Addr) (k_so : ClassId) (ro0 : Addr) (ro1 : Addr) (ro2 : Addr) (ro3 : Addr) (k_ro1 : ClassId) (s0 : Int32) (s1 : Int32) (s2 : Int32) (s3 : Int32) (ac : Addr) (k_ac : ClassId) (v0 : Int32) (v1 : Int32) (v2 : Int32) (v3 : Int32) (h0 : Heap) (n0 : Nat) (Z0 : n0 ≤ h0.size) (F_start_a0 : Fld Z h0 a0 "com/example/minsuite/minsuite/ValuePairs" "start" "[[I" (.ref so)) (V_so : Arv Z h0 so k_so (.array .int) (4 : Int32) [(.ref ro0), (.ref ro1), (.ref ro2), (.ref ro3)] .null) (V_ro1 : Arv Z h0 ro1 k_ro1 .int (4 : Int32) [(.int s0), (.int s1), (.int s2), (.int s3)] (.int (0 : Int32))) (F_valueCounts_a0 : Fld Z h0 a0 "com/example/minsuite/minsuite/ValuePairs" "valueCounts" "[I" (.ref ac)) (V_ac : Arv Z h0 ac k_ac .int (4 : Int32) [(.int v0), (.int v1), (.int v2), (.int v3)] (.int (0 : Int32))) :
    MetFree l (⟨"com/example/minsuite/minsuite/ValuePairs", "index", "(IIII)I"⟩ : MethodName) (head1 (Jvm.Cond.code (⟨"com/example/minsuite/minsuite/ValuePairs", "index", "(IIII)I"⟩ : MethodName) prog_43_method_8_code 5 (some .int) :: ws) ({ frames := 0, cells := 0, slots := 0, locals := 0 } : Room)) (fun a U => a = #[(.ref a0), (.int (1 : Int32)), (.int p2), (.int (3 : Int32)), (.int p4)] ∧ Z.Warmed39 U.vm ∧ U.heap = h0) (fun _ _ _ _ _ => True) (fun _ U o U' => ∃ v L, o = .returned v ∧ Q_rmX13 Z a0 p2 p4 so k_so ro0 ro1 ro2 ro3 k_ro1 s0 s1 s2 s3 ac k_ac v0 v1 v2 v3 h0 n0 v U'.heap L ∧ FrameEnd U o U' L ({ frames := 0, cells := 0, slots := 0, locals := 0 } : Room).cells ({ frames := 0, cells := 0, slots := 0, locals := 0 } : Room).slots) := by
  refine MetFree.of_bodySF (plainFor_of_name pn_1) hisR ?_
  intro p e s m args below meth c s₁ Bd hml0 hP hK
  obtain ⟨rfl, hZ, hh⟩ := hP
  have hx := Bd.exec
  have hby := Bd.bytes
  have hml : c.maxLocals = 5 := hml0
  have dd : ∀ {pc : Nat} {r : Except DecodeError (Instr × Nat)}, decode prog_43_method_8_code pc = r → decode c.code pc = r := fun q => hb hby q
  have hown : s.vm.findClass "com/example/minsuite/minsuite/ValuePairs" = some m.cls := findClass_of_methodNamed Bd.named
  have hnm := (name_of_methodNamed Bd.named Bd.method).1
  have X0 : Stand p l e ({ frames := 0, cells := 0, slots := 0, locals := 0 } : Room) s m #[(.ref a0), (.int (1 : Int32)), (.int p2), (.int (3 : Int32)), (.int p4)] below meth c s₁ [] 0 0 := Stand.of_body Bd
  have e0 : s₁.heap = h0 := by rw [← hh, Bd.state]; rfl
  have N0 := Fr.nil n0
  have hret := Bd.returns
  have hlk := Bd.notSynchronized
  show Gz p e below s ({ frames := 0, cells := 0, slots := 0, locals := 0 } : Room).cells ({ frames := 0, cells := 0, slots := 0, locals := 0 } : Room).slots (Q_rmX13 Z a0 p2 p4 so k_so ro0 ro1 ro2 ro3 k_ro1 s0 s1 s2 s3 ac k_ac v0 v1 v2 v3 h0 n0) (s₁.setTop (entryFrame m #[(.ref a0), (.int (1 : Int32)), (.int p2), (.int (3 : Int32)), (.int p4)] 5))
  refine Gz.enter (ef_rmX13 m a0 p2 p4) ?_
  refine Gz.iloadN 1 X0 hx (dd d7_0) rfl rfl ?_
  refine Gz.iloadN 2 X0 hx (dd d7_1) rfl rfl ?_
  refine Gz.icmpNo 5 X0 hx (dd d7_2) (tlt (by decide : (1 : Int32) < (3 : Int32))).2.1 rfl ?_
  refine Gz.aloadN 6 X0 hx (dd d7_5) rfl rfl rfl ?_
  refine Gz.getF 9 X0 hx hZ hown (dd d7_6) (host := "") (Or.inl (ww hw 27 rfl)) Via.refl e0 F_start_a0 rfl fun T1 X1 e1 => ?_
  refine Gz.iloadN 10 X1 hx (dd d7_9) rfl rfl ?_
  obtain ⟨c2, A2, q2, S2, N2, H2, G2⟩ := id V_so
  have hin2 : ¬ ((1 : Int32) < 0 ∨ c2.slots.size ≤ ((1 : Int32)).toNatClampNeg) := inb_of S2 ⟨by decide, by decide⟩
  refine Gz.ldA 11 X1 hx hZ rfl (dd d7_10) e1 A2 hin2 (Has.at H2 hin2 (rfl : _ = ((.ref ro1) : Value))) rfl ?_
  refine Gz.iloadN 12 X1 hx (dd d7_11) rfl rfl ?_
  obtain ⟨c3, A3, q3, S3, N3, H3, G3⟩ := id V_ro1
  have hin3 : ¬ ((3 : Int32) < 0 ∨ c3.slots.size ≤ ((3 : Int32)).toNatClampNeg) := inb_of S3 ⟨by decide, by decide⟩
  refine Gz.ldI 13 X1 hx hZ (dd d7_12) e1 A3 hin3 (Has.at H3 hin3 (rfl : _ = ((.int s3) : Value))) rfl ?_
  refine Gz.iloadN 14 X1 hx (dd d7_13) rfl rfl ?_
  refine Gz.aloadN 15 X1 hx (dd d7_14) rfl rfl rfl ?_
  refine Gz.getF 18 X1 hx hZ hown (dd d7_15) (host := "") (Or.inl (ww hw 23 rfl)) Via.refl e1 F_valueCounts_a0 rfl fun T4 X4 e4 => ?_
  refine Gz.iloadN 19 X4 hx (dd d7_18) rfl rfl ?_
  obtain ⟨c5, A5, q5, S5, N5, H5, G5⟩ := id V_ac
  have hin5 : ¬ ((3 : Int32) < 0 ∨ c5.slots.size ≤ ((3 : Int32)).toNatClampNeg) := inb_of S5 ⟨by decide, by decide⟩
  refine Gz.ldI 20 X4 hx hZ (dd d7_19) e4 A5 hin5 (Has.at H5 hin5 (rfl : _ = ((.int v3) : Value))) rfl ?_
  refine Gz.imul 21 X4 hx (dd d7_20) rfl ?_
  refine Gz.iadd 22 X4 hx (dd d7_21) rfl ?_
  refine Gz.iload 24 X4 hx (dd d7_22) rfl rfl ?_
  refine Gz.iadd 25 X4 hx (dd d7_24) rfl ?_
  refine Gz.goto 48 X4 hx (dd d7_25) (by decide) (by decide) ?_
  refine Gz.fin X4 (v := some (.int ((s3 + (p2 * v3)) + p4))) (fun h => by rw [hret] at h; cases h) hlk (by decide) (by decide) (fun fs hr => retI X4 hx hret (dd d7_48) hr) ?_
  rw [e4]
  exact ⟨rfl, N0, rfl⟩
theorem ef_rmX20 (m : MethodId) (a0 : Addr) (p2 : Int32) (p4 : Int32) : entryFrame m #[(.ref a0), (.int (2 : Int32)), (.int p2), (.int (0 : Int32)), (.int p4)] 5 = mkF m 0 #[.val (.ref a0), .val (.int (2 : Int32)), .val (.int p2), .val (.int (0 : Int32)), .val (.int p4)] [] := by first | (simp [entryFrame, mkF, argsToLocals, Value.category]; done) | rfl
def fX20 (a0 : Addr) (p2 : Int32) (p4 : Int32) (so : Addr) (ro0 : Addr) (ro1 : Addr) (ro2 : Addr) (ro3 : Addr) (s0 : Int32) (s1 : Int32) (s2 : Int32) (s3 : Int32) (ac : Addr) (v0 : Int32) (v1 : Int32) (v2 : Int32) (v3 : Int32) : Int32 := ((s2 + (p4 * v2)) + p2)
def Q_rmX20 (Z : State) (a0 : Addr) (p2 : Int32) (p4 : Int32) (so : Addr) (k_so : ClassId) (ro0 : Addr) (ro1 : Addr) (ro2 : Addr) (ro3 : Addr) (k_ro0 : ClassId) (s0 : Int32) (s1 : Int32) (s2 : Int32) (s3 : Int32) (ac : Addr) (k_ac : ClassId) (v0 : Int32) (v1 : Int32) (v2 : Int32) (v3 : Int32) (h0 : Heap) (n0 : Nat) (v : Option Value) (h : Heap) (L : List Loc) : Prop := v = some (.int (fX20 a0 p2 p4 so ro0 ro1 ro2 ro3 s0 s1 s2 s3 ac v0 v1 v2 v3)) ∧ Fr n0 L ∧ h = h0
set_option maxRecDepth 65536 in
set_option maxHeartbeats 40000000 in
theorem rmX20 (l : Launch) (Z : State) (av0 : Array Value) (hw : ∀ d ∈ tables_1, d.before av0 Z = true) (ws : List Jvm.Cond) (a0 : Addr) (p2 : Int32) (p4 : Int32) (so : Addr) (k_so : ClassId) (ro0 : Addr) (ro1 : Addr) (ro2 : Addr) (ro3 : Addr) (k_ro0 : ClassId) (s0 : Int32) (s1 : Int32) (s2 : Int32) (s3 : Int32) (ac : Addr) (k_ac : ClassId) (v0 : Int32) (v1 : Int32) (v2 : Int32) (v3 : Int32) (h0 : Heap) (n0 : Nat) (Z0 : n0 ≤ h0.size) (F_start_a0 : Fld Z h0 a0 "com/example/minsuite/minsuite/ValuePairs" "start" "[[I" (.ref so)) (V_so : Arv Z h0 so k_so (.array .int) (4 : Int32) [(.ref ro0), (.ref ro1), (.ref ro2), (.ref ro3)] .null) (V_ro0 : Arv Z h0 ro0 k_ro0 .int (4 : Int32) [(.int s0), (.int s1), (.int s2), (.int s3)] (.int (0 : Int32))) (F_valueCounts_a0 : Fld Z h0 a0 "com/example/minsuite/minsuite/ValuePairs" "valueCounts" "[I" (.ref ac)) (V_ac : Arv Z h0 ac k_ac .int (4 : Int32) [(.int v0), (.int v1), (.int v2), (.int v3)] (.int (0 : Int32))) :
    MetFree l (⟨"com/example/minsuite/minsuite/ValuePairs", "index", "(IIII)I"⟩ : MethodName) (head1 (Jvm.Cond.code (⟨"com/example/minsuite/minsuite/ValuePairs", "index", "(IIII)I"⟩ : MethodName) prog_43_method_8_code 5 (some .int) :: ws) ({ frames := 0, cells := 0, slots := 0, locals := 0 } : Room)) (fun a U => a = #[(.ref a0), (.int (2 : Int32)), (.int p2), (.int (0 : Int32)), (.int p4)] ∧ Z.Warmed39 U.vm ∧ U.heap = h0) (fun _ _ _ _ _ => True) (fun _ U o U' => ∃ v L, o = .returned v ∧ Q_rmX20 Z a0 p2 p4 so k_so ro0 ro1 ro2 ro3 k_ro0 s0 s1 s2 s3 ac k_ac v0 v1 v2 v3 h0 n0 v U'.heap L ∧ FrameEnd U o U' L ({ frames := 0, cells := 0, slots := 0, locals := 0 } : Room).cells ({ frames := 0, cells := 0, slots := 0, locals := 0 } : Room).slots) := by
  refine MetFree.of_bodySF (plainFor_of_name pn_1) hisR ?_
  intro p e s m args below meth c s₁ Bd hml0 hP hK
  obtain ⟨rfl, hZ, hh⟩ := hP
  have hx := Bd.exec
  have hby := Bd.bytes
  have hml : c.maxLocals = 5 := hml0
  have dd : ∀ {pc : Nat} {r : Except DecodeError (Instr × Nat)}, decode prog_43_method_8_code pc = r → decode c.code pc = r := fun q => hb hby q
  have hown : s.vm.findClass "com/example/minsuite/minsuite/ValuePairs" = some m.cls := findClass_of_methodNamed Bd.named
  have hnm := (name_of_methodNamed Bd.named Bd.method).1
  have X0 : Stand p l e ({ frames := 0, cells := 0, slots := 0, locals := 0 } : Room) s m #[(.ref a0), (.int (2 : Int32)), (.int p2), (.int (0 : Int32)), (.int p4)] below meth c s₁ [] 0 0 := Stand.of_body Bd
  have e0 : s₁.heap = h0 := by rw [← hh, Bd.state]; rfl
  have N0 := Fr.nil n0
  have hret := Bd.returns
  have hlk := Bd.notSynchronized
  show Gz p e below s ({ frames := 0, cells := 0, slots := 0, locals := 0 } : Room).cells ({ frames := 0, cells := 0, slots := 0, locals := 0 } : Room).slots (Q_rmX20 Z a0 p2 p4 so k_so ro0 ro1 ro2 ro3 k_ro0 s0 s1 s2 s3 ac k_ac v0 v1 v2 v3 h0 n0) (s₁.setTop (entryFrame m #[(.ref a0), (.int (2 : Int32)), (.int p2), (.int (0 : Int32)), (.int p4)] 5))
  refine Gz.enter (ef_rmX20 m a0 p2 p4) ?_
  refine Gz.iloadN 1 X0 hx (dd d7_0) rfl rfl ?_
  refine Gz.iloadN 2 X0 hx (dd d7_1) rfl rfl ?_
  refine Gz.icmpYes 28 X0 hx (dd d7_2) (flt (by decide : ¬ ((2 : Int32) < (0 : Int32)))).2.1 (by decide) (by decide) ?_
  refine Gz.aloadN 29 X0 hx (dd d7_28) rfl rfl rfl ?_
  refine Gz.getF 32 X0 hx hZ hown (dd d7_29) (host := "") (Or.inl (ww hw 27 rfl)) Via.refl e0 F_start_a0 rfl fun T1 X1 e1 => ?_
  refine Gz.iloadN 33 X1 hx (dd d7_32) rfl rfl ?_
  obtain ⟨c2, A2, q2, S2, N2, H2, G2⟩ := id V_so
  have hin2 : ¬ ((0 : Int32) < 0 ∨ c2.slots.size ≤ ((0 : Int32)).toNatClampNeg) := inb_of S2 ⟨by decide, by decide⟩
  refine Gz.ldA 34 X1 hx hZ rfl (dd d7_33) e1 A2 hin2 (Has.at H2 hin2 (rfl : _ = ((.ref ro0) : Value))) rfl ?_
  refine Gz.iloadN 35 X1 hx (dd d7_34) rfl rfl ?_
  obtain ⟨c3, A3, q3, S3, N3, H3, G3⟩ := id V_ro0
  have hin3 : ¬ ((2 : Int32) < 0 ∨ c3.slots.size ≤ ((2 : Int32)).toNatClampNeg) := inb_of S3 ⟨by decide, by decide⟩
  refine Gz.ldI 36 X1 hx hZ (dd d7_35) e1 A3 hin3 (Has.at H3 hin3 (rfl : _ = ((.int s2) : Value))) rfl ?_
  refine Gz.iload 38 X1 hx (dd d7_36) rfl rfl ?_
  refine Gz.aloadN 39 X1 hx (dd d7_38) rfl rfl rfl ?_
  refine Gz.getF 42 X1 hx hZ hown (dd d7_39) (host := "") (Or.inl (ww hw 23 rfl)) Via.refl e1 F_valueCounts_a0 rfl fun T4 X4 e4 => ?_
  refine Gz.iloadN 43 X4 hx (dd d7_42) rfl rfl ?_
  obtain ⟨c5, A5, q5, S5, N5, H5, G5⟩ := id V_ac
  have hin5 : ¬ ((2 : Int32) < 0 ∨ c5.slots.size ≤ ((2 : Int32)).toNatClampNeg) := inb_of S5 ⟨by decide, by decide⟩
  refine Gz.ldI 44 X4 hx hZ (dd d7_43) e4 A5 hin5 (Has.at H5 hin5 (rfl : _ = ((.int v2) : Value))) rfl ?_
  refine Gz.imul 45 X4 hx (dd d7_44) rfl ?_
  refine Gz.iadd 46 X4 hx (dd d7_45) rfl ?_
  refine Gz.iloadN 47 X4 hx (dd d7_46) rfl rfl ?_
  refine Gz.iadd 48 X4 hx (dd d7_47) rfl ?_
  refine Gz.fin X4 (v := some (.int ((s2 + (p4 * v2)) + p2))) (fun h => by rw [hret] at h; cases h) hlk (by decide) (by decide) (fun fs hr => retI X4 hx hret (dd d7_48) hr) ?_
  rw [e4]
  exact ⟨rfl, N0, rfl⟩
theorem ef_rmX21 (m : MethodId) (a0 : Addr) (p2 : Int32) (p4 : Int32) : entryFrame m #[(.ref a0), (.int (2 : Int32)), (.int p2), (.int (1 : Int32)), (.int p4)] 5 = mkF m 0 #[.val (.ref a0), .val (.int (2 : Int32)), .val (.int p2), .val (.int (1 : Int32)), .val (.int p4)] [] := by first | (simp [entryFrame, mkF, argsToLocals, Value.category]; done) | rfl
def fX21 (a0 : Addr) (p2 : Int32) (p4 : Int32) (so : Addr) (ro0 : Addr) (ro1 : Addr) (ro2 : Addr) (ro3 : Addr) (s0 : Int32) (s1 : Int32) (s2 : Int32) (s3 : Int32) (ac : Addr) (v0 : Int32) (v1 : Int32) (v2 : Int32) (v3 : Int32) : Int32 := ((s2 + (p4 * v2)) + p2)
def Q_rmX21 (Z : State) (a0 : Addr) (p2 : Int32) (p4 : Int32) (so : Addr) (k_so : ClassId) (ro0 : Addr) (ro1 : Addr) (ro2 : Addr) (ro3 : Addr) (k_ro1 : ClassId) (s0 : Int32) (s1 : Int32) (s2 : Int32) (s3 : Int32) (ac : Addr) (k_ac : ClassId) (v0 : Int32) (v1 : Int32) (v2 : Int32) (v3 : Int32) (h0 : Heap) (n0 : Nat) (v : Option Value) (h : Heap) (L : List Loc) : Prop := v = some (.int (fX21 a0 p2 p4 so ro0 ro1 ro2 ro3 s0 s1 s2 s3 ac v0 v1 v2 v3)) ∧ Fr n0 L ∧ h = h0
set_option maxRecDepth 65536 in
set_option maxHeartbeats 40000000 in
theorem rmX21 (l : Launch) (Z : State) (av0 : Array Value) (hw : ∀ d ∈ tables_1, d.before av0 Z = true) (ws : List Jvm.Cond) (a0 : Addr) (p2 : Int32) (p4 : Int32) (so : Addr) (k_so : ClassId) (ro0 : Addr) (ro1 : Addr) (ro2 : Addr) (ro3 : Addr) (k_ro1 : ClassId) (s0 : Int32) (s1 : Int32) (s2 : Int32) (s3 : Int32) (ac : Addr) (k_ac : ClassId) (v0 : Int32) (v1 : Int32) (v2 : Int32) (v3 : Int32) (h0 : Heap) (n0 : Nat) (Z0 : n0 ≤ h0.size) (F_start_a0 : Fld Z h0 a0 "com/example/minsuite/minsuite/ValuePairs" "start" "[[I" (.ref so)) (V_so : Arv Z h0 so k_so (.array .int) (4 : Int32) [(.ref ro0), (.ref ro1), (.ref ro2), (.ref ro3)] .null) (V_ro1 : Arv Z h0 ro1 k_ro1 .int (4 : Int32) [(.int s0), (.int s1), (.int s2), (.int s3)] (.int (0 : Int32))) (F_valueCounts_a0 : Fld Z h0 a0 "com/example/minsuite/minsuite/ValuePairs" "valueCounts" "[I" (.ref ac)) (V_ac : Arv Z h0 ac k_ac .int (4 : Int32) [(.int v0), (.int v1), (.int v2), (.int v3)] (.int (0 : Int32))) :
    MetFree l (⟨"com/example/minsuite/minsuite/ValuePairs", "index", "(IIII)I"⟩ : MethodName) (head1 (Jvm.Cond.code (⟨"com/example/minsuite/minsuite/ValuePairs", "index", "(IIII)I"⟩ : MethodName) prog_43_method_8_code 5 (some .int) :: ws) ({ frames := 0, cells := 0, slots := 0, locals := 0 } : Room)) (fun a U => a = #[(.ref a0), (.int (2 : Int32)), (.int p2), (.int (1 : Int32)), (.int p4)] ∧ Z.Warmed39 U.vm ∧ U.heap = h0) (fun _ _ _ _ _ => True) (fun _ U o U' => ∃ v L, o = .returned v ∧ Q_rmX21 Z a0 p2 p4 so k_so ro0 ro1 ro2 ro3 k_ro1 s0 s1 s2 s3 ac k_ac v0 v1 v2 v3 h0 n0 v U'.heap L ∧ FrameEnd U o U' L ({ frames := 0, cells := 0, slots := 0, locals := 0 } : Room).cells ({ frames := 0, cells := 0, slots := 0, locals := 0 } : Room).slots) := by
  refine MetFree.of_bodySF (plainFor_of_name pn_1) hisR ?_
  intro p e s m args below meth c s₁ Bd hml0 hP hK
  obtain ⟨rfl, hZ, hh⟩ := hP
  have hx := Bd.exec
  have hby := Bd.bytes
  have hml : c.maxLocals = 5 := hml0
  have dd : ∀ {pc : Nat} {r : Except DecodeError (Instr × Nat)}, decode prog_43_method_8_code pc = r → decode c.code pc = r := fun q => hb hby q
  have hown : s.vm.findClass "com/example/minsuite/minsuite/ValuePairs" = some m.cls := findClass_of_methodNamed Bd.named
  have hnm := (name_of_methodNamed Bd.named Bd.method).1
  have X0 : Stand p l e ({ frames := 0, cells := 0, slots := 0, locals := 0 } : Room) s m #[(.ref a0), (.int (2 : Int32)), (.int p2), (.int (1 : Int32)), (.int p4)] below meth c s₁ [] 0 0 := Stand.of_body Bd
  have e0 : s₁.heap = h0 := by rw [← hh, Bd.state]; rfl
  have N0 := Fr.nil n0
  have hret := Bd.returns
  have hlk := Bd.notSynchronized
  show Gz p e below s ({ frames := 0, cells := 0, slots := 0, locals := 0 } : Room).cells ({ frames := 0, cells := 0, slots := 0, locals := 0 } : Room).slots (Q_rmX21 Z a0 p2 p4 so k_so ro0 ro1 ro2 ro3 k_ro1 s0 s1 s2 s3 ac k_ac v0 v1 v2 v3 h0 n0) (s₁.setTop (entryFrame m #[(.ref a0), (.int (2 : Int32)), (.int p2), (.int (1 : Int32)), (.int p4)] 5))
  refine Gz.enter (ef_rmX21 m a0 p2 p4) ?_
  refine Gz.iloadN 1 X0 hx (dd d7_0) rfl rfl ?_
  refine Gz.iloadN 2 X0 hx (dd d7_1) rfl rfl ?_
  refine Gz.icmpYes 28 X0 hx (dd d7_2) (flt (by decide : ¬ ((2 : Int32) < (1 : Int32)))).2.1 (by decide) (by decide) ?_
  refine Gz.aloadN 29 X0 hx (dd d7_28) rfl rfl rfl ?_
  refine Gz.getF 32 X0 hx hZ hown (dd d7_29) (host := "") (Or.inl (ww hw 27 rfl)) Via.refl e0 F_start_a0 rfl fun T1 X1 e1 => ?_
  refine Gz.iloadN 33 X1 hx (dd d7_32) rfl rfl ?_
  obtain ⟨c2, A2, q2, S2, N2, H2, G2⟩ := id V_so
  have hin2 : ¬ ((1 : Int32) < 0 ∨ c2.slots.size ≤ ((1 : Int32)).toNatClampNeg) := inb_of S2 ⟨by decide, by decide⟩
  refine Gz.ldA 34 X1 hx hZ rfl (dd d7_33) e1 A2 hin2 (Has.at H2 hin2 (rfl : _ = ((.ref ro1) : Value))) rfl ?_
  refine Gz.iloadN 35 X1 hx (dd d7_34) rfl rfl ?_
  obtain ⟨c3, A3, q3, S3, N3, H3, G3⟩ := id V_ro1
  have hin3 : ¬ ((2 : Int32) < 0 ∨ c3.slots.size ≤ ((2 : Int32)).toNatClampNeg) := inb_of S3 ⟨by decide, by decide⟩
  refine Gz.ldI 36 X1 hx hZ (dd d7_35) e1 A3 hin3 (Has.at H3 hin3 (rfl : _ = ((.int s2) : Value))) rfl ?_
  refine Gz.iload 38 X1 hx (dd d7_36) rfl rfl ?_
  refine Gz.aloadN 39 X1 hx (dd d7_38) rfl rfl rfl ?_
  refine Gz.getF 42 X1 hx hZ hown (dd d7_39) (host := "") (Or.inl (ww hw 23 rfl)) Via.refl e1 F_valueCounts_a0 rfl fun T4 X4 e4 => ?_
  refine Gz.iloadN 43 X4 hx (dd d7_42) rfl rfl ?_
  obtain ⟨c5, A5, q5, S5, N5, H5, G5⟩ := id V_ac
  have hin5 : ¬ ((2 : Int32) < 0 ∨ c5.slots.size ≤ ((2 : Int32)).toNatClampNeg) := inb_of S5 ⟨by decide, by decide⟩
  refine Gz.ldI 44 X4 hx hZ (dd d7_43) e4 A5 hin5 (Has.at H5 hin5 (rfl : _ = ((.int v2) : Value))) rfl ?_
  refine Gz.imul 45 X4 hx (dd d7_44) rfl ?_
  refine Gz.iadd 46 X4 hx (dd d7_45) rfl ?_
  refine Gz.iloadN 47 X4 hx (dd d7_46) rfl rfl ?_
  refine Gz.iadd 48 X4 hx (dd d7_47) rfl ?_
  refine Gz.fin X4 (v := some (.int ((s2 + (p4 * v2)) + p2))) (fun h => by rw [hret] at h; cases h) hlk (by decide) (by decide) (fun fs hr => retI X4 hx hret (dd d7_48) hr) ?_
  rw [e4]
  exact ⟨rfl, N0, rfl⟩
theorem ef_rmX23 (m : MethodId) (a0 : Addr) (p2 : Int32) (p4 : Int32) : entryFrame m #[(.ref a0), (.int (2 : Int32)), (.int p2), (.int (3 : Int32)), (.int p4)] 5 = mkF m 0 #[.val (.ref a0), .val (.int (2 : Int32)), .val (.int p2), .val (.int (3 : Int32)), .val (.int p4)] [] := by first | (simp [entryFrame, mkF, argsToLocals, Value.category]; done) | rfl
def fX23 (a0 : Addr) (p2 : Int32) (p4 : Int32) (so : Addr) (ro0 : Addr) (ro1 : Addr) (ro2 : Addr) (ro3 : Addr) (s0 : Int32) (s1 : Int32) (s2 : Int32) (s3 : Int32) (ac : Addr) (v0 : Int32) (v1 : Int32) (v2 : Int32) (v3 : Int32) : Int32 := ((s3 + (p2 * v3)) + p4)
def Q_rmX23 (Z : State) (a0 : Addr) (p2 : Int32) (p4 : Int32) (so : Addr) (k_so : ClassId) (ro0 : Addr) (ro1 : Addr) (ro2 : Addr) (ro3 : Addr) (k_ro2 : ClassId) (s0 : Int32) (s1 : Int32) (s2 : Int32) (s3 : Int32) (ac : Addr) (k_ac : ClassId) (v0 : Int32) (v1 : Int32) (v2 : Int32) (v3 : Int32) (h0 : Heap) (n0 : Nat) (v : Option Value) (h : Heap) (L : List Loc) : Prop := v = some (.int (fX23 a0 p2 p4 so ro0 ro1 ro2 ro3 s0 s1 s2 s3 ac v0 v1 v2 v3)) ∧ Fr n0 L ∧ h = h0
set_option maxRecDepth 65536 in
set_option maxHeartbeats 40000000 in
theorem rmX23 (l : Launch) (Z : State) (av0 : Array Value) (hw : ∀ d ∈ tables_1, d.before av0 Z = true) (ws : List Jvm.Cond) (a0 : Addr) (p2 : Int32) (p4 : Int32) (so : Addr) (k_so : ClassId) (ro0 : Addr) (ro1 : Addr) (ro2 : Addr) (ro3 : Addr) (k_ro2 : ClassId) (s0 : Int32) (s1 : Int32) (s2 : Int32) (s3 : Int32) (ac : Addr) (k_ac : ClassId) (v0 : Int32) (v1 : Int32) (v2 : Int32) (v3 : Int32) (h0 : Heap) (n0 : Nat) (Z0 : n0 ≤ h0.size) (F_start_a0 : Fld Z h0 a0 "com/example/minsuite/minsuite/ValuePairs" "start" "[[I" (.ref so)) (V_so : Arv Z h0 so k_so (.array .int) (4 : Int32) [(.ref ro0), (.ref ro1), (.ref ro2), (.ref ro3)] .null) (V_ro2 : Arv Z h0 ro2 k_ro2 .int (4 : Int32) [(.int s0), (.int s1), (.int s2), (.int s3)] (.int (0 : Int32))) (F_valueCounts_a0 : Fld Z h0 a0 "com/example/minsuite/minsuite/ValuePairs" "valueCounts" "[I" (.ref ac)) (V_ac : Arv Z h0 ac k_ac .int (4 : Int32) [(.int v0), (.int v1), (.int v2), (.int v3)] (.int (0 : Int32))) :
    MetFree l (⟨"com/example/minsuite/minsuite/ValuePairs", "index", "(IIII)I"⟩ : MethodName) (head1 (Jvm.Cond.code (⟨"com/example/minsuite/minsuite/ValuePairs", "index", "(IIII)I"⟩ : MethodName) prog_43_method_8_code 5 (some .int) :: ws) ({ frames := 0, cells := 0, slots := 0, locals := 0 } : Room)) (fun a U => a = #[(.ref a0), (.int (2 : Int32)), (.int p2), (.int (3 : Int32)), (.int p4)] ∧ Z.Warmed39 U.vm ∧ U.heap = h0) (fun _ _ _ _ _ => True) (fun _ U o U' => ∃ v L, o = .returned v ∧ Q_rmX23 Z a0 p2 p4 so k_so ro0 ro1 ro2 ro3 k_ro2 s0 s1 s2 s3 ac k_ac v0 v1 v2 v3 h0 n0 v U'.heap L ∧ FrameEnd U o U' L ({ frames := 0, cells := 0, slots := 0, locals := 0 } : Room).cells ({ frames := 0, cells := 0, slots := 0, locals := 0 } : Room).slots) := by
  refine MetFree.of_bodySF (plainFor_of_name pn_1) hisR ?_
  intro p e s m args below meth c s₁ Bd hml0 hP hK
  obtain ⟨rfl, hZ, hh⟩ := hP
  have hx := Bd.exec
  have hby := Bd.bytes
  have hml : c.maxLocals = 5 := hml0
  have dd : ∀ {pc : Nat} {r : Except DecodeError (Instr × Nat)}, decode prog_43_method_8_code pc = r → decode c.code pc = r := fun q => hb hby q
  have hown : s.vm.findClass "com/example/minsuite/minsuite/ValuePairs" = some m.cls := findClass_of_methodNamed Bd.named
  have hnm := (name_of_methodNamed Bd.named Bd.method).1
  have X0 : Stand p l e ({ frames := 0, cells := 0, slots := 0, locals := 0 } : Room) s m #[(.ref a0), (.int (2 : Int32)), (.int p2), (.int (3 : Int32)), (.int p4)] below meth c s₁ [] 0 0 := Stand.of_body Bd
  have e0 : s₁.heap = h0 := by rw [← hh, Bd.state]; rfl
  have N0 := Fr.nil n0
  have hret := Bd.returns
  have hlk := Bd.notSynchronized
  show Gz p e below s ({ frames := 0, cells := 0, slots := 0, locals := 0 } : Room).cells ({ frames := 0, cells := 0, slots := 0, locals := 0 } : Room).slots (Q_rmX23 Z a0 p2 p4 so k_so ro0 ro1 ro2 ro3 k_ro2 s0 s1 s2 s3 ac k_ac v0 v1 v2 v3 h0 n0) (s₁.setTop (entryFrame m #[(.ref a0), (.int (2 : Int32)), (.int p2), (.int (3 : Int32)), (.int p4)] 5))
  refine Gz.enter (ef_rmX23 m a0 p2 p4) ?_
  refine Gz.iloadN 1 X0 hx (dd d7_0) rfl rfl ?_
  refine Gz.iloadN 2 X0 hx (dd d7_1) rfl rfl ?_
  refine Gz.icmpNo 5 X0 hx (dd d7_2) (tlt (by decide : (2 : Int32) < (3 : Int32))).2.1 rfl ?_
  refine Gz.aloadN 6 X0 hx (dd d7_5) rfl rfl rfl ?_
  refine Gz.getF 9 X0 hx hZ hown (dd d7_6) (host := "") (Or.inl (ww hw 27 rfl)) Via.refl e0 F_start_a0 rfl fun T1 X1 e1 => ?_
  refine Gz.iloadN 10 X1 hx (dd d7_9) rfl rfl ?_
  obtain ⟨c2, A2, q2, S2, N2, H2, G2⟩ := id V_so
  have hin2 : ¬ ((2 : Int32) < 0 ∨ c2.slots.size ≤ ((2 : Int32)).toNatClampNeg) := inb_of S2 ⟨by decide, by decide⟩
  refine Gz.ldA 11 X1 hx hZ rfl (dd d7_10) e1 A2 hin2 (Has.at H2 hin2 (rfl : _ = ((.ref ro2) : Value))) rfl ?_
  refine Gz.iloadN 12 X1 hx (dd d7_11) rfl rfl ?_
  obtain ⟨c3, A3, q3, S3, N3, H3, G3⟩ := id V_ro2
  have hin3 : ¬ ((3 : Int32) < 0 ∨ c3.slots.size ≤ ((3 : Int32)).toNatClampNeg) := inb_of S3 ⟨by decide, by decide⟩
  refine Gz.ldI 13 X1 hx hZ (dd d7_12) e1 A3 hin3 (Has.at H3 hin3 (rfl : _ = ((.int s3) : Value))) rfl ?_
  refine Gz.iloadN 14 X1 hx (dd d7_13) rfl rfl ?_
  refine Gz.aloadN 15 X1 hx (dd d7_14) rfl rfl rfl ?_
  refine Gz.getF 18 X1 hx hZ hown (dd d7_15) (host := "") (Or.inl (ww hw 23 rfl)) Via.refl e1 F_valueCounts_a0 rfl fun T4 X4 e4 => ?_
  refine Gz.iloadN 19 X4 hx (dd d7_18) rfl rfl ?_
  obtain ⟨c5, A5, q5, S5, N5, H5, G5⟩ := id V_ac
  have hin5 : ¬ ((3 : Int32) < 0 ∨ c5.slots.size ≤ ((3 : Int32)).toNatClampNeg) := inb_of S5 ⟨by decide, by decide⟩
  refine Gz.ldI 20 X4 hx hZ (dd d7_19) e4 A5 hin5 (Has.at H5 hin5 (rfl : _ = ((.int v3) : Value))) rfl ?_
  refine Gz.imul 21 X4 hx (dd d7_20) rfl ?_
  refine Gz.iadd 22 X4 hx (dd d7_21) rfl ?_
  refine Gz.iload 24 X4 hx (dd d7_22) rfl rfl ?_
  refine Gz.iadd 25 X4 hx (dd d7_24) rfl ?_
  refine Gz.goto 48 X4 hx (dd d7_25) (by decide) (by decide) ?_
  refine Gz.fin X4 (v := some (.int ((s3 + (p2 * v3)) + p4))) (fun h => by rw [hret] at h; cases h) hlk (by decide) (by decide) (fun fs hr => retI X4 hx hret (dd d7_48) hr) ?_
  rw [e4]
  exact ⟨rfl, N0, rfl⟩
theorem ef_rmX30 (m : MethodId) (a0 : Addr) (p2 : Int32) (p4 : Int32) : entryFrame m #[(.ref a0), (.int (3 : Int32)), (.int p2), (.int (0 : Int32)), (.int p4)] 5 = mkF m 0 #[.val (.ref a0), .val (.int (3 : Int32)), .val (.int p2), .val (.int (0 : Int32)), .val (.int p4)] [] := by first | (simp [entryFrame, mkF, argsToLocals, Value.category]; done) | rfl
def fX30 (a0 : Addr) (p2 : Int32) (p4 : Int32) (so : Addr) (ro0 : Addr) (ro1 : Addr) (ro2 : Addr) (ro3 : Addr) (s0 : Int32) (s1 : Int32) (s2 : Int32) (s3 : Int32) (ac : Addr) (v0 : Int32) (v1 : Int32) (v2 : Int32) (v3 : Int32) : Int32 := ((s3 + (p4 * v3)) + p2)
def Q_rmX30 (Z : State) (a0 : Addr) (p2 : Int32) (p4 : Int32) (so : Addr) (k_so : ClassId) (ro0 : Addr) (ro1 : Addr) (ro2 : Addr) (ro3 : Addr) (k_ro0 : ClassId) (s0 : Int32) (s1 : Int32) (s2 : Int32) (s3 : Int32) (ac : Addr) (k_ac : ClassId) (v0 : Int32) (v1 : Int32) (v2 : Int32) (v3 : Int32) (h0 : Heap) (n0 : Nat) (v : Option Value) (h : Heap) (L : List Loc) : Prop := v = some (.int (fX30 a0 p2 p4 so ro0 ro1 ro2 ro3 s0 s1 s2 s3 ac v0 v1 v2 v3)) ∧ Fr n0 L ∧ h = h0
set_option maxRecDepth 65536 in
set_option maxHeartbeats 40000000 in
theorem rmX30 (l : Launch) (Z : State) (av0 : Array Value) (hw : ∀ d ∈ tables_1, d.before av0 Z = true) (ws : List Jvm.Cond) (a0 : Addr) (p2 : Int32) (p4 : Int32) (so : Addr) (k_so : ClassId) (ro0 : Addr) (ro1 : Addr) (ro2 : Addr) (ro3 : Addr) (k_ro0 : ClassId) (s0 : Int32) (s1 : Int32) (s2 : Int32) (s3 : Int32) (ac : Addr) (k_ac : ClassId) (v0 : Int32) (v1 : Int32) (v2 : Int32) (v3 : Int32) (h0 : Heap) (n0 : Nat) (Z0 : n0 ≤ h0.size) (F_start_a0 : Fld Z h0 a0 "com/example/minsuite/minsuite/ValuePairs" "start" "[[I" (.ref so)) (V_so : Arv Z h0 so k_so (.array .int) (4 : Int32) [(.ref ro0), (.ref ro1), (.ref ro2), (.ref ro3)] .null) (V_ro0 : Arv Z h0 ro0 k_ro0 .int (4 : Int32) [(.int s0), (.int s1), (.int s2), (.int s3)] (.int (0 : Int32))) (F_valueCounts_a0 : Fld Z h0 a0 "com/example/minsuite/minsuite/ValuePairs" "valueCounts" "[I" (.ref ac)) (V_ac : Arv Z h0 ac k_ac .int (4 : Int32) [(.int v0), (.int v1), (.int v2), (.int v3)] (.int (0 : Int32))) :
    MetFree l (⟨"com/example/minsuite/minsuite/ValuePairs", "index", "(IIII)I"⟩ : MethodName) (head1 (Jvm.Cond.code (⟨"com/example/minsuite/minsuite/ValuePairs", "index", "(IIII)I"⟩ : MethodName) prog_43_method_8_code 5 (some .int) :: ws) ({ frames := 0, cells := 0, slots := 0, locals := 0 } : Room)) (fun a U => a = #[(.ref a0), (.int (3 : Int32)), (.int p2), (.int (0 : Int32)), (.int p4)] ∧ Z.Warmed39 U.vm ∧ U.heap = h0) (fun _ _ _ _ _ => True) (fun _ U o U' => ∃ v L, o = .returned v ∧ Q_rmX30 Z a0 p2 p4 so k_so ro0 ro1 ro2 ro3 k_ro0 s0 s1 s2 s3 ac k_ac v0 v1 v2 v3 h0 n0 v U'.heap L ∧ FrameEnd U o U' L ({ frames := 0, cells := 0, slots := 0, locals := 0 } : Room).cells ({ frames := 0, cells := 0, slots := 0, locals := 0 } : Room).slots) := by
  refine MetFree.of_bodySF (plainFor_of_name pn_1) hisR ?_
  intro p e s m args below meth c s₁ Bd hml0 hP hK
  obtain ⟨rfl, hZ, hh⟩ := hP
  have hx := Bd.exec
  have hby := Bd.bytes
  have hml : c.maxLocals = 5 := hml0
  have dd : ∀ {pc : Nat} {r : Except DecodeError (Instr × Nat)}, decode prog_43_method_8_code pc = r → decode c.code pc = r := fun q => hb hby q
  have hown : s.vm.findClass "com/example/minsuite/minsuite/ValuePairs" = some m.cls := findClass_of_methodNamed Bd.named
  have hnm := (name_of_methodNamed Bd.named Bd.method).1
  have X0 : Stand p l e ({ frames := 0, cells := 0, slots := 0, locals := 0 } : Room) s m #[(.ref a0), (.int (3 : Int32)), (.int p2), (.int (0 : Int32)), (.int p4)] below meth c s₁ [] 0 0 := Stand.of_body Bd
  have e0 : s₁.heap = h0 := by rw [← hh, Bd.state]; rfl
  have N0 := Fr.nil n0
  have hret := Bd.returns
  have hlk := Bd.notSynchronized
  show Gz p e below s ({ frames := 0, cells := 0, slots := 0, locals := 0 } : Room).cells ({ frames := 0, cells := 0, slots := 0, locals := 0 } : Room).slots (Q_rmX30 Z a0 p2 p4 so k_so ro0 ro1 ro2 ro3 k_ro0 s0 s1 s2 s3 ac k_ac v0 v1 v2 v3 h0 n0) (s₁.setTop (entryFrame m #[(.ref a0), (.int (3 : Int32)), (.int p2), (.int (0 : Int32)), (.int p4)] 5))
  refine Gz.enter (ef_rmX30 m a0 p2 p4) ?_
  refine Gz.iloadN 1 X0 hx (dd d7_0) rfl rfl ?_
  refine Gz.iloadN 2 X0 hx (dd d7_1) rfl rfl ?_
  refine Gz.icmpYes 28 X0 hx (dd d7_2) (flt (by decide : ¬ ((3 : Int32) < (0 : Int32)))).2.1 (by decide) (by decide) ?_
  refine Gz.aloadN 29 X0 hx (dd d7_28) rfl rfl rfl ?_
  refine Gz.getF 32 X0 hx hZ hown (dd d7_29) (host := "") (Or.inl (ww hw 27 rfl)) Via.refl e0 F_start_a0 rfl fun T1 X1 e1 => ?_
  refine Gz.iloadN 33 X1 hx (dd d7_32) rfl rfl ?_
  obtain ⟨c2, A2, q2, S2, N2, H2, G2⟩ := id V_so
  have hin2 : ¬ ((0 : Int32) < 0 ∨ c2.slots.size ≤ ((0 : Int32)).toNatClampNeg) := inb_of S2 ⟨by decide, by decide⟩
  refine Gz.ldA 34 X1 hx hZ rfl (dd d7_33) e1 A2 hin2 (Has.at H2 hin2 (rfl : _ = ((.ref ro0) : Value))) rfl ?_
  refine Gz.iloadN 35 X1 hx (dd d7_34) rfl rfl ?_
  obtain ⟨c3, A3, q3, S3, N3, H3, G3⟩ := id V_ro0
  have hin3 : ¬ ((3 : Int32) < 0 ∨ c3.slots.size ≤ ((3 : Int32)).toNatClampNeg) := inb_of S3 ⟨by decide, by decide⟩
  refine Gz.ldI 36 X1 hx hZ (dd d7_35) e1 A3 hin3 (Has.at H3 hin3 (rfl : _ = ((.int s3) : Value))) rfl ?_
  refine Gz.iload 38 X1 hx (dd d7_36) rfl rfl ?_
  refine Gz.aloadN 39 X1 hx (dd d7_38) rfl rfl rfl ?_
  refine Gz.getF 42 X1 hx hZ hown (dd d7_39) (host := "") (Or.inl (ww hw 23 rfl)) Via.refl e1 F_valueCounts_a0 rfl fun T4 X4 e4 => ?_
  refine Gz.iloadN 43 X4 hx (dd d7_42) rfl rfl ?_
  obtain ⟨c5, A5, q5, S5, N5, H5, G5⟩ := id V_ac
  have hin5 : ¬ ((3 : Int32) < 0 ∨ c5.slots.size ≤ ((3 : Int32)).toNatClampNeg) := inb_of S5 ⟨by decide, by decide⟩
  refine Gz.ldI 44 X4 hx hZ (dd d7_43) e4 A5 hin5 (Has.at H5 hin5 (rfl : _ = ((.int v3) : Value))) rfl ?_
  refine Gz.imul 45 X4 hx (dd d7_44) rfl ?_
  refine Gz.iadd 46 X4 hx (dd d7_45) rfl ?_
  refine Gz.iloadN 47 X4 hx (dd d7_46) rfl rfl ?_
  refine Gz.iadd 48 X4 hx (dd d7_47) rfl ?_
  refine Gz.fin X4 (v := some (.int ((s3 + (p4 * v3)) + p2))) (fun h => by rw [hret] at h; cases h) hlk (by decide) (by decide) (fun fs hr => retI X4 hx hret (dd d7_48) hr) ?_
  rw [e4]
  exact ⟨rfl, N0, rfl⟩
theorem ef_rmX31 (m : MethodId) (a0 : Addr) (p2 : Int32) (p4 : Int32) : entryFrame m #[(.ref a0), (.int (3 : Int32)), (.int p2), (.int (1 : Int32)), (.int p4)] 5 = mkF m 0 #[.val (.ref a0), .val (.int (3 : Int32)), .val (.int p2), .val (.int (1 : Int32)), .val (.int p4)] [] := by first | (simp [entryFrame, mkF, argsToLocals, Value.category]; done) | rfl
def fX31 (a0 : Addr) (p2 : Int32) (p4 : Int32) (so : Addr) (ro0 : Addr) (ro1 : Addr) (ro2 : Addr) (ro3 : Addr) (s0 : Int32) (s1 : Int32) (s2 : Int32) (s3 : Int32) (ac : Addr) (v0 : Int32) (v1 : Int32) (v2 : Int32) (v3 : Int32) : Int32 := ((s3 + (p4 * v3)) + p2)
def Q_rmX31 (Z : State) (a0 : Addr) (p2 : Int32) (p4 : Int32) (so : Addr) (k_so : ClassId) (ro0 : Addr) (ro1 : Addr) (ro2 : Addr) (ro3 : Addr) (k_ro1 : ClassId) (s0 : Int32) (s1 : Int32) (s2 : Int32) (s3 : Int32) (ac : Addr) (k_ac : ClassId) (v0 : Int32) (v1 : Int32) (v2 : Int32) (v3 : Int32) (h0 : Heap) (n0 : Nat) (v : Option Value) (h : Heap) (L : List Loc) : Prop := v = some (.int (fX31 a0 p2 p4 so ro0 ro1 ro2 ro3 s0 s1 s2 s3 ac v0 v1 v2 v3)) ∧ Fr n0 L ∧ h = h0
set_option maxRecDepth 65536 in
set_option maxHeartbeats 40000000 in
theorem rmX31 (l : Launch) (Z : State) (av0 : Array Value) (hw : ∀ d ∈ tables_1, d.before av0 Z = true) (ws : List Jvm.Cond) (a0 : Addr) (p2 : Int32) (p4 : Int32) (so : Addr) (k_so : ClassId) (ro0 : Addr) (ro1 : Addr) (ro2 : Addr) (ro3 : Addr) (k_ro1 : ClassId) (s0 : Int32) (s1 : Int32) (s2 : Int32) (s3 : Int32) (ac : Addr) (k_ac : ClassId) (v0 : Int32) (v1 : Int32) (v2 : Int32) (v3 : Int32) (h0 : Heap) (n0 : Nat) (Z0 : n0 ≤ h0.size) (F_start_a0 : Fld Z h0 a0 "com/example/minsuite/minsuite/ValuePairs" "start" "[[I" (.ref so)) (V_so : Arv Z h0 so k_so (.array .int) (4 : Int32) [(.ref ro0), (.ref ro1), (.ref ro2), (.ref ro3)] .null) (V_ro1 : Arv Z h0 ro1 k_ro1 .int (4 : Int32) [(.int s0), (.int s1), (.int s2), (.int s3)] (.int (0 : Int32))) (F_valueCounts_a0 : Fld Z h0 a0 "com/example/minsuite/minsuite/ValuePairs" "valueCounts" "[I" (.ref ac)) (V_ac : Arv Z h0 ac k_ac .int (4 : Int32) [(.int v0), (.int v1), (.int v2), (.int v3)] (.int (0 : Int32))) :
    MetFree l (⟨"com/example/minsuite/minsuite/ValuePairs", "index", "(IIII)I"⟩ : MethodName) (head1 (Jvm.Cond.code (⟨"com/example/minsuite/minsuite/ValuePairs", "index", "(IIII)I"⟩ : MethodName) prog_43_method_8_code 5 (some .int) :: ws) ({ frames := 0, cells := 0, slots := 0, locals := 0 } : Room)) (fun a U => a = #[(.ref a0), (.int (3 : Int32)), (.int p2), (.int (1 : Int32)), (.int p4)] ∧ Z.Warmed39 U.vm ∧ U.heap = h0) (fun _ _ _ _ _ => True) (fun _ U o U' => ∃ v L, o = .returned v ∧ Q_rmX31 Z a0 p2 p4 so k_so ro0 ro1 ro2 ro3 k_ro1 s0 s1 s2 s3 ac k_ac v0 v1 v2 v3 h0 n0 v U'.heap L ∧ FrameEnd U o U' L ({ frames := 0, cells := 0, slots := 0, locals := 0 } : Room).cells ({ frames := 0, cells := 0, slots := 0, locals := 0 } : Room).slots) := by
  refine MetFree.of_bodySF (plainFor_of_name pn_1) hisR ?_
  intro p e s m args below meth c s₁ Bd hml0 hP hK
  obtain ⟨rfl, hZ, hh⟩ := hP
  have hx := Bd.exec
  have hby := Bd.bytes
  have hml : c.maxLocals = 5 := hml0
  have dd : ∀ {pc : Nat} {r : Except DecodeError (Instr × Nat)}, decode prog_43_method_8_code pc = r → decode c.code pc = r := fun q => hb hby q
  have hown : s.vm.findClass "com/example/minsuite/minsuite/ValuePairs" = some m.cls := findClass_of_methodNamed Bd.named
  have hnm := (name_of_methodNamed Bd.named Bd.method).1
  have X0 : Stand p l e ({ frames := 0, cells := 0, slots := 0, locals := 0 } : Room) s m #[(.ref a0), (.int (3 : Int32)), (.int p2), (.int (1 : Int32)), (.int p4)] below meth c s₁ [] 0 0 := Stand.of_body Bd
  have e0 : s₁.heap = h0 := by rw [← hh, Bd.state]; rfl
  have N0 := Fr.nil n0
  have hret := Bd.returns
  have hlk := Bd.notSynchronized
  show Gz p e below s ({ frames := 0, cells := 0, slots := 0, locals := 0 } : Room).cells ({ frames := 0, cells := 0, slots := 0, locals := 0 } : Room).slots (Q_rmX31 Z a0 p2 p4 so k_so ro0 ro1 ro2 ro3 k_ro1 s0 s1 s2 s3 ac k_ac v0 v1 v2 v3 h0 n0) (s₁.setTop (entryFrame m #[(.ref a0), (.int (3 : Int32)), (.int p2), (.int (1 : Int32)), (.int p4)] 5))
  refine Gz.enter (ef_rmX31 m a0 p2 p4) ?_
  refine Gz.iloadN 1 X0 hx (dd d7_0) rfl rfl ?_
  refine Gz.iloadN 2 X0 hx (dd d7_1) rfl rfl ?_
  refine Gz.icmpYes 28 X0 hx (dd d7_2) (flt (by decide : ¬ ((3 : Int32) < (1 : Int32)))).2.1 (by decide) (by decide) ?_
  refine Gz.aloadN 29 X0 hx (dd d7_28) rfl rfl rfl ?_
  refine Gz.getF 32 X0 hx hZ hown (dd d7_29) (host := "") (Or.inl (ww hw 27 rfl)) Via.refl e0 F_start_a0 rfl fun T1 X1 e1 => ?_
  refine Gz.iloadN 33 X1 hx (dd d7_32) rfl rfl ?_
  obtain ⟨c2, A2, q2, S2, N2, H2, G2⟩ := id V_so
  have hin2 : ¬ ((1 : Int32) < 0 ∨ c2.slots.size ≤ ((1 : Int32)).toNatClampNeg) := inb_of S2 ⟨by decide, by decide⟩
  refine Gz.ldA 34 X1 hx hZ rfl (dd d7_33) e1 A2 hin2 (Has.at H2 hin2 (rfl : _ = ((.ref ro1) : Value))) rfl ?_
  refine Gz.iloadN 35 X1 hx (dd d7_34) rfl rfl ?_
  obtain ⟨c3, A3, q3, S3, N3, H3, G3⟩ := id V_ro1
  have hin3 : ¬ ((3 : Int32) < 0 ∨ c3.slots.size ≤ ((3 : Int32)).toNatClampNeg) := inb_of S3 ⟨by decide, by decide⟩
  refine Gz.ldI 36 X1 hx hZ (dd d7_35) e1 A3 hin3 (Has.at H3 hin3 (rfl : _ = ((.int s3) : Value))) rfl ?_
  refine Gz.iload 38 X1 hx (dd d7_36) rfl rfl ?_
  refine Gz.aloadN 39 X1 hx (dd d7_38) rfl rfl rfl ?_
  refine Gz.getF 42 X1 hx hZ hown (dd d7_39) (host := "") (Or.inl (ww hw 23 rfl)) Via.refl e1 F_valueCounts_a0 rfl fun T4 X4 e4 => ?_
  refine Gz.iloadN 43 X4 hx (dd d7_42) rfl rfl ?_
  obtain ⟨c5, A5, q5, S5, N5, H5, G5⟩ := id V_ac
  have hin5 : ¬ ((3 : Int32) < 0 ∨ c5.slots.size ≤ ((3 : Int32)).toNatClampNeg) := inb_of S5 ⟨by decide, by decide⟩
  refine Gz.ldI 44 X4 hx hZ (dd d7_43) e4 A5 hin5 (Has.at H5 hin5 (rfl : _ = ((.int v3) : Value))) rfl ?_
  refine Gz.imul 45 X4 hx (dd d7_44) rfl ?_
  refine Gz.iadd 46 X4 hx (dd d7_45) rfl ?_
  refine Gz.iloadN 47 X4 hx (dd d7_46) rfl rfl ?_
  refine Gz.iadd 48 X4 hx (dd d7_47) rfl ?_
  refine Gz.fin X4 (v := some (.int ((s3 + (p4 * v3)) + p2))) (fun h => by rw [hret] at h; cases h) hlk (by decide) (by decide) (fun fs hr => retI X4 hx hret (dd d7_48) hr) ?_
  rw [e4]
  exact ⟨rfl, N0, rfl⟩
theorem ef_rmX32 (m : MethodId) (a0 : Addr) (p2 : Int32) (p4 : Int32) : entryFrame m #[(.ref a0), (.int (3 : Int32)), (.int p2), (.int (2 : Int32)), (.int p4)] 5 = mkF m 0 #[.val (.ref a0), .val (.int (3 : Int32)), .val (.int p2), .val (.int (2 : Int32)), .val (.int p4)] [] := by first | (simp [entryFrame, mkF, argsToLocals, Value.category]; done) | rfl
def fX32 (a0 : Addr) (p2 : Int32) (p4 : Int32) (so : Addr) (ro0 : Addr) (ro1 : Addr) (ro2 : Addr) (ro3 : Addr) (s0 : Int32) (s1 : Int32) (s2 : Int32) (s3 : Int32) (ac : Addr) (v0 : Int32) (v1 : Int32) (v2 : Int32) (v3 : Int32) : Int32 := ((s3 + (p4 * v3)) + p2)
def Q_rmX32 (Z : State) (a0 : Addr) (p2 : Int32) (p4 : Int32) (so : Addr) (k_so : ClassId) (ro0 : Addr) (ro1 : Addr) (ro2 : Addr) (ro3 : Addr) (k_ro2 : ClassId) (s0 : Int32) (s1 : Int32) (s2 : Int32) (s3 : Int32) (ac : Addr) (k_ac : ClassId) (v0 : Int32) (v1 : Int32) (v2 : Int32) (v3 : Int32) (h0 : Heap) (n0 : Nat) (v : Option Value) (h : Heap) (L : List Loc) : Prop := v = some (.int (fX32 a0 p2 p4 so ro0 ro1 ro2 ro3 s0 s1 s2 s3 ac v0 v1 v2 v3)) ∧ Fr n0 L ∧ h = h0
set_option maxRecDepth 65536 in
set_option maxHeartbeats 40000000 in
theorem rmX32 (l : Launch) (Z : State) (av0 : Array Value) (hw : ∀ d ∈ tables_1, d.before av0 Z = true) (ws : List Jvm.Cond) (a0 : Addr) (p2 : Int32) (p4 : Int32) (so : Addr) (k_so : ClassId) (ro0 : Addr) (ro1 : Addr) (ro2 : Addr) (ro3 : Addr) (k_ro2 : ClassId) (s0 : Int32) (s1 : Int32) (s2 : Int32) (s3 : Int32) (ac : Addr) (k_ac : ClassId) (v0 : Int32) (v1 : Int32) (v2 : Int32) (v3 : Int32) (h0 : Heap) (n0 : Nat) (Z0 : n0 ≤ h0.size) (F_start_a0 : Fld Z h0 a0 "com/example/minsuite/minsuite/ValuePairs" "start" "[[I" (.ref so)) (V_so : Arv Z h0 so k_so (.array .int) (4 : Int32) [(.ref ro0), (.ref ro1), (.ref ro2), (.ref ro3)] .null) (V_ro2 : Arv Z h0 ro2 k_ro2 .int (4 : Int32) [(.int s0), (.int s1), (.int s2), (.int s3)] (.int (0 : Int32))) (F_valueCounts_a0 : Fld Z h0 a0 "com/example/minsuite/minsuite/ValuePairs" "valueCounts" "[I" (.ref ac)) (V_ac : Arv Z h0 ac k_ac .int (4 : Int32) [(.int v0), (.int v1), (.int v2), (.int v3)] (.int (0 : Int32))) :
    MetFree l (⟨"com/example/minsuite/minsuite/ValuePairs", "index", "(IIII)I"⟩ : MethodName) (head1 (Jvm.Cond.code (⟨"com/example/minsuite/minsuite/ValuePairs", "index", "(IIII)I"⟩ : MethodName) prog_43_method_8_code 5 (some .int) :: ws) ({ frames := 0, cells := 0, slots := 0, locals := 0 } : Room)) (fun a U => a = #[(.ref a0), (.int (3 : Int32)), (.int p2), (.int (2 : Int32)), (.int p4)] ∧ Z.Warmed39 U.vm ∧ U.heap = h0) (fun _ _ _ _ _ => True) (fun _ U o U' => ∃ v L, o = .returned v ∧ Q_rmX32 Z a0 p2 p4 so k_so ro0 ro1 ro2 ro3 k_ro2 s0 s1 s2 s3 ac k_ac v0 v1 v2 v3 h0 n0 v U'.heap L ∧ FrameEnd U o U' L ({ frames := 0, cells := 0, slots := 0, locals := 0 } : Room).cells ({ frames := 0, cells := 0, slots := 0, locals := 0 } : Room).slots) := by
  refine MetFree.of_bodySF (plainFor_of_name pn_1) hisR ?_
  intro p e s m args below meth c s₁ Bd hml0 hP hK
  obtain ⟨rfl, hZ, hh⟩ := hP
  have hx := Bd.exec
  have hby := Bd.bytes
  have hml : c.maxLocals = 5 := hml0
  have dd : ∀ {pc : Nat} {r : Except DecodeError (Instr × Nat)}, decode prog_43_method_8_code pc = r → decode c.code pc = r := fun q => hb hby q
  have hown : s.vm.findClass "com/example/minsuite/minsuite/ValuePairs" = some m.cls := findClass_of_methodNamed Bd.named
  have hnm := (name_of_methodNamed Bd.named Bd.method).1
  have X0 : Stand p l e ({ frames := 0, cells := 0, slots := 0, locals := 0 } : Room) s m #[(.ref a0), (.int (3 : Int32)), (.int p2), (.int (2 : Int32)), (.int p4)] below meth c s₁ [] 0 0 := Stand.of_body Bd
  have e0 : s₁.heap = h0 := by rw [← hh, Bd.state]; rfl
  have N0 := Fr.nil n0
  have hret := Bd.returns
  have hlk := Bd.notSynchronized
  show Gz p e below s ({ frames := 0, cells := 0, slots := 0, locals := 0 } : Room).cells ({ frames := 0, cells := 0, slots := 0, locals := 0 } : Room).slots (Q_rmX32 Z a0 p2 p4 so k_so ro0 ro1 ro2 ro3 k_ro2 s0 s1 s2 s3 ac k_ac v0 v1 v2 v3 h0 n0) (s₁.setTop (entryFrame m #[(.ref a0), (.int (3 : Int32)), (.int p2), (.int (2 : Int32)), (.int p4)] 5))
  refine Gz.enter (ef_rmX32 m a0 p2 p4) ?_
  refine Gz.iloadN 1 X0 hx (dd d7_0) rfl rfl ?_
  refine Gz.iloadN 2 X0 hx (dd d7_1) rfl rfl ?_
  refine Gz.icmpYes 28 X0 hx (dd d7_2) (flt (by decide : ¬ ((3 : Int32) < (2 : Int32)))).2.1 (by decide) (by decide) ?_
  refine Gz.aloadN 29 X0 hx (dd d7_28) rfl rfl rfl ?_
  refine Gz.getF 32 X0 hx hZ hown (dd d7_29) (host := "") (Or.inl (ww hw 27 rfl)) Via.refl e0 F_start_a0 rfl fun T1 X1 e1 => ?_
  refine Gz.iloadN 33 X1 hx (dd d7_32) rfl rfl ?_
  obtain ⟨c2, A2, q2, S2, N2, H2, G2⟩ := id V_so
  have hin2 : ¬ ((2 : Int32) < 0 ∨ c2.slots.size ≤ ((2 : Int32)).toNatClampNeg) := inb_of S2 ⟨by decide, by decide⟩
  refine Gz.ldA 34 X1 hx hZ rfl (dd d7_33) e1 A2 hin2 (Has.at H2 hin2 (rfl : _ = ((.ref ro2) : Value))) rfl ?_
  refine Gz.iloadN 35 X1 hx (dd d7_34) rfl rfl ?_
  obtain ⟨c3, A3, q3, S3, N3, H3, G3⟩ := id V_ro2
  have hin3 : ¬ ((3 : Int32) < 0 ∨ c3.slots.size ≤ ((3 : Int32)).toNatClampNeg) := inb_of S3 ⟨by decide, by decide⟩
  refine Gz.ldI 36 X1 hx hZ (dd d7_35) e1 A3 hin3 (Has.at H3 hin3 (rfl : _ = ((.int s3) : Value))) rfl ?_
  refine Gz.iload 38 X1 hx (dd d7_36) rfl rfl ?_
  refine Gz.aloadN 39 X1 hx (dd d7_38) rfl rfl rfl ?_
  refine Gz.getF 42 X1 hx hZ hown (dd d7_39) (host := "") (Or.inl (ww hw 23 rfl)) Via.refl e1 F_valueCounts_a0 rfl fun T4 X4 e4 => ?_
  refine Gz.iloadN 43 X4 hx (dd d7_42) rfl rfl ?_
  obtain ⟨c5, A5, q5, S5, N5, H5, G5⟩ := id V_ac
  have hin5 : ¬ ((3 : Int32) < 0 ∨ c5.slots.size ≤ ((3 : Int32)).toNatClampNeg) := inb_of S5 ⟨by decide, by decide⟩
  refine Gz.ldI 44 X4 hx hZ (dd d7_43) e4 A5 hin5 (Has.at H5 hin5 (rfl : _ = ((.int v3) : Value))) rfl ?_
  refine Gz.imul 45 X4 hx (dd d7_44) rfl ?_
  refine Gz.iadd 46 X4 hx (dd d7_45) rfl ?_
  refine Gz.iloadN 47 X4 hx (dd d7_46) rfl rfl ?_
  refine Gz.iadd 48 X4 hx (dd d7_47) rfl ?_
  refine Gz.fin X4 (v := some (.int ((s3 + (p4 * v3)) + p2))) (fun h => by rw [hret] at h; cases h) hlk (by decide) (by decide) (fun fs hr => retI X4 hx hret (dd d7_48) hr) ?_
  rw [e4]
  exact ⟨rfl, N0, rfl⟩
theorem own_c4 (x : Int32) : 0 < ((x &&& (3 : Int32)) + (1 : Int32)).toInt ∧ ((x &&& (3 : Int32)) + (1 : Int32)).toInt ≤ 4 := by
  have hm := c_mask x 3 2 (by decide) (by decide)
  have ha := c_iadd (x &&& (3 : Int32)) 1
  have hr := rng32 ((x &&& (3 : Int32)) + (1 : Int32))
  have h1 : (1 : Int32).toInt = 1 := rfl
  omega
theorem own_nz {z : Int32} (h : 0 < z.toInt ∧ z.toInt ≤ 4) : z ≠ 0 := fun e => by
  have h1 := h.1
  rw [e] at h1
  exact absurd h1 (by decide)
theorem own_and3 (x : Int32) : (x &&& (3 : Int32)) = (0 : Int32) ∨ (x &&& (3 : Int32)) = (1 : Int32) ∨ (x &&& (3 : Int32)) = (2 : Int32) ∨ (x &&& (3 : Int32)) = (3 : Int32) := by
  have hm := c_mask x 3 2 (by decide) (by decide)
  obtain ⟨k, hk, e⟩ := own_nat (x &&& (3 : Int32)) 4 (by decide) (by rw [hm]; omega) (by rw [hm]; omega)
  rw [e]
  have : k = 0 ∨ k = 1 ∨ k = 2 ∨ k = 3 := by omega
  rcases this with rfl | rfl | rfl | rfl <;> decide
theorem own_three (x : Int32) : ((x &&& (2147483647 : Int32)) % (3 : Int32)) = (0 : Int32) ∨ ((x &&& (2147483647 : Int32)) % (3 : Int32)) = (1 : Int32) ∨ ((x &&& (2147483647 : Int32)) % (3 : Int32)) = (2 : Int32) := by
  have hm := c_mask x 2147483647 31 (by decide) (by decide)
  obtain ⟨k, hk, e⟩ := own_rem (x &&& (2147483647 : Int32)) 3 (by decide) (by rw [hm]; omega) 3 (by decide) (by decide)
  rw [e]
  have : k = 0 ∨ k = 1 ∨ k = 2 := by omega
  rcases this with rfl | rfl | rfl <;> decide
theorem own_pm {x y : Int64} {m n : Int} (hx : 0 ≤ x.toInt ∧ x.toInt ≤ m) (hy : 0 ≤ y.toInt ∧ y.toInt ≤ n) (hm : m ≤ 1048576) (hn : n ≤ 1048576) : 0 ≤ (x * y).toInt ∧ (x * y).toInt ≤ m * n ∧ m * n ≤ 1099511627776 := by
  have h0 : 0 ≤ x.toInt * y.toInt := Int.mul_nonneg hx.1 hy.1
  have h1 : x.toInt * y.toInt ≤ m * n := Int.mul_le_mul hx.2 hy.2 hy.1 (by omega)
  have h2 : m * n ≤ 1048576 * 1048576 := Int.mul_le_mul hm hn (by omega) (by omega)
  have e : (x * y).toInt = x.toInt * y.toInt := by
    rw [Int64.toInt_mul]
    exact Int.bmod_eq_of_le (by omega) (by omega)
  omega
theorem own_pa {x y : Int64} {m n : Int} (hx : 0 ≤ x.toInt ∧ x.toInt ≤ m) (hy : 0 ≤ y.toInt ∧ y.toInt ≤ n) (hm : m ≤ 1048576) (hn : n ≤ 1048576) : 0 ≤ (x + y).toInt ∧ (x + y).toInt ≤ m + n := by
  have := c_ladd x y
  have := rng64 (x + y)
  omega
theorem own_cnt4 (a : Addr) (v0 v1 v2 v3 : Int32) (h0 : 0 < v0.toInt ∧ v0.toInt ≤ 4) (h1 : 0 < v1.toInt ∧ v1.toInt ≤ 4) (h2 : 0 < v2.toInt ∧ v2.toInt ≤ 4) (h3 : 0 < v3.toInt ∧ v3.toInt ≤ 4) : ¬ ((2147483639 : Int64) < fC4 a v0 v1 v2 v3) := by
  unfold fC4
  rw [Int64.zero_mul, Int64.zero_add, Int64.zero_add, Int64.zero_add]
  have e0 : 0 ≤ v0.toInt64.toInt ∧ v0.toInt64.toInt ≤ 4 := by rw [c_i2l]; omega
  have e1 : 0 ≤ v1.toInt64.toInt ∧ v1.toInt64.toInt ≤ 4 := by rw [c_i2l]; omega
  have e2 : 0 ≤ v2.toInt64.toInt ∧ v2.toInt64.toInt ≤ 4 := by rw [c_i2l]; omega
  have e3 : 0 ≤ v3.toInt64.toInt ∧ v3.toInt64.toInt ≤ 4 := by rw [c_i2l]; omega
  have p := own_pm e0 e1 (by omega) (by omega)
  have s1 := own_pa e0 e1 (by omega) (by omega)
  have q := own_pm s1 e2 (by omega) (by omega)
  have t1 := own_pa ⟨p.1, p.2.1⟩ ⟨q.1, q.2.1⟩ (by omega) (by omega)
  have s2 := own_pa s1 e2 (by omega) (by omega)
  have r := own_pm s2 e3 (by omega) (by omega)
  have t2 := own_pa t1 ⟨r.1, r.2.1⟩ (by omega) (by omega)
  rw [Int64.lt_iff_toInt_lt, show (2147483639 : Int64).toInt = 2147483639 from rfl]
  omega
theorem pd_1 : parseMethodDescriptor "([I)V" = some ⟨[(.array .int)], none⟩ := by decide +kernel
theorem pd_2 : parseMethodDescriptor "(II)I" = some ⟨[.int, .int], some .int⟩ := by decide +kernel
theorem pd_3 : parseMethodDescriptor "(IIIIII)I" = some ⟨[.int, .int, .int, .int, .int, .int], some .int⟩ := by decide +kernel
theorem pd_4 : parseMethodDescriptor "(IIII)I" = some ⟨[.int, .int, .int, .int], some .int⟩ := by decide +kernel
theorem ef_rm0 (m : MethodId) (p0 : Int32) (p1 : Int32) (p2 : Int32) (p3 : Int32) (p4 : Int32) : entryFrame m #[(.int p0), (.int p1), (.int p2), (.int p3), (.int p4)] maxLocals = mkF m 0 #[.val (.int p0), .val (.int p1), .val (.int p2), .val (.int p3), .val (.int p4), .unset, .unset, .unset, .unset, .unset, .unset, .unset, .unset, .unset, .unset, .unset, .unset, .unset, .unset, .unset] [] := by first | (simp [entryFrame, mkF, argsToLocals, Value.category, maxLocals]; done) | rfl
def Q_law (n0 : Nat) (v : Option Value) (h : Heap) (L : List Loc) : Prop := v = some (.int 1) ∧ Fr n0 L
set_option maxRecDepth 65536 in
set_option maxHeartbeats 40000000 in
theorem rm0 (l : Launch) (Z : State) (av0 : Array Value) (hw : ∀ d ∈ tables_1, d.before av0 Z = true) (ws : List Jvm.Cond) (p0 : Int32) (p1 : Int32) (p2 : Int32) (p3 : Int32) (p4 : Int32) (h0 : Heap) (n0 : Nat) (Z0 : n0 ≤ h0.size)  :
    MetFree l x (head1 (Jvm.Cond.code x code maxLocals ret :: ws) room_1) (fun a U => a = #[(.int p0), (.int p1), (.int p2), (.int p3), (.int p4)] ∧ Z.Warmed39 U.vm ∧ U.heap = h0) (fun _ _ _ _ _ => True) (fun _ U o U' => ∃ v L, o = .returned v ∧ Q_law n0 v U'.heap L ∧ FrameEnd U o U' L 32 192) := by
  refine MetFree.of_bodySF (plainFor_of_name pn_0) hisR ?_
  intro p e s m args below meth c s₁ Bd hml0 hP hK
  obtain ⟨rfl, hZ, hh⟩ := hP
  have hx := Bd.exec
  have hby := Bd.bytes
  have hml : c.maxLocals = 20 := hml0
  have dd : ∀ {pc : Nat} {r : Except DecodeError (Instr × Nat)}, decode code pc = r → decode c.code pc = r := fun q => hb hby q
  have hown : s.vm.findClass "com/example/minsuite/minsuite/ValuePairsIndexPinLaw" = some m.cls := findClass_of_methodNamed Bd.named
  have hnm := (name_of_methodNamed Bd.named Bd.method).1
  have X0 : Stand p l e room_1 s m #[(.int p0), (.int p1), (.int p2), (.int p3), (.int p4)] below meth c s₁ [] 0 0 := Stand.of_body Bd
  have e0 : s₁.heap = h0 := by rw [← hh, Bd.state]; rfl
  have N0 := Fr.nil n0
  have hret := Bd.returns
  have hlk := Bd.notSynchronized
  show Gz p e below s 32 192 (Q_law n0) (s₁.setTop (entryFrame m #[(.int p0), (.int p1), (.int p2), (.int p3), (.int p4)] maxLocals))
  refine Gz.enter (ef_rm0 m p0 p1 p2 p3 p4) ?_
  refine Gz.iloadN 1 X0 hx (dd at_0) rfl rfl ?_
  refine Gz.iconst 2 (3 : Int32) X0 hx (dd at_1) rfl rfl ?_
  refine Gz.iand 3 X0 hx (dd at_2) rfl ?_
  refine Gz.iconst 4 (1 : Int32) X0 hx (dd at_3) rfl rfl ?_
  refine Gz.iadd 5 X0 hx (dd at_4) rfl ?_
  show Gz p e below s _ _ _ (s₁.setTop (mkF m 5 #[.val (.int p0), .val (.int p1), .val (.int p2), .val (.int p3), .val (.int p4), .unset, .unset, .unset, .unset, .unset, .unset, .unset, .unset, .unset, .unset, .unset, .unset, .unset, .unset, .unset] [(.int ((p0 &&& (3 : Int32)) + (1 : Int32)))]))
  obtain ⟨cc0, q_cc0, h_cc0⟩ : ∃ z, ((p0 &&& (3 : Int32)) + (1 : Int32)) = z ∧ (0 < z.toInt ∧ z.toInt ≤ 4) := ⟨_, rfl, own_c4 _⟩
  rw [q_cc0]
  show Gz p e below s _ _ _ (s₁.setTop (mkF m 5 #[.val (.int p0), .val (.int p1), .val (.int p2), .val (.int p3), .val (.int p4), .unset, .unset, .unset, .unset, .unset, .unset, .unset, .unset, .unset, .unset, .unset, .unset, .unset, .unset, .unset] [(.int cc0)]))
  refine Gz.istore 7 #[.val (.int p0), .val (.int p1), .val (.int p2), .val (.int p3), .val (.int p4), .val (.int cc0), .unset, .unset, .unset, .unset, .unset, .unset, .unset, .unset, .unset, .unset, .unset, .unset, .unset, .unset] X0 hx (dd at_5) rfl rfl ?_
  refine Gz.iloadN 8 X0 hx (dd at_7) rfl rfl ?_
  refine Gz.iconst 9 (2 : Int32) X0 hx (dd at_8) rfl rfl ?_
  refine Gz.iushr 10 X0 hx (dd at_9) rfl ?_
  refine Gz.iconst 11 (3 : Int32) X0 hx (dd at_10) rfl rfl ?_
  refine Gz.iand 12 X0 hx (dd at_11) rfl ?_
  refine Gz.iconst 13 (1 : Int32) X0 hx (dd at_12) rfl rfl ?_
  refine Gz.iadd 14 X0 hx (dd at_13) rfl ?_
  show Gz p e below s _ _ _ (s₁.setTop (mkF m 14 #[.val (.int p0), .val (.int p1), .val (.int p2), .val (.int p3), .val (.int p4), .val (.int cc0), .unset, .unset, .unset, .unset, .unset, .unset, .unset, .unset, .unset, .unset, .unset, .unset, .unset, .unset] [(.int ((((p0.toUInt32 >>> ((2 : Int32) &&& 31).toUInt32).toInt32) &&& (3 : Int32)) + (1 : Int32)))]))
  obtain ⟨cc1, q_cc1, h_cc1⟩ : ∃ z, ((((p0.toUInt32 >>> ((2 : Int32) &&& 31).toUInt32).toInt32) &&& (3 : Int32)) + (1 : Int32)) = z ∧ (0 < z.toInt ∧ z.toInt ≤ 4) := ⟨_, rfl, own_c4 _⟩
  rw [q_cc1]
  show Gz p e below s _ _ _ (s₁.setTop (mkF m 14 #[.val (.int p0), .val (.int p1), .val (.int p2), .val (.int p3), .val (.int p4), .val (.int cc0), .unset, .unset, .unset, .unset, .unset, .unset, .unset, .unset, .unset, .unset, .unset, .unset, .unset, .unset] [(.int cc1)]))
  refine Gz.istore 16 #[.val (.int p0), .val (.int p1), .val (.int p2), .val (.int p3), .val (.int p4), .val (.int cc0), .val (.int cc1), .unset, .unset, .unset, .unset, .unset, .unset, .unset, .unset, .unset, .unset, .unset, .unset, .unset] X0 hx (dd at_14) rfl rfl ?_
  refine Gz.iloadN 17 X0 hx (dd at_16) rfl rfl ?_
  refine Gz.iconst 18 (4 : Int32) X0 hx (dd at_17) rfl rfl ?_
  refine Gz.iushr 19 X0 hx (dd at_18) rfl ?_
  refine Gz.iconst 20 (3 : Int32) X0 hx (dd at_19) rfl rfl ?_
  refine Gz.iand 21 X0 hx (dd at_20) rfl ?_
  refine Gz.iconst 22 (1 : Int32) X0 hx (dd at_21) rfl rfl ?_
  refine Gz.iadd 23 X0 hx (dd at_22) rfl ?_
  show Gz p e below s _ _ _ (s₁.setTop (mkF m 23 #[.val (.int p0), .val (.int p1), .val (.int p2), .val (.int p3), .val (.int p4), .val (.int cc0), .val (.int cc1), .unset, .unset, .unset, .unset, .unset, .unset, .unset, .unset, .unset, .unset, .unset, .unset, .unset] [(.int ((((p0.toUInt32 >>> ((4 : Int32) &&& 31).toUInt32).toInt32) &&& (3 : Int32)) + (1 : Int32)))]))
  obtain ⟨cc2, q_cc2, h_cc2⟩ : ∃ z, ((((p0.toUInt32 >>> ((4 : Int32) &&& 31).toUInt32).toInt32) &&& (3 : Int32)) + (1 : Int32)) = z ∧ (0 < z.toInt ∧ z.toInt ≤ 4) := ⟨_, rfl, own_c4 _⟩
  rw [q_cc2]
  show Gz p e below s _ _ _ (s₁.setTop (mkF m 23 #[.val (.int p0), .val (.int p1), .val (.int p2), .val (.int p3), .val (.int p4), .val (.int cc0), .val (.int cc1), .unset, .unset, .unset, .unset, .unset, .unset, .unset, .unset, .unset, .unset, .unset, .unset, .unset] [(.int cc2)]))
  refine Gz.istore 25 #[.val (.int p0), .val (.int p1), .val (.int p2), .val (.int p3), .val (.int p4), .val (.int cc0), .val (.int cc1), .val (.int cc2), .unset, .unset, .unset, .unset, .unset, .unset, .unset, .unset, .unset, .unset, .unset, .unset] X0 hx (dd at_23) rfl rfl ?_
  refine Gz.iloadN 26 X0 hx (dd at_25) rfl rfl ?_
  refine Gz.bipush 28 (6 : Int32) X0 hx (dd at_26) rfl rfl ?_
  refine Gz.iushr 29 X0 hx (dd at_28) rfl ?_
  refine Gz.iconst 30 (3 : Int32) X0 hx (dd at_29) rfl rfl ?_
  refine Gz.iand 31 X0 hx (dd at_30) rfl ?_
  refine Gz.iconst 32 (1 : Int32) X0 hx (dd at_31) rfl rfl ?_
  refine Gz.iadd 33 X0 hx (dd at_32) rfl ?_
  show Gz p e below s _ _ _ (s₁.setTop (mkF m 33 #[.val (.int p0), .val (.int p1), .val (.int p2), .val (.int p3), .val (.int p4), .val (.int cc0), .val (.int cc1), .val (.int cc2), .unset, .unset, .unset, .unset, .unset, .unset, .unset, .unset, .unset, .unset, .unset, .unset] [(.int ((((p0.toUInt32 >>> ((6 : Int32) &&& 31).toUInt32).toInt32) &&& (3 : Int32)) + (1 : Int32)))]))
  obtain ⟨cc3, q_cc3, h_cc3⟩ : ∃ z, ((((p0.toUInt32 >>> ((6 : Int32) &&& 31).toUInt32).toInt32) &&& (3 : Int32)) + (1 : Int32)) = z ∧ (0 < z.toInt ∧ z.toInt ≤ 4) := ⟨_, rfl, own_c4 _⟩
  rw [q_cc3]
  show Gz p e below s _ _ _ (s₁.setTop (mkF m 33 #[.val (.int p0), .val (.int p1), .val (.int p2), .val (.int p3), .val (.int p4), .val (.int cc0), .val (.int cc1), .val (.int cc2), .unset, .unset, .unset, .unset, .unset, .unset, .unset, .unset, .unset, .unset, .unset, .unset] [(.int cc3)]))
  refine Gz.istore 35 #[.val (.int p0), .val (.int p1), .val (.int p2), .val (.int p3), .val (.int p4), .val (.int cc0), .val (.int cc1), .val (.int cc2), .val (.int cc3), .unset, .unset, .unset, .unset, .unset, .unset, .unset, .unset, .unset, .unset, .unset] X0 hx (dd at_33) rfl rfl ?_
  refine Gz.iconst 36 (4 : Int32) X0 hx (dd at_35) rfl rfl ?_
  obtain ⟨T1, h1, k1, X1, e1, E1, A1, Q1, st1⟩ := newPE X0 hx hZ (ww hw 0 rfl) e0 (g := (mkF m 36 #[.val (.int p0), .val (.int p1), .val (.int p2), .val (.int p3), .val (.int p4), .val (.int cc0), .val (.int cc1), .val (.int cc2), .val (.int cc3), .unset, .unset, .unset, .unset, .unset, .unset, .unset, .unset, .unset, .unset, .unset] [(.int (4 : Int32))])) rfl (dd at_36) rfl (by decide) (cap := 4) (by decide) (by decide) (by decide) (by decide) (ad := "[I") rfl
  obtain ⟨b1, g1⟩ : ∃ z, z = h0.size := ⟨_, rfl⟩
  rw [← g1] at A1 Q1 st1
  have g_b1 : n0 ≤ b1 := Nat.le_trans Z0 (Nat.le_of_eq g1.symm)
  have SZ1 : n0 ≤ h1.size := Nat.le_trans Z0 E1.1
  have V1 : Arv Z h1 b1 k1 .int (4 : Int32) [(.int (0 : Int32)), (.int (0 : Int32)), (.int (0 : Int32)), (.int (0 : Int32))] (.int (0 : Int32)) := (Arv.new A1 (by decide)).pad (pad_rep [] (.int (0 : Int32)) 4)
  refine Gz.st st1 ?_
  refine Gz.dup 39 X1 hx (dd at_38) rfl rfl ?_
  refine Gz.iconst 40 (0 : Int32) X1 hx (dd at_39) rfl rfl ?_
  refine Gz.iload 42 X1 hx (dd at_40) rfl rfl ?_
  obtain ⟨c2, A2, q2, S2, N2, H2, G2⟩ := id V1
  have hin2 : ¬ ((0 : Int32) < 0 ∨ c2.slots.size ≤ ((0 : Int32)).toNatClampNeg) := inb_of S2 ⟨by decide, by decide⟩
  refine Gz.stI 43 X1 hx hZ (dd at_42) e1 A2 hin2 rfl fun T3 h3 X3 e3 W3 => ?_
  have V3 := Arv.set A2 q2 S2 N2 H2 G2 rfl W3 0 rfl (Nat.le_of_ble_eq_true rfl)
  replace V3 : Arv Z h3 b1 k1 .int (4 : Int32) [(.int cc0), (.int (0 : Int32)), (.int (0 : Int32)), (.int (0 : Int32))] (.int (0 : Int32)) := V3
  have f3_Eb1 := Exa.wr W3 Q1
  have N3 := Fr.snoc X3 N0 g_b1
  have SZ3 : n0 ≤ h3.size := Nat.le_trans SZ1 (Keep.of_wr W3).1
  refine Gz.dup 44 X3 hx (dd at_43) rfl rfl ?_
  refine Gz.iconst 45 (1 : Int32) X3 hx (dd at_44) rfl rfl ?_
  refine Gz.iload 47 X3 hx (dd at_45) rfl rfl ?_
  obtain ⟨c4, A4, q4, S4, N4, H4, G4⟩ := id V3
  have hin4 : ¬ ((1 : Int32) < 0 ∨ c4.slots.size ≤ ((1 : Int32)).toNatClampNeg) := inb_of S4 ⟨by decide, by decide⟩
  refine Gz.stI 48 X3 hx hZ (dd at_47) e3 A4 hin4 rfl fun T5 h5 X5 e5 W5 => ?_
  have V5 := Arv.set A4 q4 S4 N4 H4 G4 rfl W5 1 rfl (Nat.le_of_ble_eq_true rfl)
  replace V5 : Arv Z h5 b1 k1 .int (4 : Int32) [(.int cc0), (.int cc1), (.int (0 : Int32)), (.int (0 : Int32))] (.int (0 : Int32)) := V5
  have f5_Eb1 := Exa.wr W5 f3_Eb1
  have N5 := Fr.snoc X5 N3 g_b1
  have SZ5 : n0 ≤ h5.size := Nat.le_trans SZ3 (Keep.of_wr W5).1
  refine Gz.dup 49 X5 hx (dd at_48) rfl rfl ?_
  refine Gz.iconst 50 (2 : Int32) X5 hx (dd at_49) rfl rfl ?_
  refine Gz.iload 52 X5 hx (dd at_50) rfl rfl ?_
  obtain ⟨c6, A6, q6, S6, N6, H6, G6⟩ := id V5
  have hin6 : ¬ ((2 : Int32) < 0 ∨ c6.slots.size ≤ ((2 : Int32)).toNatClampNeg) := inb_of S6 ⟨by decide, by decide⟩
  refine Gz.stI 53 X5 hx hZ (dd at_52) e5 A6 hin6 rfl fun T7 h7 X7 e7 W7 => ?_
  have V7 := Arv.set A6 q6 S6 N6 H6 G6 rfl W7 2 rfl (Nat.le_of_ble_eq_true rfl)
  replace V7 : Arv Z h7 b1 k1 .int (4 : Int32) [(.int cc0), (.int cc1), (.int cc2), (.int (0 : Int32))] (.int (0 : Int32)) := V7
  have f7_Eb1 := Exa.wr W7 f5_Eb1
  have N7 := Fr.snoc X7 N5 g_b1
  have SZ7 : n0 ≤ h7.size := Nat.le_trans SZ5 (Keep.of_wr W7).1
  refine Gz.dup 54 X7 hx (dd at_53) rfl rfl ?_
  refine Gz.iconst 55 (3 : Int32) X7 hx (dd at_54) rfl rfl ?_
  refine Gz.iload 57 X7 hx (dd at_55) rfl rfl ?_
  obtain ⟨c8, A8, q8, S8, N8, H8, G8⟩ := id V7
  have hin8 : ¬ ((3 : Int32) < 0 ∨ c8.slots.size ≤ ((3 : Int32)).toNatClampNeg) := inb_of S8 ⟨by decide, by decide⟩
  refine Gz.stI 58 X7 hx hZ (dd at_57) e7 A8 hin8 rfl fun T9 h9 X9 e9 W9 => ?_
  have V9 := Arv.set A8 q8 S8 N8 H8 G8 rfl W9 3 rfl (Nat.le_of_ble_eq_true rfl)
  replace V9 : Arv Z h9 b1 k1 .int (4 : Int32) [(.int cc0), (.int cc1), (.int cc2), (.int cc3)] (.int (0 : Int32)) := V9
  have f9_Eb1 := Exa.wr W9 f7_Eb1
  have N9 := Fr.snoc X9 N7 g_b1
  have SZ9 : n0 ≤ h9.size := Nat.le_trans SZ7 (Keep.of_wr W9).1
  refine Gz.astore 60 #[.val (.int p0), .val (.int p1), .val (.int p2), .val (.int p3), .val (.int p4), .val (.int cc0), .val (.int cc1), .val (.int cc2), .val (.int cc3), .val (.ref b1), .unset, .unset, .unset, .unset, .unset, .unset, .unset, .unset, .unset, .unset] X9 hx (dd at_58) rfl rfl rfl ?_
  obtain ⟨T10, h10, X10, e10, E10, A10, D10, -, st10⟩ := newO X9 hx hZ hown (ww hw 1 rfl) (ww hw 2 rfl) (ww hw 3 rfl) e9 (g := (mkF m 60 #[.val (.int p0), .val (.int p1), .val (.int p2), .val (.int p3), .val (.int p4), .val (.int cc0), .val (.int cc1), .val (.int cc2), .val (.int cc3), .val (.ref b1), .unset, .unset, .unset, .unset, .unset, .unset, .unset, .unset, .unset, .unset] [])) rfl (dd at_60) (by decide) (by decide)
  obtain ⟨b10, g10⟩ : ∃ z, z = h9.size := ⟨_, rfl⟩
  rw [← g10] at A10 D10 st10
  have ne_b1_b10 : b1 ≠ b10 := Nat.ne_of_lt (Nat.lt_of_lt_of_le (f9_Eb1).lt (Nat.le_of_eq g10.symm))
  have g_b10 : n0 ≤ b10 := Nat.le_trans SZ9 (Nat.le_of_eq g10.symm)
  have SZ10 : n0 ≤ h10.size := Nat.le_trans SZ9 E10.1
  have f10_Eb1 := Exa.ext E10 f9_Eb1
  have f10_Vb1 := Arv.ext V9 E10
  have F_valueCounts_b10 : Fld Z h10 b10 "com/example/minsuite/minsuite/ValuePairs" "valueCounts" "[I" .null := D10 (Or.inr (ww hw 24 rfl)) (ty := (.array .int)) (by decide)
  have F_start_b10 : Fld Z h10 b10 "com/example/minsuite/minsuite/ValuePairs" "start" "[[I" .null := D10 (Or.inr (ww hw 28 rfl)) (ty := (.array (.array .int))) (by decide)
  have F_firstOf_b10 : Fld Z h10 b10 "com/example/minsuite/minsuite/ValuePairs" "firstOf" "[I" .null := D10 (Or.inr (ww hw 30 rfl)) (ty := (.array .int)) (by decide)
  have F_secondOf_b10 : Fld Z h10 b10 "com/example/minsuite/minsuite/ValuePairs" "secondOf" "[I" .null := D10 (Or.inr (ww hw 32 rfl)) (ty := (.array .int)) (by decide)
  have F_startOf_b10 : Fld Z h10 b10 "com/example/minsuite/minsuite/ValuePairs" "startOf" "[I" .null := D10 (Or.inr (ww hw 34 rfl)) (ty := (.array .int)) (by decide)
  have F_count_b10 : Fld Z h10 b10 "com/example/minsuite/minsuite/ValuePairs" "count" "I" (.int (0 : Int32)) := D10 (Or.inr (ww hw 36 rfl)) (ty := .int) (by decide)
  refine Gz.st st10 ?_
  refine Gz.dup 64 X10 hx (dd at_63) rfl rfl ?_
  refine Gz.aload 66 X10 hx (dd at_64) rfl rfl rfl ?_
  obtain ⟨_, _, ⟨T11, L11, k11, n11⟩, -, X11, ⟨Lc11, hQ11, l11, y11, z11⟩, st11⟩ := X10.specialBack hx (y := (⟨"com/example/minsuite/minsuite/ValuePairs", "<init>", "([I)V"⟩ : MethodName)) rfl hown (mvT hZ (ww hw 4 rfl)) (mvT hZ (ww hw 5 rfl)) (mvT hZ (ww hw 6 rfl)) (by decide) (backOf (W := 1) (rmI4 l Z av0 hw [] b10 b1 k1 cc0 cc1 cc2 cc3 h10 n0 SZ10 A10 F_valueCounts_b10 F_start_b10 F_firstOf_b10 F_secondOf_b10 F_startOf_b10 F_count_b10 g_b10 f10_Vb1 f10_Eb1 ne_b1_b10 (own_cnt4 b1 cc0 cc1 cc2 cc3 h_cc0 h_cc1 h_cc2 h_cc3)) hZ (ww hw 6 rfl) (ww hw 3 rfl) (by decide) (by decide)) (g := (mkF m 66 #[.val (.int p0), .val (.int p1), .val (.int p2), .val (.int p3), .val (.int p4), .val (.int cc0), .val (.int cc1), .val (.int cc2), .val (.int cc3), .val (.ref b1), .unset, .unset, .unset, .unset, .unset, .unset, .unset, .unset, .unset, .unset] [(.ref b1), (.ref b10), (.ref b10)])) rfl (by rw [hml]; rfl) (Steps.refl _) (a := b10) (argsL := [(.ref b1)]) (rest := [(.ref b10)]) (lenOf pd_1 rfl) rfl (by show 2 * 0 + _ ≤ _; exact Nat.le_of_eq rfl) (dd at_66) (fun _ _ => ⟨rfl, e10, (by decide : 2 + 9 ≤ _), (by decide : 10 + 42 ≤ _)⟩)
  dsimp only [Pt.U, Pt.locs, Pt.cells, Pt.slots, Q_rmI4] at X11 l11 y11 z11 st11 hQ11
  subst l11 y11 z11
  obtain ⟨rfl, N11q, K11q, QE11, ac11, kc11, so11, ks11, r0_11, r1_11, r2_11, r3_11, kr11, QF11, QA11, QG11, QS11, QR0_11, QR1_11, QR2_11, QR3_11⟩ := hQ11
  have N11 := Fr.app N9 N11q
  have f11_Eb1 := Exa.keep f10_Eb1 K11q
  have f11_Vb1 := Arv.keep f10_Vb1 K11q (ninS ne_b1_b10 nin0)
  have f11_Eb10 := Exa.keep A10 K11q
  have SZ11 := Nat.le_trans SZ10 K11q.1
  refine Gz.tr st11 ?_
  refine Gz.astore 71 #[.val (.int p0), .val (.int p1), .val (.int p2), .val (.int p3), .val (.int p4), .val (.int cc0), .val (.int cc1), .val (.int cc2), .val (.int cc3), .val (.ref b1), .val (.ref b10), .unset, .unset, .unset, .unset, .unset, .unset, .unset, .unset, .unset] X11 hx (dd at_69) rfl rfl rfl ?_
  refine Gz.iloadN 72 X11 hx (dd at_71) rfl rfl ?_
  refine Gz.iconst 73 (3 : Int32) X11 hx (dd at_72) rfl rfl ?_
  refine Gz.iand 74 X11 hx (dd at_73) rfl ?_
  show Gz p e below s _ _ _ (T11.setTop (mkF m 74 #[.val (.int p0), .val (.int p1), .val (.int p2), .val (.int p3), .val (.int p4), .val (.int cc0), .val (.int cc1), .val (.int cc2), .val (.int cc3), .val (.ref b1), .val (.ref b10), .unset, .unset, .unset, .unset, .unset, .unset, .unset, .unset, .unset] [(.int (p1 &&& (3 : Int32)))]))
  rcases own_and3 p1 with hs12 | hs12 | hs12 | hs12
  · rw [hs12]
    refine Gz.istore 76 #[.val (.int p0), .val (.int p1), .val (.int p2), .val (.int p3), .val (.int p4), .val (.int cc0), .val (.int cc1), .val (.int cc2), .val (.int cc3), .val (.ref b1), .val (.ref b10), .val (.int (0 : Int32)), .unset, .unset, .unset, .unset, .unset, .unset, .unset, .unset] X11 hx (dd at_74) rfl rfl ?_
    refine Gz.iload 78 X11 hx (dd at_76) rfl rfl ?_
    refine Gz.iconst 79 (1 : Int32) X11 hx (dd at_78) rfl rfl ?_
    refine Gz.iaddV 80 (1 : Int32) X11 hx (dd at_79) rfl rfl ?_
    refine Gz.iloadN 81 X11 hx (dd at_80) rfl rfl ?_
    refine Gz.ldcI 83 X11 hx (dd at_81) hown (mvT hZ (ww hw 37 rfl)) rfl ?_
    refine Gz.iand 84 X11 hx (dd at_83) rfl ?_
    refine Gz.iconst 85 (3 : Int32) X11 hx (dd at_84) rfl rfl ?_
    refine Gz.irem 86 X11 hx (dd at_85) (by decide) rfl ?_
    show Gz p e below s _ _ _ (T11.setTop (mkF m 86 #[.val (.int p0), .val (.int p1), .val (.int p2), .val (.int p3), .val (.int p4), .val (.int cc0), .val (.int cc1), .val (.int cc2), .val (.int cc3), .val (.ref b1), .val (.ref b10), .val (.int (0 : Int32)), .unset, .unset, .unset, .unset, .unset, .unset, .unset, .unset] [(.int ((p2 &&& (2147483647 : Int32)) % (3 : Int32))), (.int (1 : Int32))]))
    rcases own_three p2 with hs13 | hs13 | hs13
    · rw [hs13]
      refine Gz.iaddV 87 (1 : Int32) X11 hx (dd at_86) rfl rfl ?_
      refine Gz.iconst 88 (3 : Int32) X11 hx (dd at_87) rfl rfl ?_
      refine Gz.iandV 89 (1 : Int32) X11 hx (dd at_88) rfl rfl ?_
      refine Gz.istore 91 #[.val (.int p0), .val (.int p1), .val (.int p2), .val (.int p3), .val (.int p4), .val (.int cc0), .val (.int cc1), .val (.int cc2), .val (.int cc3), .val (.ref b1), .val (.ref b10), .val (.int (0 : Int32)), .val (.int (1 : Int32)), .unset, .unset, .unset, .unset, .unset, .unset, .unset] X11 hx (dd at_89) rfl rfl ?_
      refine Gz.iloadN 92 X11 hx (dd at_91) rfl rfl ?_
      refine Gz.ldcI 94 X11 hx (dd at_92) hown (mvT hZ (ww hw 37 rfl)) rfl ?_
      refine Gz.iand 95 X11 hx (dd at_94) rfl ?_
      refine Gz.aload 97 X11 hx (dd at_95) rfl rfl rfl ?_
      refine Gz.iload 99 X11 hx (dd at_97) rfl rfl ?_
      obtain ⟨c14, A14, q14, S14, N14, H14, G14⟩ := id f11_Vb1
      have hin14 : ¬ ((0 : Int32) < 0 ∨ c14.slots.size ≤ ((0 : Int32)).toNatClampNeg) := inb_of S14 ⟨by decide, by decide⟩
      refine Gz.ldI 100 X11 hx hZ (dd at_99) rfl A14 hin14 (Has.at H14 hin14 (rfl : _ = ((.int cc0) : Value))) rfl ?_
      refine Gz.irem 101 X11 hx (dd at_100) (own_nz h_cc0) rfl ?_
      refine Gz.istore 103 #[.val (.int p0), .val (.int p1), .val (.int p2), .val (.int p3), .val (.int p4), .val (.int cc0), .val (.int cc1), .val (.int cc2), .val (.int cc3), .val (.ref b1), .val (.ref b10), .val (.int (0 : Int32)), .val (.int (1 : Int32)), .val (.int ((p3 &&& (2147483647 : Int32)) % cc0)), .unset, .unset, .unset, .unset, .unset, .unset] X11 hx (dd at_101) rfl rfl ?_
      refine Gz.iload 105 X11 hx (dd at_103) rfl rfl ?_
      refine Gz.ldcI 107 X11 hx (dd at_105) hown (mvT hZ (ww hw 37 rfl)) rfl ?_
      refine Gz.iand 108 X11 hx (dd at_107) rfl ?_
      refine Gz.aload 110 X11 hx (dd at_108) rfl rfl rfl ?_
      refine Gz.iload 112 X11 hx (dd at_110) rfl rfl ?_
      obtain ⟨c15, A15, q15, S15, N15, H15, G15⟩ := id f11_Vb1
      have hin15 : ¬ ((1 : Int32) < 0 ∨ c15.slots.size ≤ ((1 : Int32)).toNatClampNeg) := inb_of S15 ⟨by decide, by decide⟩
      refine Gz.ldI 113 X11 hx hZ (dd at_112) rfl A15 hin15 (Has.at H15 hin15 (rfl : _ = ((.int cc1) : Value))) rfl ?_
      refine Gz.irem 114 X11 hx (dd at_113) (own_nz h_cc1) rfl ?_
      refine Gz.istore 116 #[.val (.int p0), .val (.int p1), .val (.int p2), .val (.int p3), .val (.int p4), .val (.int cc0), .val (.int cc1), .val (.int cc2), .val (.int cc3), .val (.ref b1), .val (.ref b10), .val (.int (0 : Int32)), .val (.int (1 : Int32)), .val (.int ((p3 &&& (2147483647 : Int32)) % cc0)), .val (.int ((p4 &&& (2147483647 : Int32)) % cc1)), .unset, .unset, .unset, .unset, .unset] X11 hx (dd at_114) rfl rfl ?_
      refine Gz.iload 118 X11 hx (dd at_116) rfl rfl ?_
      refine Gz.iload 120 X11 hx (dd at_118) rfl rfl ?_
      obtain ⟨_, _, ⟨T16, L16, k16, n16⟩, -, X16, ⟨Lc16, hQ16, l16, y16, z16⟩, st16⟩ := Jvm.LawKit.callS X11 hx (y := (⟨"java/lang/Math", "min", "(II)I"⟩ : MethodName)) hown (mvT hZ (ww hw 38 rfl)) (mvT hZ (ww hw 39 rfl)) (mvT hZ (ww hw 40 rfl)) (mvT hZ (ww hw 41 rfl)) (by decide) (backOf (W := 0) (rm4 l Z av0 hw [] (0 : Int32) (1 : Int32)  T11.heap n0 SZ11 ) hZ (ww hw 41 rfl) (ww hw 40 rfl) (by decide) (by decide)) (g := (mkF m 120 #[.val (.int p0), .val (.int p1), .val (.int p2), .val (.int p3), .val (.int p4), .val (.int cc0), .val (.int cc1), .val (.int cc2), .val (.int cc3), .val (.ref b1), .val (.ref b10), .val (.int (0 : Int32)), .val (.int (1 : Int32)), .val (.int ((p3 &&& (2147483647 : Int32)) % cc0)), .val (.int ((p4 &&& (2147483647 : Int32)) % cc1)), .unset, .unset, .unset, .unset, .unset] [(.int (1 : Int32)), (.int (0 : Int32))])) rfl (by rw [hml]; rfl) (argsL := [(.int (0 : Int32)), (.int (1 : Int32))]) (rest := []) (lenOf pd_2 rfl) rfl (by show 2 * 0 + _ ≤ _; exact Nat.le_of_eq rfl) (dd at_120) (fun _ _ => ⟨rfl, rfl, (by decide : 11 + 0 ≤ _), (by decide : 52 + 0 ≤ _)⟩)
      dsimp only [Pt.U, Pt.locs, Pt.cells, Pt.slots, Q_rm4] at X16 l16 y16 z16 st16 hQ16
      subst l16 y16 z16
      rw [show (fMin (0 : Int32) (1 : Int32)) = (0 : Int32) from (by unfold fMin; rw [if_neg (by decide : ¬ ((1 : Int32) < (0 : Int32)))]; try decide)] at hQ16
      obtain ⟨rfl, N16q, e16⟩ := hQ16
      have N16 := Fr.app N11 N16q
      refine Gz.st st16 ?_
      refine Gz.istore 125 #[.val (.int p0), .val (.int p1), .val (.int p2), .val (.int p3), .val (.int p4), .val (.int cc0), .val (.int cc1), .val (.int cc2), .val (.int cc3), .val (.ref b1), .val (.ref b10), .val (.int (0 : Int32)), .val (.int (1 : Int32)), .val (.int ((p3 &&& (2147483647 : Int32)) % cc0)), .val (.int ((p4 &&& (2147483647 : Int32)) % cc1)), .val (.int (0 : Int32)), .unset, .unset, .unset, .unset] X16 hx (dd at_123) rfl rfl ?_
      refine Gz.iload 127 X16 hx (dd at_125) rfl rfl ?_
      refine Gz.iload 129 X16 hx (dd at_127) rfl rfl ?_
      obtain ⟨_, _, ⟨T17, L17, k17, n17⟩, -, X17, ⟨Lc17, hQ17, l17, y17, z17⟩, st17⟩ := Jvm.LawKit.callS X16 hx (y := (⟨"java/lang/Math", "max", "(II)I"⟩ : MethodName)) hown (mvT hZ (ww hw 42 rfl)) (mvT hZ (ww hw 43 rfl)) (mvT hZ (ww hw 40 rfl)) (mvT hZ (ww hw 44 rfl)) (by decide) (backOf (W := 0) (rm5 l Z av0 hw [] (0 : Int32) (1 : Int32)  T11.heap n0 SZ11 ) hZ (ww hw 44 rfl) (ww hw 40 rfl) (by decide) (by decide)) (g := (mkF m 129 #[.val (.int p0), .val (.int p1), .val (.int p2), .val (.int p3), .val (.int p4), .val (.int cc0), .val (.int cc1), .val (.int cc2), .val (.int cc3), .val (.ref b1), .val (.ref b10), .val (.int (0 : Int32)), .val (.int (1 : Int32)), .val (.int ((p3 &&& (2147483647 : Int32)) % cc0)), .val (.int ((p4 &&& (2147483647 : Int32)) % cc1)), .val (.int (0 : Int32)), .unset, .unset, .unset, .unset] [(.int (1 : Int32)), (.int (0 : Int32))])) rfl (by rw [hml]; rfl) (argsL := [(.int (0 : Int32)), (.int (1 : Int32))]) (rest := []) (lenOf pd_2 rfl) rfl (by show 2 * 0 + _ ≤ _; exact Nat.le_of_eq rfl) (dd at_129) (fun _ _ => ⟨rfl, e16, (by decide : 11 + 0 ≤ _), (by decide : 52 + 0 ≤ _)⟩)
      dsimp only [Pt.U, Pt.locs, Pt.cells, Pt.slots, Q_rm5] at X17 l17 y17 z17 st17 hQ17
      subst l17 y17 z17
      rw [show (fMax (0 : Int32) (1 : Int32)) = (1 : Int32) from (by unfold fMax; rw [if_pos (by decide : (0 : Int32) < (1 : Int32))]; try decide)] at hQ17
      obtain ⟨rfl, N17q, e17⟩ := hQ17
      have N17 := Fr.app N16 N17q
      refine Gz.st st17 ?_
      refine Gz.istore 134 #[.val (.int p0), .val (.int p1), .val (.int p2), .val (.int p3), .val (.int p4), .val (.int cc0), .val (.int cc1), .val (.int cc2), .val (.int cc3), .val (.ref b1), .val (.ref b10), .val (.int (0 : Int32)), .val (.int (1 : Int32)), .val (.int ((p3 &&& (2147483647 : Int32)) % cc0)), .val (.int ((p4 &&& (2147483647 : Int32)) % cc1)), .val (.int (0 : Int32)), .val (.int (1 : Int32)), .unset, .unset, .unset] X17 hx (dd at_132) rfl rfl ?_
      refine Gz.iload 136 X17 hx (dd at_134) rfl rfl ?_
      refine Gz.iload 138 X17 hx (dd at_136) rfl rfl ?_
      refine Gz.icmpNo 141 X17 hx (dd at_138) (teq (by decide : (0 : Int32) = (0 : Int32))).2 rfl ?_
      refine Gz.iload 143 X17 hx (dd at_141) rfl rfl ?_
      refine Gz.istore 145 #[.val (.int p0), .val (.int p1), .val (.int p2), .val (.int p3), .val (.int p4), .val (.int cc0), .val (.int cc1), .val (.int cc2), .val (.int cc3), .val (.ref b1), .val (.ref b10), .val (.int (0 : Int32)), .val (.int (1 : Int32)), .val (.int ((p3 &&& (2147483647 : Int32)) % cc0)), .val (.int ((p4 &&& (2147483647 : Int32)) % cc1)), .val (.int (0 : Int32)), .val (.int (1 : Int32)), .val (.int ((p3 &&& (2147483647 : Int32)) % cc0)), .unset, .unset] X17 hx (dd at_143) rfl rfl ?_
      refine Gz.iload 147 X17 hx (dd at_145) rfl rfl ?_
      refine Gz.istore 149 #[.val (.int p0), .val (.int p1), .val (.int p2), .val (.int p3), .val (.int p4), .val (.int cc0), .val (.int cc1), .val (.int cc2), .val (.int cc3), .val (.ref b1), .val (.ref b10), .val (.int (0 : Int32)), .val (.int (1 : Int32)), .val (.int ((p3 &&& (2147483647 : Int32)) % cc0)), .val (.int ((p4 &&& (2147483647 : Int32)) % cc1)), .val (.int (0 : Int32)), .val (.int (1 : Int32)), .val (.int ((p3 &&& (2147483647 : Int32)) % cc0)), .val (.int ((p4 &&& (2147483647 : Int32)) % cc1)), .unset] X17 hx (dd at_147) rfl rfl ?_
      refine Gz.goto 160 X17 hx (dd at_149) (by decide) (by decide) ?_
      refine Gz.iload 162 X17 hx (dd at_160) rfl rfl ?_
      refine Gz.iload 164 X17 hx (dd at_162) rfl rfl ?_
      refine Gz.iload 166 X17 hx (dd at_164) rfl rfl ?_
      refine Gz.iload 168 X17 hx (dd at_166) rfl rfl ?_
      refine Gz.iload 170 X17 hx (dd at_168) rfl rfl ?_
      refine Gz.iload 172 X17 hx (dd at_170) rfl rfl ?_
      obtain ⟨_, _, ⟨T18, L18, k18, n18⟩, -, X18, ⟨Lc18, hQ18, l18, y18, z18⟩, st18⟩ := Jvm.LawKit.callS X17 hx (y := (⟨"com/example/minsuite/minsuite/ValuePairsIndexPinLaw", "start", "(IIIIII)I"⟩ : MethodName)) hown (mvT hZ (ww hw 45 rfl)) (mvT hZ (ww hw 46 rfl)) (mvT hZ (ww hw 47 rfl)) (mvT hZ (ww hw 48 rfl)) (by decide) (backOf (W := 0) (rm6 l Z av0 hw [] (0 : Int32) (1 : Int32) cc0 cc1 cc2 cc3  T11.heap n0 SZ11 ) hZ (ww hw 48 rfl) (ww hw 47 rfl) (by decide) (by decide)) (g := (mkF m 172 #[.val (.int p0), .val (.int p1), .val (.int p2), .val (.int p3), .val (.int p4), .val (.int cc0), .val (.int cc1), .val (.int cc2), .val (.int cc3), .val (.ref b1), .val (.ref b10), .val (.int (0 : Int32)), .val (.int (1 : Int32)), .val (.int ((p3 &&& (2147483647 : Int32)) % cc0)), .val (.int ((p4 &&& (2147483647 : Int32)) % cc1)), .val (.int (0 : Int32)), .val (.int (1 : Int32)), .val (.int ((p3 &&& (2147483647 : Int32)) % cc0)), .val (.int ((p4 &&& (2147483647 : Int32)) % cc1)), .unset] [(.int cc3), (.int cc2), (.int cc1), (.int cc0), (.int (1 : Int32)), (.int (0 : Int32))])) rfl (by rw [hml]; rfl) (argsL := [(.int (0 : Int32)), (.int (1 : Int32)), (.int cc0), (.int cc1), (.int cc2), (.int cc3)]) (rest := []) (lenOf pd_3 rfl) rfl (by show 2 * 0 + _ ≤ _; exact Nat.le_of_eq rfl) (dd at_172) (fun _ _ => ⟨rfl, e17, (by decide : 11 + 0 ≤ _), (by decide : 52 + 0 ≤ _)⟩)
      dsimp only [Pt.U, Pt.locs, Pt.cells, Pt.slots, Q_rm6] at X18 l18 y18 z18 st18 hQ18
      subst l18 y18 z18
      rw [show (fSt (0 : Int32) (1 : Int32) cc0 cc1 cc2 cc3) = (0 : Int32) from (by unfold fSt; rw [if_pos (by decide : (0 : Int32) = (0 : Int32)), if_pos (by decide : (1 : Int32) = (1 : Int32))]; try decide)] at hQ18
      obtain ⟨rfl, N18q, e18⟩ := hQ18
      have N18 := Fr.app N17 N18q
      refine Gz.st st18 ?_
      refine Gz.iload 177 X18 hx (dd at_175) rfl rfl ?_
      refine Gz.aload 179 X18 hx (dd at_177) rfl rfl rfl ?_
      refine Gz.iload 181 X18 hx (dd at_179) rfl rfl ?_
      obtain ⟨c19, A19, q19, S19, N19, H19, G19⟩ := id f11_Vb1
      have hin19 : ¬ ((1 : Int32) < 0 ∨ c19.slots.size ≤ ((1 : Int32)).toNatClampNeg) := inb_of S19 ⟨by decide, by decide⟩
      refine Gz.ldI 182 X18 hx hZ (dd at_181) e18 A19 hin19 (Has.at H19 hin19 (rfl : _ = ((.int cc1) : Value))) rfl ?_
      refine Gz.imul 183 X18 hx (dd at_182) rfl ?_
      refine Gz.iadd 184 X18 hx (dd at_183) rfl ?_
      refine Gz.iload 186 X18 hx (dd at_184) rfl rfl ?_
      refine Gz.iadd 187 X18 hx (dd at_186) rfl ?_
      refine Gz.istore 189 #[.val (.int p0), .val (.int p1), .val (.int p2), .val (.int p3), .val (.int p4), .val (.int cc0), .val (.int cc1), .val (.int cc2), .val (.int cc3), .val (.ref b1), .val (.ref b10), .val (.int (0 : Int32)), .val (.int (1 : Int32)), .val (.int ((p3 &&& (2147483647 : Int32)) % cc0)), .val (.int ((p4 &&& (2147483647 : Int32)) % cc1)), .val (.int (0 : Int32)), .val (.int (1 : Int32)), .val (.int ((p3 &&& (2147483647 : Int32)) % cc0)), .val (.int ((p4 &&& (2147483647 : Int32)) % cc1)), .val (.int (((0 : Int32) + (((p3 &&& (2147483647 : Int32)) % cc0) * cc1)) + ((p4 &&& (2147483647 : Int32)) % cc1)))] X18 hx (dd at_187) rfl rfl ?_
      refine Gz.aload 191 X18 hx (dd at_189) rfl rfl rfl ?_
      refine Gz.iload 193 X18 hx (dd at_191) rfl rfl ?_
      refine Gz.iload 195 X18 hx (dd at_193) rfl rfl ?_
      refine Gz.iload 197 X18 hx (dd at_195) rfl rfl ?_
      refine Gz.iload 199 X18 hx (dd at_197) rfl rfl ?_
      obtain ⟨cq20, kq20, q20a, q20b, q20c⟩ := isOf hZ e18 QE11
      obtain ⟨_, _, ⟨T20, L20, k20, n20⟩, -, X20, ⟨Lc20, hQ20, l20, y20, z20⟩, st20⟩ := X18.virtualBack hx (y := (⟨"com/example/minsuite/minsuite/ValuePairs", "index", "(IIII)I"⟩ : MethodName)) (z := (⟨"com/example/minsuite/minsuite/ValuePairs", "index", "(IIII)I"⟩ : MethodName)) hown (mvT hZ (ww hw 49 rfl)) (mvT hZ (ww hw 50 rfl)) (notFace_of_selects (args := #[]) (mvT hZ (ww hw 52 rfl))) (mvT hZ (ww hw 52 rfl)) (mvT hZ (ww hw 51 rfl)) (by decide) (backOf (W := 0) (rmX01 l Z av0 hw [] b10 ((p3 &&& (2147483647 : Int32)) % cc0) ((p4 &&& (2147483647 : Int32)) % cc1) so11 ks11 r0_11 r1_11 r2_11 r3_11 kr11 (0 : Int32) (0 : Int32) ((0 : Int32) + (cc0 * cc1)) (((0 : Int32) + (cc0 * cc1)) + (cc0 * cc2)) ac11 kc11 cc0 cc1 cc2 cc3 T11.heap n0 SZ11 QG11 QS11 QR0_11 QF11 QA11) hZ (ww hw 53 rfl) (ww hw 3 rfl) (by decide) (by decide)) q20a q20c (g := (mkF m 199 #[.val (.int p0), .val (.int p1), .val (.int p2), .val (.int p3), .val (.int p4), .val (.int cc0), .val (.int cc1), .val (.int cc2), .val (.int cc3), .val (.ref b1), .val (.ref b10), .val (.int (0 : Int32)), .val (.int (1 : Int32)), .val (.int ((p3 &&& (2147483647 : Int32)) % cc0)), .val (.int ((p4 &&& (2147483647 : Int32)) % cc1)), .val (.int (0 : Int32)), .val (.int (1 : Int32)), .val (.int ((p3 &&& (2147483647 : Int32)) % cc0)), .val (.int ((p4 &&& (2147483647 : Int32)) % cc1)), .val (.int (((0 : Int32) + (((p3 &&& (2147483647 : Int32)) % cc0) * cc1)) + ((p4 &&& (2147483647 : Int32)) % cc1)))] [(.int ((p4 &&& (2147483647 : Int32)) % cc1)), (.int (1 : Int32)), (.int ((p3 &&& (2147483647 : Int32)) % cc0)), (.int (0 : Int32)), (.ref b10)])) rfl (by rw [hml]; rfl) (Steps.refl _) (argsL := [(.int (0 : Int32)), (.int ((p3 &&& (2147483647 : Int32)) % cc0)), (.int (1 : Int32)), (.int ((p4 &&& (2147483647 : Int32)) % cc1))]) (rest := []) (lenOf pd_4 rfl) rfl (by show 2 * 0 + _ ≤ _; exact Nat.le_of_eq rfl) (dd at_199) (fun _ _ => ⟨rfl, e18, (by decide : 11 + 0 ≤ _), (by decide : 52 + 0 ≤ _)⟩)
      dsimp only [Pt.U, Pt.locs, Pt.cells, Pt.slots, Q_rmX01] at X20 l20 y20 z20 st20 hQ20
      subst l20 y20 z20
      rw [show (fX01 b10 ((p3 &&& (2147483647 : Int32)) % cc0) ((p4 &&& (2147483647 : Int32)) % cc1) so11 r0_11 r1_11 r2_11 r3_11 (0 : Int32) (0 : Int32) ((0 : Int32) + (cc0 * cc1)) (((0 : Int32) + (cc0 * cc1)) + (cc0 * cc2)) ac11 cc0 cc1 cc2 cc3) = (((0 : Int32) + (((p3 &&& (2147483647 : Int32)) % cc0) * cc1)) + ((p4 &&& (2147483647 : Int32)) % cc1)) from (by unfold fX01; rfl)] at hQ20
      obtain ⟨rfl, N20q, e20⟩ := hQ20
      have N20 := Fr.app N18 N20q
      refine Gz.tr st20 ?_
      refine Gz.iload 204 X20 hx (dd at_202) rfl rfl ?_
      refine Gz.icmpNo 207 X20 hx (dd at_204) (teq (rfl : (((0 : Int32) + (((p3 &&& (2147483647 : Int32)) % cc0) * cc1)) + ((p4 &&& (2147483647 : Int32)) % cc1)) = (((0 : Int32) + (((p3 &&& (2147483647 : Int32)) % cc0) * cc1)) + ((p4 &&& (2147483647 : Int32)) % cc1)))).2 rfl ?_
      refine Gz.iconst 208 (1 : Int32) X20 hx (dd at_207) rfl rfl ?_
      refine Gz.goto 212 X20 hx (dd at_208) (by decide) (by decide) ?_
      refine Gz.fin X20 (v := some (.int (1 : Int32))) (fun h => by rw [hret] at h; cases h) hlk (by decide) (by decide) (fun fs hr => retN X20 hx (t := .boolean) hret (by simp) (dd at_212) hr) ?_
      exact ⟨rfl, N20⟩
    · rw [hs13]
      refine Gz.iaddV 87 (2 : Int32) X11 hx (dd at_86) rfl rfl ?_
      refine Gz.iconst 88 (3 : Int32) X11 hx (dd at_87) rfl rfl ?_
      refine Gz.iandV 89 (2 : Int32) X11 hx (dd at_88) rfl rfl ?_
      refine Gz.istore 91 #[.val (.int p0), .val (.int p1), .val (.int p2), .val (.int p3), .val (.int p4), .val (.int cc0), .val (.int cc1), .val (.int cc2), .val (.int cc3), .val (.ref b1), .val (.ref b10), .val (.int (0 : Int32)), .val (.int (2 : Int32)), .unset, .unset, .unset, .unset, .unset, .unset, .unset] X11 hx (dd at_89) rfl rfl ?_
      refine Gz.iloadN 92 X11 hx (dd at_91) rfl rfl ?_
      refine Gz.ldcI 94 X11 hx (dd at_92) hown (mvT hZ (ww hw 37 rfl)) rfl ?_
      refine Gz.iand 95 X11 hx (dd at_94) rfl ?_
      refine Gz.aload 97 X11 hx (dd at_95) rfl rfl rfl ?_
      refine Gz.iload 99 X11 hx (dd at_97) rfl rfl ?_
      obtain ⟨c21, A21, q21, S21, N21, H21, G21⟩ := id f11_Vb1
      have hin21 : ¬ ((0 : Int32) < 0 ∨ c21.slots.size ≤ ((0 : Int32)).toNatClampNeg) := inb_of S21 ⟨by decide, by decide⟩
      refine Gz.ldI 100 X11 hx hZ (dd at_99) rfl A21 hin21 (Has.at H21 hin21 (rfl : _ = ((.int cc0) : Value))) rfl ?_
      refine Gz.irem 101 X11 hx (dd at_100) (own_nz h_cc0) rfl ?_
      refine Gz.istore 103 #[.val (.int p0), .val (.int p1), .val (.int p2), .val (.int p3), .val (.int p4), .val (.int cc0), .val (.int cc1), .val (.int cc2), .val (.int cc3), .val (.ref b1), .val (.ref b10), .val (.int (0 : Int32)), .val (.int (2 : Int32)), .val (.int ((p3 &&& (2147483647 : Int32)) % cc0)), .unset, .unset, .unset, .unset, .unset, .unset] X11 hx (dd at_101) rfl rfl ?_
      refine Gz.iload 105 X11 hx (dd at_103) rfl rfl ?_
      refine Gz.ldcI 107 X11 hx (dd at_105) hown (mvT hZ (ww hw 37 rfl)) rfl ?_
      refine Gz.iand 108 X11 hx (dd at_107) rfl ?_
      refine Gz.aload 110 X11 hx (dd at_108) rfl rfl rfl ?_
      refine Gz.iload 112 X11 hx (dd at_110) rfl rfl ?_
      obtain ⟨c22, A22, q22, S22, N22, H22, G22⟩ := id f11_Vb1
      have hin22 : ¬ ((2 : Int32) < 0 ∨ c22.slots.size ≤ ((2 : Int32)).toNatClampNeg) := inb_of S22 ⟨by decide, by decide⟩
      refine Gz.ldI 113 X11 hx hZ (dd at_112) rfl A22 hin22 (Has.at H22 hin22 (rfl : _ = ((.int cc2) : Value))) rfl ?_
      refine Gz.irem 114 X11 hx (dd at_113) (own_nz h_cc2) rfl ?_
      refine Gz.istore 116 #[.val (.int p0), .val (.int p1), .val (.int p2), .val (.int p3), .val (.int p4), .val (.int cc0), .val (.int cc1), .val (.int cc2), .val (.int cc3), .val (.ref b1), .val (.ref b10), .val (.int (0 : Int32)), .val (.int (2 : Int32)), .val (.int ((p3 &&& (2147483647 : Int32)) % cc0)), .val (.int ((p4 &&& (2147483647 : Int32)) % cc2)), .unset, .unset, .unset, .unset, .unset] X11 hx (dd at_114) rfl rfl ?_
      refine Gz.iload 118 X11 hx (dd at_116) rfl rfl ?_
      refine Gz.iload 120 X11 hx (dd at_118) rfl rfl ?_
      obtain ⟨_, _, ⟨T23, L23, k23, n23⟩, -, X23, ⟨Lc23, hQ23, l23, y23, z23⟩, st23⟩ := Jvm.LawKit.callS X11 hx (y := (⟨"java/lang/Math", "min", "(II)I"⟩ : MethodName)) hown (mvT hZ (ww hw 38 rfl)) (mvT hZ (ww hw 39 rfl)) (mvT hZ (ww hw 40 rfl)) (mvT hZ (ww hw 41 rfl)) (by decide) (backOf (W := 0) (rm4 l Z av0 hw [] (0 : Int32) (2 : Int32)  T11.heap n0 SZ11 ) hZ (ww hw 41 rfl) (ww hw 40 rfl) (by decide) (by decide)) (g := (mkF m 120 #[.val (.int p0), .val (.int p1), .val (.int p2), .val (.int p3), .val (.int p4), .val (.int cc0), .val (.int cc1), .val (.int cc2), .val (.int cc3), .val (.ref b1), .val (.ref b10), .val (.int (0 : Int32)), .val (.int (2 : Int32)), .val (.int ((p3 &&& (2147483647 : Int32)) % cc0)), .val (.int ((p4 &&& (2147483647 : Int32)) % cc2)), .unset, .unset, .unset, .unset, .unset] [(.int (2 : Int32)), (.int (0 : Int32))])) rfl (by rw [hml]; rfl) (argsL := [(.int (0 : Int32)), (.int (2 : Int32))]) (rest := []) (lenOf pd_2 rfl) rfl (by show 2 * 0 + _ ≤ _; exact Nat.le_of_eq rfl) (dd at_120) (fun _ _ => ⟨rfl, rfl, (by decide : 11 + 0 ≤ _), (by decide : 52 + 0 ≤ _)⟩)
      dsimp only [Pt.U, Pt.locs, Pt.cells, Pt.slots, Q_rm4] at X23 l23 y23 z23 st23 hQ23
      subst l23 y23 z23
      rw [show (fMin (0 : Int32) (2 : Int32)) = (0 : Int32) from (by unfold fMin; rw [if_neg (by decide : ¬ ((2 : Int32) < (0 : Int32)))]; try decide)] at hQ23
      obtain ⟨rfl, N23q, e23⟩ := hQ23
      have N23 := Fr.app N11 N23q
      refine Gz.st st23 ?_
      refine Gz.istore 125 #[.val (.int p0), .val (.int p1), .val (.int p2), .val (.int p3), .val (.int p4), .val (.int cc0), .val (.int cc1), .val (.int cc2), .val (.int cc3), .val (.ref b1), .val (.ref b10), .val (.int (0 : Int32)), .val (.int (2 : Int32)), .val (.int ((p3 &&& (2147483647 : Int32)) % cc0)), .val (.int ((p4 &&& (2147483647 : Int32)) % cc2)), .val (.int (0 : Int32)), .unset, .unset, .unset, .unset] X23 hx (dd at_123) rfl rfl ?_
      refine Gz.iload 127 X23 hx (dd at_125) rfl rfl ?_
      refine Gz.iload 129 X23 hx (dd at_127) rfl rfl ?_
      obtain ⟨_, _, ⟨T24, L24, k24, n24⟩, -, X24, ⟨Lc24, hQ24, l24, y24, z24⟩, st24⟩ := Jvm.LawKit.callS X23 hx (y := (⟨"java/lang/Math", "max", "(II)I"⟩ : MethodName)) hown (mvT hZ (ww hw 42 rfl)) (mvT hZ (ww hw 43 rfl)) (mvT hZ (ww hw 40 rfl)) (mvT hZ (ww hw 44 rfl)) (by decide) (backOf (W := 0) (rm5 l Z av0 hw [] (0 : Int32) (2 : Int32)  T11.heap n0 SZ11 ) hZ (ww hw 44 rfl) (ww hw 40 rfl) (by decide) (by decide)) (g := (mkF m 129 #[.val (.int p0), .val (.int p1), .val (.int p2), .val (.int p3), .val (.int p4), .val (.int cc0), .val (.int cc1), .val (.int cc2), .val (.int cc3), .val (.ref b1), .val (.ref b10), .val (.int (0 : Int32)), .val (.int (2 : Int32)), .val (.int ((p3 &&& (2147483647 : Int32)) % cc0)), .val (.int ((p4 &&& (2147483647 : Int32)) % cc2)), .val (.int (0 : Int32)), .unset, .unset, .unset, .unset] [(.int (2 : Int32)), (.int (0 : Int32))])) rfl (by rw [hml]; rfl) (argsL := [(.int (0 : Int32)), (.int (2 : Int32))]) (rest := []) (lenOf pd_2 rfl) rfl (by show 2 * 0 + _ ≤ _; exact Nat.le_of_eq rfl) (dd at_129) (fun _ _ => ⟨rfl, e23, (by decide : 11 + 0 ≤ _), (by decide : 52 + 0 ≤ _)⟩)
      dsimp only [Pt.U, Pt.locs, Pt.cells, Pt.slots, Q_rm5] at X24 l24 y24 z24 st24 hQ24
      subst l24 y24 z24
      rw [show (fMax (0 : Int32) (2 : Int32)) = (2 : Int32) from (by unfold fMax; rw [if_pos (by decide : (0 : Int32) < (2 : Int32))]; try decide)] at hQ24
      obtain ⟨rfl, N24q, e24⟩ := hQ24
      have N24 := Fr.app N23 N24q
      refine Gz.st st24 ?_
      refine Gz.istore 134 #[.val (.int p0), .val (.int p1), .val (.int p2), .val (.int p3), .val (.int p4), .val (.int cc0), .val (.int cc1), .val (.int cc2), .val (.int cc3), .val (.ref b1), .val (.ref b10), .val (.int (0 : Int32)), .val (.int (2 : Int32)), .val (.int ((p3 &&& (2147483647 : Int32)) % cc0)), .val (.int ((p4 &&& (2147483647 : Int32)) % cc2)), .val (.int (0 : Int32)), .val (.int (2 : Int32)), .unset, .unset, .unset] X24 hx (dd at_132) rfl rfl ?_
      refine Gz.iload 136 X24 hx (dd at_134) rfl rfl ?_
      refine Gz.iload 138 X24 hx (dd at_136) rfl rfl ?_
      refine Gz.icmpNo 141 X24 hx (dd at_138) (teq (by decide : (0 : Int32) = (0 : Int32))).2 rfl ?_
      refine Gz.iload 143 X24 hx (dd at_141) rfl rfl ?_
      refine Gz.istore 145 #[.val (.int p0), .val (.int p1), .val (.int p2), .val (.int p3), .val (.int p4), .val (.int cc0), .val (.int cc1), .val (.int cc2), .val (.int cc3), .val (.ref b1), .val (.ref b10), .val (.int (0 : Int32)), .val (.int (2 : Int32)), .val (.int ((p3 &&& (2147483647 : Int32)) % cc0)), .val (.int ((p4 &&& (2147483647 : Int32)) % cc2)), .val (.int (0 : Int32)), .val (.int (2 : Int32)), .val (.int ((p3 &&& (2147483647 : Int32)) % cc0)), .unset, .unset] X24 hx (dd at_143) rfl rfl ?_
      refine Gz.iload 147 X24 hx (dd at_145) rfl rfl ?_
      refine Gz.istore 149 #[.val (.int p0), .val (.int p1), .val (.int p2), .val (.int p3), .val (.int p4), .val (.int cc0), .val (.int cc1), .val (.int cc2), .val (.int cc3), .val (.ref b1), .val (.ref b10), .val (.int (0 : Int32)), .val (.int (2 : Int32)), .val (.int ((p3 &&& (2147483647 : Int32)) % cc0)), .val (.int ((p4 &&& (2147483647 : Int32)) % cc2)), .val (.int (0 : Int32)), .val (.int (2 : Int32)), .val (.int ((p3 &&& (2147483647 : Int32)) % cc0)), .val (.int ((p4 &&& (2147483647 : Int32)) % cc2)), .unset] X24 hx (dd at_147) rfl rfl ?_
      refine Gz.goto 160 X24 hx (dd at_149) (by decide) (by decide) ?_
      refine Gz.iload 162 X24 hx (dd at_160) rfl rfl ?_
      refine Gz.iload 164 X24 hx (dd at_162) rfl rfl ?_
      refine Gz.iload 166 X24 hx (dd at_164) rfl rfl ?_
      refine Gz.iload 168 X24 hx (dd at_166) rfl rfl ?_
      refine Gz.iload 170 X24 hx (dd at_168) rfl rfl ?_
      refine Gz.iload 172 X24 hx (dd at_170) rfl rfl ?_
      obtain ⟨_, _, ⟨T25, L25, k25, n25⟩, -, X25, ⟨Lc25, hQ25, l25, y25, z25⟩, st25⟩ := Jvm.LawKit.callS X24 hx (y := (⟨"com/example/minsuite/minsuite/ValuePairsIndexPinLaw", "start", "(IIIIII)I"⟩ : MethodName)) hown (mvT hZ (ww hw 45 rfl)) (mvT hZ (ww hw 46 rfl)) (mvT hZ (ww hw 47 rfl)) (mvT hZ (ww hw 48 rfl)) (by decide) (backOf (W := 0) (rm6 l Z av0 hw [] (0 : Int32) (2 : Int32) cc0 cc1 cc2 cc3  T11.heap n0 SZ11 ) hZ (ww hw 48 rfl) (ww hw 47 rfl) (by decide) (by decide)) (g := (mkF m 172 #[.val (.int p0), .val (.int p1), .val (.int p2), .val (.int p3), .val (.int p4), .val (.int cc0), .val (.int cc1), .val (.int cc2), .val (.int cc3), .val (.ref b1), .val (.ref b10), .val (.int (0 : Int32)), .val (.int (2 : Int32)), .val (.int ((p3 &&& (2147483647 : Int32)) % cc0)), .val (.int ((p4 &&& (2147483647 : Int32)) % cc2)), .val (.int (0 : Int32)), .val (.int (2 : Int32)), .val (.int ((p3 &&& (2147483647 : Int32)) % cc0)), .val (.int ((p4 &&& (2147483647 : Int32)) % cc2)), .unset] [(.int cc3), (.int cc2), (.int cc1), (.int cc0), (.int (2 : Int32)), (.int (0 : Int32))])) rfl (by rw [hml]; rfl) (argsL := [(.int (0 : Int32)), (.int (2 : Int32)), (.int cc0), (.int cc1), (.int cc2), (.int cc3)]) (rest := []) (lenOf pd_3 rfl) rfl (by show 2 * 0 + _ ≤ _; exact Nat.le_of_eq rfl) (dd at_172) (fun _ _ => ⟨rfl, e24, (by decide : 11 + 0 ≤ _), (by decide : 52 + 0 ≤ _)⟩)
      dsimp only [Pt.U, Pt.locs, Pt.cells, Pt.slots, Q_rm6] at X25 l25 y25 z25 st25 hQ25
      subst l25 y25 z25
      rw [show (fSt (0 : Int32) (2 : Int32) cc0 cc1 cc2 cc3) = (cc0 * cc1) from (by unfold fSt; rw [if_pos (by decide : (0 : Int32) = (0 : Int32)), if_neg (by decide : ¬ ((2 : Int32) = (1 : Int32))), if_pos (by decide : (2 : Int32) = (2 : Int32))]; try decide)] at hQ25
      obtain ⟨rfl, N25q, e25⟩ := hQ25
      have N25 := Fr.app N24 N25q
      refine Gz.st st25 ?_
      refine Gz.iload 177 X25 hx (dd at_175) rfl rfl ?_
      refine Gz.aload 179 X25 hx (dd at_177) rfl rfl rfl ?_
      refine Gz.iload 181 X25 hx (dd at_179) rfl rfl ?_
      obtain ⟨c26, A26, q26, S26, N26, H26, G26⟩ := id f11_Vb1
      have hin26 : ¬ ((2 : Int32) < 0 ∨ c26.slots.size ≤ ((2 : Int32)).toNatClampNeg) := inb_of S26 ⟨by decide, by decide⟩
      refine Gz.ldI 182 X25 hx hZ (dd at_181) e25 A26 hin26 (Has.at H26 hin26 (rfl : _ = ((.int cc2) : Value))) rfl ?_
      refine Gz.imul 183 X25 hx (dd at_182) rfl ?_
      refine Gz.iadd 184 X25 hx (dd at_183) rfl ?_
      refine Gz.iload 186 X25 hx (dd at_184) rfl rfl ?_
      refine Gz.iadd 187 X25 hx (dd at_186) rfl ?_
      refine Gz.istore 189 #[.val (.int p0), .val (.int p1), .val (.int p2), .val (.int p3), .val (.int p4), .val (.int cc0), .val (.int cc1), .val (.int cc2), .val (.int cc3), .val (.ref b1), .val (.ref b10), .val (.int (0 : Int32)), .val (.int (2 : Int32)), .val (.int ((p3 &&& (2147483647 : Int32)) % cc0)), .val (.int ((p4 &&& (2147483647 : Int32)) % cc2)), .val (.int (0 : Int32)), .val (.int (2 : Int32)), .val (.int ((p3 &&& (2147483647 : Int32)) % cc0)), .val (.int ((p4 &&& (2147483647 : Int32)) % cc2)), .val (.int (((cc0 * cc1) + (((p3 &&& (2147483647 : Int32)) % cc0) * cc2)) + ((p4 &&& (2147483647 : Int32)) % cc2)))] X25 hx (dd at_187) rfl rfl ?_
      refine Gz.aload 191 X25 hx (dd at_189) rfl rfl rfl ?_
      refine Gz.iload 193 X25 hx (dd at_191) rfl rfl ?_
      refine Gz.iload 195 X25 hx (dd at_193) rfl rfl ?_
      refine Gz.iload 197 X25 hx (dd at_195) rfl rfl ?_
      refine Gz.iload 199 X25 hx (dd at_197) rfl rfl ?_
      obtain ⟨cq27, kq27, q27a, q27b, q27c⟩ := isOf hZ e25 QE11
      obtain ⟨_, _, ⟨T27, L27, k27, n27⟩, -, X27, ⟨Lc27, hQ27, l27, y27, z27⟩, st27⟩ := X25.virtualBack hx (y := (⟨"com/example/minsuite/minsuite/ValuePairs", "index", "(IIII)I"⟩ : MethodName)) (z := (⟨"com/example/minsuite/minsuite/ValuePairs", "index", "(IIII)I"⟩ : MethodName)) hown (mvT hZ (ww hw 49 rfl)) (mvT hZ (ww hw 50 rfl)) (notFace_of_selects (args := #[]) (mvT hZ (ww hw 52 rfl))) (mvT hZ (ww hw 52 rfl)) (mvT hZ (ww hw 51 rfl)) (by decide) (backOf (W := 0) (rmX02 l Z av0 hw [] b10 ((p3 &&& (2147483647 : Int32)) % cc0) ((p4 &&& (2147483647 : Int32)) % cc2) so11 ks11 r0_11 r1_11 r2_11 r3_11 kr11 (0 : Int32) (0 : Int32) ((0 : Int32) + (cc0 * cc1)) (((0 : Int32) + (cc0 * cc1)) + (cc0 * cc2)) ac11 kc11 cc0 cc1 cc2 cc3 T11.heap n0 SZ11 QG11 QS11 QR0_11 QF11 QA11) hZ (ww hw 53 rfl) (ww hw 3 rfl) (by decide) (by decide)) q27a q27c (g := (mkF m 199 #[.val (.int p0), .val (.int p1), .val (.int p2), .val (.int p3), .val (.int p4), .val (.int cc0), .val (.int cc1), .val (.int cc2), .val (.int cc3), .val (.ref b1), .val (.ref b10), .val (.int (0 : Int32)), .val (.int (2 : Int32)), .val (.int ((p3 &&& (2147483647 : Int32)) % cc0)), .val (.int ((p4 &&& (2147483647 : Int32)) % cc2)), .val (.int (0 : Int32)), .val (.int (2 : Int32)), .val (.int ((p3 &&& (2147483647 : Int32)) % cc0)), .val (.int ((p4 &&& (2147483647 : Int32)) % cc2)), .val (.int (((cc0 * cc1) + (((p3 &&& (2147483647 : Int32)) % cc0) * cc2)) + ((p4 &&& (2147483647 : Int32)) % cc2)))] [(.int ((p4 &&& (2147483647 : Int32)) % cc2)), (.int (2 : Int32)), (.int ((p3 &&& (2147483647 : Int32)) % cc0)), (.int (0 : Int32)), (.ref b10)])) rfl (by rw [hml]; rfl) (Steps.refl _) (argsL := [(.int (0 : Int32)), (.int ((p3 &&& (2147483647 : Int32)) % cc0)), (.int (2 : Int32)), (.int ((p4 &&& (2147483647 : Int32)) % cc2))]) (rest := []) (lenOf pd_4 rfl) rfl (by show 2 * 0 + _ ≤ _; exact Nat.le_of_eq rfl) (dd at_199) (fun _ _ => ⟨rfl, e25, (by decide : 11 + 0 ≤ _), (by decide : 52 + 0 ≤ _)⟩)
      dsimp only [Pt.U, Pt.locs, Pt.cells, Pt.slots, Q_rmX02] at X27 l27 y27 z27 st27 hQ27
      subst l27 y27 z27
      rw [show (fX02 b10 ((p3 &&& (2147483647 : Int32)) % cc0) ((p4 &&& (2147483647 : Int32)) % cc2) so11 r0_11 r1_11 r2_11 r3_11 (0 : Int32) (0 : Int32) ((0 : Int32) + (cc0 * cc1)) (((0 : Int32) + (cc0 * cc1)) + (cc0 * cc2)) ac11 cc0 cc1 cc2 cc3) = ((((0 : Int32) + (cc0 * cc1)) + (((p3 &&& (2147483647 : Int32)) % cc0) * cc2)) + ((p4 &&& (2147483647 : Int32)) % cc2)) from (by unfold fX02; rfl)] at hQ27
      obtain ⟨rfl, N27q, e27⟩ := hQ27
      have N27 := Fr.app N25 N27q
      refine Gz.tr st27 ?_
      refine Gz.iload 204 X27 hx (dd at_202) rfl rfl ?_
      refine Gz.icmpNo 207 X27 hx (dd at_204) (teq ((by simp only [Int32.zero_add]) : ((((0 : Int32) + (cc0 * cc1)) + (((p3 &&& (2147483647 : Int32)) % cc0) * cc2)) + ((p4 &&& (2147483647 : Int32)) % cc2)) = (((cc0 * cc1) + (((p3 &&& (2147483647 : Int32)) % cc0) * cc2)) + ((p4 &&& (2147483647 : Int32)) % cc2)))).2 rfl ?_
      refine Gz.iconst 208 (1 : Int32) X27 hx (dd at_207) rfl rfl ?_
      refine Gz.goto 212 X27 hx (dd at_208) (by decide) (by decide) ?_
      refine Gz.fin X27 (v := some (.int (1 : Int32))) (fun h => by rw [hret] at h; cases h) hlk (by decide) (by decide) (fun fs hr => retN X27 hx (t := .boolean) hret (by simp) (dd at_212) hr) ?_
      exact ⟨rfl, N27⟩
    · rw [hs13]
      refine Gz.iaddV 87 (3 : Int32) X11 hx (dd at_86) rfl rfl ?_
      refine Gz.iconst 88 (3 : Int32) X11 hx (dd at_87) rfl rfl ?_
      refine Gz.iandV 89 (3 : Int32) X11 hx (dd at_88) rfl rfl ?_
      refine Gz.istore 91 #[.val (.int p0), .val (.int p1), .val (.int p2), .val (.int p3), .val (.int p4), .val (.int cc0), .val (.int cc1), .val (.int cc2), .val (.int cc3), .val (.ref b1), .val (.ref b10), .val (.int (0 : Int32)), .val (.int (3 : Int32)), .unset, .unset, .unset, .unset, .unset, .unset, .unset] X11 hx (dd at_89) rfl rfl ?_
      refine Gz.iloadN 92 X11 hx (dd at_91) rfl rfl ?_
      refine Gz.ldcI 94 X11 hx (dd at_92) hown (mvT hZ (ww hw 37 rfl)) rfl ?_
      refine Gz.iand 95 X11 hx (dd at_94) rfl ?_
      refine Gz.aload 97 X11 hx (dd at_95) rfl rfl rfl ?_
      refine Gz.iload 99 X11 hx (dd at_97) rfl rfl ?_
      obtain ⟨c28, A28, q28, S28, N28, H28, G28⟩ := id f11_Vb1
      have hin28 : ¬ ((0 : Int32) < 0 ∨ c28.slots.size ≤ ((0 : Int32)).toNatClampNeg) := inb_of S28 ⟨by decide, by decide⟩
      refine Gz.ldI 100 X11 hx hZ (dd at_99) rfl A28 hin28 (Has.at H28 hin28 (rfl : _ = ((.int cc0) : Value))) rfl ?_
      refine Gz.irem 101 X11 hx (dd at_100) (own_nz h_cc0) rfl ?_
      refine Gz.istore 103 #[.val (.int p0), .val (.int p1), .val (.int p2), .val (.int p3), .val (.int p4), .val (.int cc0), .val (.int cc1), .val (.int cc2), .val (.int cc3), .val (.ref b1), .val (.ref b10), .val (.int (0 : Int32)), .val (.int (3 : Int32)), .val (.int ((p3 &&& (2147483647 : Int32)) % cc0)), .unset, .unset, .unset, .unset, .unset, .unset] X11 hx (dd at_101) rfl rfl ?_
      refine Gz.iload 105 X11 hx (dd at_103) rfl rfl ?_
      refine Gz.ldcI 107 X11 hx (dd at_105) hown (mvT hZ (ww hw 37 rfl)) rfl ?_
      refine Gz.iand 108 X11 hx (dd at_107) rfl ?_
      refine Gz.aload 110 X11 hx (dd at_108) rfl rfl rfl ?_
      refine Gz.iload 112 X11 hx (dd at_110) rfl rfl ?_
      obtain ⟨c29, A29, q29, S29, N29, H29, G29⟩ := id f11_Vb1
      have hin29 : ¬ ((3 : Int32) < 0 ∨ c29.slots.size ≤ ((3 : Int32)).toNatClampNeg) := inb_of S29 ⟨by decide, by decide⟩
      refine Gz.ldI 113 X11 hx hZ (dd at_112) rfl A29 hin29 (Has.at H29 hin29 (rfl : _ = ((.int cc3) : Value))) rfl ?_
      refine Gz.irem 114 X11 hx (dd at_113) (own_nz h_cc3) rfl ?_
      refine Gz.istore 116 #[.val (.int p0), .val (.int p1), .val (.int p2), .val (.int p3), .val (.int p4), .val (.int cc0), .val (.int cc1), .val (.int cc2), .val (.int cc3), .val (.ref b1), .val (.ref b10), .val (.int (0 : Int32)), .val (.int (3 : Int32)), .val (.int ((p3 &&& (2147483647 : Int32)) % cc0)), .val (.int ((p4 &&& (2147483647 : Int32)) % cc3)), .unset, .unset, .unset, .unset, .unset] X11 hx (dd at_114) rfl rfl ?_
      refine Gz.iload 118 X11 hx (dd at_116) rfl rfl ?_
      refine Gz.iload 120 X11 hx (dd at_118) rfl rfl ?_
      obtain ⟨_, _, ⟨T30, L30, k30, n30⟩, -, X30, ⟨Lc30, hQ30, l30, y30, z30⟩, st30⟩ := Jvm.LawKit.callS X11 hx (y := (⟨"java/lang/Math", "min", "(II)I"⟩ : MethodName)) hown (mvT hZ (ww hw 38 rfl)) (mvT hZ (ww hw 39 rfl)) (mvT hZ (ww hw 40 rfl)) (mvT hZ (ww hw 41 rfl)) (by decide) (backOf (W := 0) (rm4 l Z av0 hw [] (0 : Int32) (3 : Int32)  T11.heap n0 SZ11 ) hZ (ww hw 41 rfl) (ww hw 40 rfl) (by decide) (by decide)) (g := (mkF m 120 #[.val (.int p0), .val (.int p1), .val (.int p2), .val (.int p3), .val (.int p4), .val (.int cc0), .val (.int cc1), .val (.int cc2), .val (.int cc3), .val (.ref b1), .val (.ref b10), .val (.int (0 : Int32)), .val (.int (3 : Int32)), .val (.int ((p3 &&& (2147483647 : Int32)) % cc0)), .val (.int ((p4 &&& (2147483647 : Int32)) % cc3)), .unset, .unset, .unset, .unset, .unset] [(.int (3 : Int32)), (.int (0 : Int32))])) rfl (by rw [hml]; rfl) (argsL := [(.int (0 : Int32)), (.int (3 : Int32))]) (rest := []) (lenOf pd_2 rfl) rfl (by show 2 * 0 + _ ≤ _; exact Nat.le_of_eq rfl) (dd at_120) (fun _ _ => ⟨rfl, rfl, (by decide : 11 + 0 ≤ _), (by decide : 52 + 0 ≤ _)⟩)
      dsimp only [Pt.U, Pt.locs, Pt.cells, Pt.slots, Q_rm4] at X30 l30 y30 z30 st30 hQ30
      subst l30 y30 z30
      rw [show (fMin (0 : Int32) (3 : Int32)) = (0 : Int32) from (by unfold fMin; rw [if_neg (by decide : ¬ ((3 : Int32) < (0 : Int32)))]; try decide)] at hQ30
      obtain ⟨rfl, N30q, e30⟩ := hQ30
      have N30 := Fr.app N11 N30q
      refine Gz.st st30 ?_
      refine Gz.istore 125 #[.val (.int p0), .val (.int p1), .val (.int p2), .val (.int p3), .val (.int p4), .val (.int cc0), .val (.int cc1), .val (.int cc2), .val (.int cc3), .val (.ref b1), .val (.ref b10), .val (.int (0 : Int32)), .val (.int (3 : Int32)), .val (.int ((p3 &&& (2147483647 : Int32)) % cc0)), .val (.int ((p4 &&& (2147483647 : Int32)) % cc3)), .val (.int (0 : Int32)), .unset, .unset, .unset, .unset] X30 hx (dd at_123) rfl rfl ?_
      refine Gz.iload 127 X30 hx (dd at_125) rfl rfl ?_
      refine Gz.iload 129 X30 hx (dd at_127) rfl rfl ?_
      obtain ⟨_, _, ⟨T31, L31, k31, n31⟩, -, X31, ⟨Lc31, hQ31, l31, y31, z31⟩, st31⟩ := Jvm.LawKit.callS X30 hx (y := (⟨"java/lang/Math", "max", "(II)I"⟩ : MethodName)) hown (mvT hZ (ww hw 42 rfl)) (mvT hZ (ww hw 43 rfl)) (mvT hZ (ww hw 40 rfl)) (mvT hZ (ww hw 44 rfl)) (by decide) (backOf (W := 0) (rm5 l Z av0 hw [] (0 : Int32) (3 : Int32)  T11.heap n0 SZ11 ) hZ (ww hw 44 rfl) (ww hw 40 rfl) (by decide) (by decide)) (g := (mkF m 129 #[.val (.int p0), .val (.int p1), .val (.int p2), .val (.int p3), .val (.int p4), .val (.int cc0), .val (.int cc1), .val (.int cc2), .val (.int cc3), .val (.ref b1), .val (.ref b10), .val (.int (0 : Int32)), .val (.int (3 : Int32)), .val (.int ((p3 &&& (2147483647 : Int32)) % cc0)), .val (.int ((p4 &&& (2147483647 : Int32)) % cc3)), .val (.int (0 : Int32)), .unset, .unset, .unset, .unset] [(.int (3 : Int32)), (.int (0 : Int32))])) rfl (by rw [hml]; rfl) (argsL := [(.int (0 : Int32)), (.int (3 : Int32))]) (rest := []) (lenOf pd_2 rfl) rfl (by show 2 * 0 + _ ≤ _; exact Nat.le_of_eq rfl) (dd at_129) (fun _ _ => ⟨rfl, e30, (by decide : 11 + 0 ≤ _), (by decide : 52 + 0 ≤ _)⟩)
      dsimp only [Pt.U, Pt.locs, Pt.cells, Pt.slots, Q_rm5] at X31 l31 y31 z31 st31 hQ31
      subst l31 y31 z31
      rw [show (fMax (0 : Int32) (3 : Int32)) = (3 : Int32) from (by unfold fMax; rw [if_pos (by decide : (0 : Int32) < (3 : Int32))]; try decide)] at hQ31
      obtain ⟨rfl, N31q, e31⟩ := hQ31
      have N31 := Fr.app N30 N31q
      refine Gz.st st31 ?_
      refine Gz.istore 134 #[.val (.int p0), .val (.int p1), .val (.int p2), .val (.int p3), .val (.int p4), .val (.int cc0), .val (.int cc1), .val (.int cc2), .val (.int cc3), .val (.ref b1), .val (.ref b10), .val (.int (0 : Int32)), .val (.int (3 : Int32)), .val (.int ((p3 &&& (2147483647 : Int32)) % cc0)), .val (.int ((p4 &&& (2147483647 : Int32)) % cc3)), .val (.int (0 : Int32)), .val (.int (3 : Int32)), .unset, .unset, .unset] X31 hx (dd at_132) rfl rfl ?_
      refine Gz.iload 136 X31 hx (dd at_134) rfl rfl ?_
      refine Gz.iload 138 X31 hx (dd at_136) rfl rfl ?_
      refine Gz.icmpNo 141 X31 hx (dd at_138) (teq (by decide : (0 : Int32) = (0 : Int32))).2 rfl ?_
      refine Gz.iload 143 X31 hx (dd at_141) rfl rfl ?_
      refine Gz.istore 145 #[.val (.int p0), .val (.int p1), .val (.int p2), .val (.int p3), .val (.int p4), .val (.int cc0), .val (.int cc1), .val (.int cc2), .val (.int cc3), .val (.ref b1), .val (.ref b10), .val (.int (0 : Int32)), .val (.int (3 : Int32)), .val (.int ((p3 &&& (2147483647 : Int32)) % cc0)), .val (.int ((p4 &&& (2147483647 : Int32)) % cc3)), .val (.int (0 : Int32)), .val (.int (3 : Int32)), .val (.int ((p3 &&& (2147483647 : Int32)) % cc0)), .unset, .unset] X31 hx (dd at_143) rfl rfl ?_
      refine Gz.iload 147 X31 hx (dd at_145) rfl rfl ?_
      refine Gz.istore 149 #[.val (.int p0), .val (.int p1), .val (.int p2), .val (.int p3), .val (.int p4), .val (.int cc0), .val (.int cc1), .val (.int cc2), .val (.int cc3), .val (.ref b1), .val (.ref b10), .val (.int (0 : Int32)), .val (.int (3 : Int32)), .val (.int ((p3 &&& (2147483647 : Int32)) % cc0)), .val (.int ((p4 &&& (2147483647 : Int32)) % cc3)), .val (.int (0 : Int32)), .val (.int (3 : Int32)), .val (.int ((p3 &&& (2147483647 : Int32)) % cc0)), .val (.int ((p4 &&& (2147483647 : Int32)) % cc3)), .unset] X31 hx (dd at_147) rfl rfl ?_
      refine Gz.goto 160 X31 hx (dd at_149) (by decide) (by decide) ?_
      refine Gz.iload 162 X31 hx (dd at_160) rfl rfl ?_
      refine Gz.iload 164 X31 hx (dd at_162) rfl rfl ?_
      refine Gz.iload 166 X31 hx (dd at_164) rfl rfl ?_
      refine Gz.iload 168 X31 hx (dd at_166) rfl rfl ?_
      refine Gz.iload 170 X31 hx (dd at_168) rfl rfl ?_
      refine Gz.iload 172 X31 hx (dd at_170) rfl rfl ?_
      obtain ⟨_, _, ⟨T32, L32, k32, n32⟩, -, X32, ⟨Lc32, hQ32, l32, y32, z32⟩, st32⟩ := Jvm.LawKit.callS X31 hx (y := (⟨"com/example/minsuite/minsuite/ValuePairsIndexPinLaw", "start", "(IIIIII)I"⟩ : MethodName)) hown (mvT hZ (ww hw 45 rfl)) (mvT hZ (ww hw 46 rfl)) (mvT hZ (ww hw 47 rfl)) (mvT hZ (ww hw 48 rfl)) (by decide) (backOf (W := 0) (rm6 l Z av0 hw [] (0 : Int32) (3 : Int32) cc0 cc1 cc2 cc3  T11.heap n0 SZ11 ) hZ (ww hw 48 rfl) (ww hw 47 rfl) (by decide) (by decide)) (g := (mkF m 172 #[.val (.int p0), .val (.int p1), .val (.int p2), .val (.int p3), .val (.int p4), .val (.int cc0), .val (.int cc1), .val (.int cc2), .val (.int cc3), .val (.ref b1), .val (.ref b10), .val (.int (0 : Int32)), .val (.int (3 : Int32)), .val (.int ((p3 &&& (2147483647 : Int32)) % cc0)), .val (.int ((p4 &&& (2147483647 : Int32)) % cc3)), .val (.int (0 : Int32)), .val (.int (3 : Int32)), .val (.int ((p3 &&& (2147483647 : Int32)) % cc0)), .val (.int ((p4 &&& (2147483647 : Int32)) % cc3)), .unset] [(.int cc3), (.int cc2), (.int cc1), (.int cc0), (.int (3 : Int32)), (.int (0 : Int32))])) rfl (by rw [hml]; rfl) (argsL := [(.int (0 : Int32)), (.int (3 : Int32)), (.int cc0), (.int cc1), (.int cc2), (.int cc3)]) (rest := []) (lenOf pd_3 rfl) rfl (by show 2 * 0 + _ ≤ _; exact Nat.le_of_eq rfl) (dd at_172) (fun _ _ => ⟨rfl, e31, (by decide : 11 + 0 ≤ _), (by decide : 52 + 0 ≤ _)⟩)
      dsimp only [Pt.U, Pt.locs, Pt.cells, Pt.slots, Q_rm6] at X32 l32 y32 z32 st32 hQ32
      subst l32 y32 z32
      rw [show (fSt (0 : Int32) (3 : Int32) cc0 cc1 cc2 cc3) = ((cc0 * cc1) + (cc0 * cc2)) from (by unfold fSt; rw [if_pos (by decide : (0 : Int32) = (0 : Int32)), if_neg (by decide : ¬ ((3 : Int32) = (1 : Int32))), if_neg (by decide : ¬ ((3 : Int32) = (2 : Int32)))]; try decide)] at hQ32
      obtain ⟨rfl, N32q, e32⟩ := hQ32
      have N32 := Fr.app N31 N32q
      refine Gz.st st32 ?_
      refine Gz.iload 177 X32 hx (dd at_175) rfl rfl ?_
      refine Gz.aload 179 X32 hx (dd at_177) rfl rfl rfl ?_
      refine Gz.iload 181 X32 hx (dd at_179) rfl rfl ?_
      obtain ⟨c33, A33, q33, S33, N33, H33, G33⟩ := id f11_Vb1
      have hin33 : ¬ ((3 : Int32) < 0 ∨ c33.slots.size ≤ ((3 : Int32)).toNatClampNeg) := inb_of S33 ⟨by decide, by decide⟩
      refine Gz.ldI 182 X32 hx hZ (dd at_181) e32 A33 hin33 (Has.at H33 hin33 (rfl : _ = ((.int cc3) : Value))) rfl ?_
      refine Gz.imul 183 X32 hx (dd at_182) rfl ?_
      refine Gz.iadd 184 X32 hx (dd at_183) rfl ?_
      refine Gz.iload 186 X32 hx (dd at_184) rfl rfl ?_
      refine Gz.iadd 187 X32 hx (dd at_186) rfl ?_
      refine Gz.istore 189 #[.val (.int p0), .val (.int p1), .val (.int p2), .val (.int p3), .val (.int p4), .val (.int cc0), .val (.int cc1), .val (.int cc2), .val (.int cc3), .val (.ref b1), .val (.ref b10), .val (.int (0 : Int32)), .val (.int (3 : Int32)), .val (.int ((p3 &&& (2147483647 : Int32)) % cc0)), .val (.int ((p4 &&& (2147483647 : Int32)) % cc3)), .val (.int (0 : Int32)), .val (.int (3 : Int32)), .val (.int ((p3 &&& (2147483647 : Int32)) % cc0)), .val (.int ((p4 &&& (2147483647 : Int32)) % cc3)), .val (.int ((((cc0 * cc1) + (cc0 * cc2)) + (((p3 &&& (2147483647 : Int32)) % cc0) * cc3)) + ((p4 &&& (2147483647 : Int32)) % cc3)))] X32 hx (dd at_187) rfl rfl ?_
      refine Gz.aload 191 X32 hx (dd at_189) rfl rfl rfl ?_
      refine Gz.iload 193 X32 hx (dd at_191) rfl rfl ?_
      refine Gz.iload 195 X32 hx (dd at_193) rfl rfl ?_
      refine Gz.iload 197 X32 hx (dd at_195) rfl rfl ?_
      refine Gz.iload 199 X32 hx (dd at_197) rfl rfl ?_
      obtain ⟨cq34, kq34, q34a, q34b, q34c⟩ := isOf hZ e32 QE11
      obtain ⟨_, _, ⟨T34, L34, k34, n34⟩, -, X34, ⟨Lc34, hQ34, l34, y34, z34⟩, st34⟩ := X32.virtualBack hx (y := (⟨"com/example/minsuite/minsuite/ValuePairs", "index", "(IIII)I"⟩ : MethodName)) (z := (⟨"com/example/minsuite/minsuite/ValuePairs", "index", "(IIII)I"⟩ : MethodName)) hown (mvT hZ (ww hw 49 rfl)) (mvT hZ (ww hw 50 rfl)) (notFace_of_selects (args := #[]) (mvT hZ (ww hw 52 rfl))) (mvT hZ (ww hw 52 rfl)) (mvT hZ (ww hw 51 rfl)) (by decide) (backOf (W := 0) (rmX03 l Z av0 hw [] b10 ((p3 &&& (2147483647 : Int32)) % cc0) ((p4 &&& (2147483647 : Int32)) % cc3) so11 ks11 r0_11 r1_11 r2_11 r3_11 kr11 (0 : Int32) (0 : Int32) ((0 : Int32) + (cc0 * cc1)) (((0 : Int32) + (cc0 * cc1)) + (cc0 * cc2)) ac11 kc11 cc0 cc1 cc2 cc3 T11.heap n0 SZ11 QG11 QS11 QR0_11 QF11 QA11) hZ (ww hw 53 rfl) (ww hw 3 rfl) (by decide) (by decide)) q34a q34c (g := (mkF m 199 #[.val (.int p0), .val (.int p1), .val (.int p2), .val (.int p3), .val (.int p4), .val (.int cc0), .val (.int cc1), .val (.int cc2), .val (.int cc3), .val (.ref b1), .val (.ref b10), .val (.int (0 : Int32)), .val (.int (3 : Int32)), .val (.int ((p3 &&& (2147483647 : Int32)) % cc0)), .val (.int ((p4 &&& (2147483647 : Int32)) % cc3)), .val (.int (0 : Int32)), .val (.int (3 : Int32)), .val (.int ((p3 &&& (2147483647 : Int32)) % cc0)), .val (.int ((p4 &&& (2147483647 : Int32)) % cc3)), .val (.int ((((cc0 * cc1) + (cc0 * cc2)) + (((p3 &&& (2147483647 : Int32)) % cc0) * cc3)) + ((p4 &&& (2147483647 : Int32)) % cc3)))] [(.int ((p4 &&& (2147483647 : Int32)) % cc3)), (.int (3 : Int32)), (.int ((p3 &&& (2147483647 : Int32)) % cc0)), (.int (0 : Int32)), (.ref b10)])) rfl (by rw [hml]; rfl) (Steps.refl _) (argsL := [(.int (0 : Int32)), (.int ((p3 &&& (2147483647 : Int32)) % cc0)), (.int (3 : Int32)), (.int ((p4 &&& (2147483647 : Int32)) % cc3))]) (rest := []) (lenOf pd_4 rfl) rfl (by show 2 * 0 + _ ≤ _; exact Nat.le_of_eq rfl) (dd at_199) (fun _ _ => ⟨rfl, e32, (by decide : 11 + 0 ≤ _), (by decide : 52 + 0 ≤ _)⟩)
      dsimp only [Pt.U, Pt.locs, Pt.cells, Pt.slots, Q_rmX03] at X34 l34 y34 z34 st34 hQ34
      subst l34 y34 z34
      rw [show (fX03 b10 ((p3 &&& (2147483647 : Int32)) % cc0) ((p4 &&& (2147483647 : Int32)) % cc3) so11 r0_11 r1_11 r2_11 r3_11 (0 : Int32) (0 : Int32) ((0 : Int32) + (cc0 * cc1)) (((0 : Int32) + (cc0 * cc1)) + (cc0 * cc2)) ac11 cc0 cc1 cc2 cc3) = (((((0 : Int32) + (cc0 * cc1)) + (cc0 * cc2)) + (((p3 &&& (2147483647 : Int32)) % cc0) * cc3)) + ((p4 &&& (2147483647 : Int32)) % cc3)) from (by unfold fX03; rfl)] at hQ34
      obtain ⟨rfl, N34q, e34⟩ := hQ34
      have N34 := Fr.app N32 N34q
      refine Gz.tr st34 ?_
      refine Gz.iload 204 X34 hx (dd at_202) rfl rfl ?_
      refine Gz.icmpNo 207 X34 hx (dd at_204) (teq ((by simp only [Int32.zero_add]) : (((((0 : Int32) + (cc0 * cc1)) + (cc0 * cc2)) + (((p3 &&& (2147483647 : Int32)) % cc0) * cc3)) + ((p4 &&& (2147483647 : Int32)) % cc3)) = ((((cc0 * cc1) + (cc0 * cc2)) + (((p3 &&& (2147483647 : Int32)) % cc0) * cc3)) + ((p4 &&& (2147483647 : Int32)) % cc3)))).2 rfl ?_
      refine Gz.iconst 208 (1 : Int32) X34 hx (dd at_207) rfl rfl ?_
      refine Gz.goto 212 X34 hx (dd at_208) (by decide) (by decide) ?_
      refine Gz.fin X34 (v := some (.int (1 : Int32))) (fun h => by rw [hret] at h; cases h) hlk (by decide) (by decide) (fun fs hr => retN X34 hx (t := .boolean) hret (by simp) (dd at_212) hr) ?_
      exact ⟨rfl, N34⟩
  · rw [hs12]
    refine Gz.istore 76 #[.val (.int p0), .val (.int p1), .val (.int p2), .val (.int p3), .val (.int p4), .val (.int cc0), .val (.int cc1), .val (.int cc2), .val (.int cc3), .val (.ref b1), .val (.ref b10), .val (.int (1 : Int32)), .unset, .unset, .unset, .unset, .unset, .unset, .unset, .unset] X11 hx (dd at_74) rfl rfl ?_
    refine Gz.iload 78 X11 hx (dd at_76) rfl rfl ?_
    refine Gz.iconst 79 (1 : Int32) X11 hx (dd at_78) rfl rfl ?_
    refine Gz.iaddV 80 (2 : Int32) X11 hx (dd at_79) rfl rfl ?_
    refine Gz.iloadN 81 X11 hx (dd at_80) rfl rfl ?_
    refine Gz.ldcI 83 X11 hx (dd at_81) hown (mvT hZ (ww hw 37 rfl)) rfl ?_
    refine Gz.iand 84 X11 hx (dd at_83) rfl ?_
    refine Gz.iconst 85 (3 : Int32) X11 hx (dd at_84) rfl rfl ?_
    refine Gz.irem 86 X11 hx (dd at_85) (by decide) rfl ?_
    show Gz p e below s _ _ _ (T11.setTop (mkF m 86 #[.val (.int p0), .val (.int p1), .val (.int p2), .val (.int p3), .val (.int p4), .val (.int cc0), .val (.int cc1), .val (.int cc2), .val (.int cc3), .val (.ref b1), .val (.ref b10), .val (.int (1 : Int32)), .unset, .unset, .unset, .unset, .unset, .unset, .unset, .unset] [(.int ((p2 &&& (2147483647 : Int32)) % (3 : Int32))), (.int (2 : Int32))]))
    rcases own_three p2 with hs35 | hs35 | hs35
    · rw [hs35]
      refine Gz.iaddV 87 (2 : Int32) X11 hx (dd at_86) rfl rfl ?_
      refine Gz.iconst 88 (3 : Int32) X11 hx (dd at_87) rfl rfl ?_
      refine Gz.iandV 89 (2 : Int32) X11 hx (dd at_88) rfl rfl ?_
      refine Gz.istore 91 #[.val (.int p0), .val (.int p1), .val (.int p2), .val (.int p3), .val (.int p4), .val (.int cc0), .val (.int cc1), .val (.int cc2), .val (.int cc3), .val (.ref b1), .val (.ref b10), .val (.int (1 : Int32)), .val (.int (2 : Int32)), .unset, .unset, .unset, .unset, .unset, .unset, .unset] X11 hx (dd at_89) rfl rfl ?_
      refine Gz.iloadN 92 X11 hx (dd at_91) rfl rfl ?_
      refine Gz.ldcI 94 X11 hx (dd at_92) hown (mvT hZ (ww hw 37 rfl)) rfl ?_
      refine Gz.iand 95 X11 hx (dd at_94) rfl ?_
      refine Gz.aload 97 X11 hx (dd at_95) rfl rfl rfl ?_
      refine Gz.iload 99 X11 hx (dd at_97) rfl rfl ?_
      obtain ⟨c36, A36, q36, S36, N36, H36, G36⟩ := id f11_Vb1
      have hin36 : ¬ ((1 : Int32) < 0 ∨ c36.slots.size ≤ ((1 : Int32)).toNatClampNeg) := inb_of S36 ⟨by decide, by decide⟩
      refine Gz.ldI 100 X11 hx hZ (dd at_99) rfl A36 hin36 (Has.at H36 hin36 (rfl : _ = ((.int cc1) : Value))) rfl ?_
      refine Gz.irem 101 X11 hx (dd at_100) (own_nz h_cc1) rfl ?_
      refine Gz.istore 103 #[.val (.int p0), .val (.int p1), .val (.int p2), .val (.int p3), .val (.int p4), .val (.int cc0), .val (.int cc1), .val (.int cc2), .val (.int cc3), .val (.ref b1), .val (.ref b10), .val (.int (1 : Int32)), .val (.int (2 : Int32)), .val (.int ((p3 &&& (2147483647 : Int32)) % cc1)), .unset, .unset, .unset, .unset, .unset, .unset] X11 hx (dd at_101) rfl rfl ?_
      refine Gz.iload 105 X11 hx (dd at_103) rfl rfl ?_
      refine Gz.ldcI 107 X11 hx (dd at_105) hown (mvT hZ (ww hw 37 rfl)) rfl ?_
      refine Gz.iand 108 X11 hx (dd at_107) rfl ?_
      refine Gz.aload 110 X11 hx (dd at_108) rfl rfl rfl ?_
      refine Gz.iload 112 X11 hx (dd at_110) rfl rfl ?_
      obtain ⟨c37, A37, q37, S37, N37, H37, G37⟩ := id f11_Vb1
      have hin37 : ¬ ((2 : Int32) < 0 ∨ c37.slots.size ≤ ((2 : Int32)).toNatClampNeg) := inb_of S37 ⟨by decide, by decide⟩
      refine Gz.ldI 113 X11 hx hZ (dd at_112) rfl A37 hin37 (Has.at H37 hin37 (rfl : _ = ((.int cc2) : Value))) rfl ?_
      refine Gz.irem 114 X11 hx (dd at_113) (own_nz h_cc2) rfl ?_
      refine Gz.istore 116 #[.val (.int p0), .val (.int p1), .val (.int p2), .val (.int p3), .val (.int p4), .val (.int cc0), .val (.int cc1), .val (.int cc2), .val (.int cc3), .val (.ref b1), .val (.ref b10), .val (.int (1 : Int32)), .val (.int (2 : Int32)), .val (.int ((p3 &&& (2147483647 : Int32)) % cc1)), .val (.int ((p4 &&& (2147483647 : Int32)) % cc2)), .unset, .unset, .unset, .unset, .unset] X11 hx (dd at_114) rfl rfl ?_
      refine Gz.iload 118 X11 hx (dd at_116) rfl rfl ?_
      refine Gz.iload 120 X11 hx (dd at_118) rfl rfl ?_
      obtain ⟨_, _, ⟨T38, L38, k38, n38⟩, -, X38, ⟨Lc38, hQ38, l38, y38, z38⟩, st38⟩ := Jvm.LawKit.callS X11 hx (y := (⟨"java/lang/Math", "min", "(II)I"⟩ : MethodName)) hown (mvT hZ (ww hw 38 rfl)) (mvT hZ (ww hw 39 rfl)) (mvT hZ (ww hw 40 rfl)) (mvT hZ (ww hw 41 rfl)) (by decide) (backOf (W := 0) (rm4 l Z av0 hw [] (1 : Int32) (2 : Int32)  T11.heap n0 SZ11 ) hZ (ww hw 41 rfl) (ww hw 40 rfl) (by decide) (by decide)) (g := (mkF m 120 #[.val (.int p0), .val (.int p1), .val (.int p2), .val (.int p3), .val (.int p4), .val (.int cc0), .val (.int cc1), .val (.int cc2), .val (.int cc3), .val (.ref b1), .val (.ref b10), .val (.int (1 : Int32)), .val (.int (2 : Int32)), .val (.int ((p3 &&& (2147483647 : Int32)) % cc1)), .val (.int ((p4 &&& (2147483647 : Int32)) % cc2)), .unset, .unset, .unset, .unset, .unset] [(.int (2 : Int32)), (.int (1 : Int32))])) rfl (by rw [hml]; rfl) (argsL := [(.int (1 : Int32)), (.int (2 : Int32))]) (rest := []) (lenOf pd_2 rfl) rfl (by show 2 * 0 + _ ≤ _; exact Nat.le_of_eq rfl) (dd at_120) (fun _ _ => ⟨rfl, rfl, (by decide : 11 + 0 ≤ _), (by decide : 52 + 0 ≤ _)⟩)
      dsimp only [Pt.U, Pt.locs, Pt.cells, Pt.slots, Q_rm4] at X38 l38 y38 z38 st38 hQ38
      subst l38 y38 z38
      rw [show (fMin (1 : Int32) (2 : Int32)) = (1 : Int32) from (by unfold fMin; rw [if_neg (by decide : ¬ ((2 : Int32) < (1 : Int32)))]; try decide)] at hQ38
      obtain ⟨rfl, N38q, e38⟩ := hQ38
      have N38 := Fr.app N11 N38q
      refine Gz.st st38 ?_
      refine Gz.istore 125 #[.val (.int p0), .val (.int p1), .val (.int p2), .val (.int p3), .val (.int p4), .val (.int cc0), .val (.int cc1), .val (.int cc2), .val (.int cc3), .val (.ref b1), .val (.ref b10), .val (.int (1 : Int32)), .val (.int (2 : Int32)), .val (.int ((p3 &&& (2147483647 : Int32)) % cc1)), .val (.int ((p4 &&& (2147483647 : Int32)) % cc2)), .val (.int (1 : Int32)), .unset, .unset, .unset, .unset] X38 hx (dd at_123) rfl rfl ?_
      refine Gz.iload 127 X38 hx (dd at_125) rfl rfl ?_
      refine Gz.iload 129 X38 hx (dd at_127) rfl rfl ?_
      obtain ⟨_, _, ⟨T39, L39, k39, n39⟩, -, X39, ⟨Lc39, hQ39, l39, y39, z39⟩, st39⟩ := Jvm.LawKit.callS X38 hx (y := (⟨"java/lang/Math", "max", "(II)I"⟩ : MethodName)) hown (mvT hZ (ww hw 42 rfl)) (mvT hZ (ww hw 43 rfl)) (mvT hZ (ww hw 40 rfl)) (mvT hZ (ww hw 44 rfl)) (by decide) (backOf (W := 0) (rm5 l Z av0 hw [] (1 : Int32) (2 : Int32)  T11.heap n0 SZ11 ) hZ (ww hw 44 rfl) (ww hw 40 rfl) (by decide) (by decide)) (g := (mkF m 129 #[.val (.int p0), .val (.int p1), .val (.int p2), .val (.int p3), .val (.int p4), .val (.int cc0), .val (.int cc1), .val (.int cc2), .val (.int cc3), .val (.ref b1), .val (.ref b10), .val (.int (1 : Int32)), .val (.int (2 : Int32)), .val (.int ((p3 &&& (2147483647 : Int32)) % cc1)), .val (.int ((p4 &&& (2147483647 : Int32)) % cc2)), .val (.int (1 : Int32)), .unset, .unset, .unset, .unset] [(.int (2 : Int32)), (.int (1 : Int32))])) rfl (by rw [hml]; rfl) (argsL := [(.int (1 : Int32)), (.int (2 : Int32))]) (rest := []) (lenOf pd_2 rfl) rfl (by show 2 * 0 + _ ≤ _; exact Nat.le_of_eq rfl) (dd at_129) (fun _ _ => ⟨rfl, e38, (by decide : 11 + 0 ≤ _), (by decide : 52 + 0 ≤ _)⟩)
      dsimp only [Pt.U, Pt.locs, Pt.cells, Pt.slots, Q_rm5] at X39 l39 y39 z39 st39 hQ39
      subst l39 y39 z39
      rw [show (fMax (1 : Int32) (2 : Int32)) = (2 : Int32) from (by unfold fMax; rw [if_pos (by decide : (1 : Int32) < (2 : Int32))]; try decide)] at hQ39
      obtain ⟨rfl, N39q, e39⟩ := hQ39
      have N39 := Fr.app N38 N39q
      refine Gz.st st39 ?_
      refine Gz.istore 134 #[.val (.int p0), .val (.int p1), .val (.int p2), .val (.int p3), .val (.int p4), .val (.int cc0), .val (.int cc1), .val (.int cc2), .val (.int cc3), .val (.ref b1), .val (.ref b10), .val (.int (1 : Int32)), .val (.int (2 : Int32)), .val (.int ((p3 &&& (2147483647 : Int32)) % cc1)), .val (.int ((p4 &&& (2147483647 : Int32)) % cc2)), .val (.int (1 : Int32)), .val (.int (2 : Int32)), .unset, .unset, .unset] X39 hx (dd at_132) rfl rfl ?_
      refine Gz.iload 136 X39 hx (dd at_134) rfl rfl ?_
      refine Gz.iload 138 X39 hx (dd at_136) rfl rfl ?_
      refine Gz.icmpNo 141 X39 hx (dd at_138) (teq (by decide : (1 : Int32) = (1 : Int32))).2 rfl ?_
      refine Gz.iload 143 X39 hx (dd at_141) rfl rfl ?_
      refine Gz.istore 145 #[.val (.int p0), .val (.int p1), .val (.int p2), .val (.int p3), .val (.int p4), .val (.int cc0), .val (.int cc1), .val (.int cc2), .val (.int cc3), .val (.ref b1), .val (.ref b10), .val (.int (1 : Int32)), .val (.int (2 : Int32)), .val (.int ((p3 &&& (2147483647 : Int32)) % cc1)), .val (.int ((p4 &&& (2147483647 : Int32)) % cc2)), .val (.int (1 : Int32)), .val (.int (2 : Int32)), .val (.int ((p3 &&& (2147483647 : Int32)) % cc1)), .unset, .unset] X39 hx (dd at_143) rfl rfl ?_
      refine Gz.iload 147 X39 hx (dd at_145) rfl rfl ?_
      refine Gz.istore 149 #[.val (.int p0), .val (.int p1), .val (.int p2), .val (.int p3), .val (.int p4), .val (.int cc0), .val (.int cc1), .val (.int cc2), .val (.int cc3), .val (.ref b1), .val (.ref b10), .val (.int (1 : Int32)), .val (.int (2 : Int32)), .val (.int ((p3 &&& (2147483647 : Int32)) % cc1)), .val (.int ((p4 &&& (2147483647 : Int32)) % cc2)), .val (.int (1 : Int32)), .val (.int (2 : Int32)), .val (.int ((p3 &&& (2147483647 : Int32)) % cc1)), .val (.int ((p4 &&& (2147483647 : Int32)) % cc2)), .unset] X39 hx (dd at_147) rfl rfl ?_
      refine Gz.goto 160 X39 hx (dd at_149) (by decide) (by decide) ?_
      refine Gz.iload 162 X39 hx (dd at_160) rfl rfl ?_
      refine Gz.iload 164 X39 hx (dd at_162) rfl rfl ?_
      refine Gz.iload 166 X39 hx (dd at_164) rfl rfl ?_
      refine Gz.iload 168 X39 hx (dd at_166) rfl rfl ?_
      refine Gz.iload 170 X39 hx (dd at_168) rfl rfl ?_
      refine Gz.iload 172 X39 hx (dd at_170) rfl rfl ?_
      obtain ⟨_, _, ⟨T40, L40, k40, n40⟩, -, X40, ⟨Lc40, hQ40, l40, y40, z40⟩, st40⟩ := Jvm.LawKit.callS X39 hx (y := (⟨"com/example/minsuite/minsuite/ValuePairsIndexPinLaw", "start", "(IIIIII)I"⟩ : MethodName)) hown (mvT hZ (ww hw 45 rfl)) (mvT hZ (ww hw 46 rfl)) (mvT hZ (ww hw 47 rfl)) (mvT hZ (ww hw 48 rfl)) (by decide) (backOf (W := 0) (rm6 l Z av0 hw [] (1 : Int32) (2 : Int32) cc0 cc1 cc2 cc3  T11.heap n0 SZ11 ) hZ (ww hw 48 rfl) (ww hw 47 rfl) (by decide) (by decide)) (g := (mkF m 172 #[.val (.int p0), .val (.int p1), .val (.int p2), .val (.int p3), .val (.int p4), .val (.int cc0), .val (.int cc1), .val (.int cc2), .val (.int cc3), .val (.ref b1), .val (.ref b10), .val (.int (1 : Int32)), .val (.int (2 : Int32)), .val (.int ((p3 &&& (2147483647 : Int32)) % cc1)), .val (.int ((p4 &&& (2147483647 : Int32)) % cc2)), .val (.int (1 : Int32)), .val (.int (2 : Int32)), .val (.int ((p3 &&& (2147483647 : Int32)) % cc1)), .val (.int ((p4 &&& (2147483647 : Int32)) % cc2)), .unset] [(.int cc3), (.int cc2), (.int cc1), (.int cc0), (.int (2 : Int32)), (.int (1 : Int32))])) rfl (by rw [hml]; rfl) (argsL := [(.int (1 : Int32)), (.int (2 : Int32)), (.int cc0), (.int cc1), (.int cc2), (.int cc3)]) (rest := []) (lenOf pd_3 rfl) rfl (by show 2 * 0 + _ ≤ _; exact Nat.le_of_eq rfl) (dd at_172) (fun _ _ => ⟨rfl, e39, (by decide : 11 + 0 ≤ _), (by decide : 52 + 0 ≤ _)⟩)
      dsimp only [Pt.U, Pt.locs, Pt.cells, Pt.slots, Q_rm6] at X40 l40 y40 z40 st40 hQ40
      subst l40 y40 z40
      rw [show (fSt (1 : Int32) (2 : Int32) cc0 cc1 cc2 cc3) = (((cc0 * cc1) + (cc0 * cc2)) + (cc0 * cc3)) from (by unfold fSt; rw [if_neg (by decide : ¬ ((1 : Int32) = (0 : Int32))), if_pos (by decide : (1 : Int32) = (1 : Int32)), if_pos (by decide : (2 : Int32) = (2 : Int32))]; try decide)] at hQ40
      obtain ⟨rfl, N40q, e40⟩ := hQ40
      have N40 := Fr.app N39 N40q
      refine Gz.st st40 ?_
      refine Gz.iload 177 X40 hx (dd at_175) rfl rfl ?_
      refine Gz.aload 179 X40 hx (dd at_177) rfl rfl rfl ?_
      refine Gz.iload 181 X40 hx (dd at_179) rfl rfl ?_
      obtain ⟨c41, A41, q41, S41, N41, H41, G41⟩ := id f11_Vb1
      have hin41 : ¬ ((2 : Int32) < 0 ∨ c41.slots.size ≤ ((2 : Int32)).toNatClampNeg) := inb_of S41 ⟨by decide, by decide⟩
      refine Gz.ldI 182 X40 hx hZ (dd at_181) e40 A41 hin41 (Has.at H41 hin41 (rfl : _ = ((.int cc2) : Value))) rfl ?_
      refine Gz.imul 183 X40 hx (dd at_182) rfl ?_
      refine Gz.iadd 184 X40 hx (dd at_183) rfl ?_
      refine Gz.iload 186 X40 hx (dd at_184) rfl rfl ?_
      refine Gz.iadd 187 X40 hx (dd at_186) rfl ?_
      refine Gz.istore 189 #[.val (.int p0), .val (.int p1), .val (.int p2), .val (.int p3), .val (.int p4), .val (.int cc0), .val (.int cc1), .val (.int cc2), .val (.int cc3), .val (.ref b1), .val (.ref b10), .val (.int (1 : Int32)), .val (.int (2 : Int32)), .val (.int ((p3 &&& (2147483647 : Int32)) % cc1)), .val (.int ((p4 &&& (2147483647 : Int32)) % cc2)), .val (.int (1 : Int32)), .val (.int (2 : Int32)), .val (.int ((p3 &&& (2147483647 : Int32)) % cc1)), .val (.int ((p4 &&& (2147483647 : Int32)) % cc2)), .val (.int (((((cc0 * cc1) + (cc0 * cc2)) + (cc0 * cc3)) + (((p3 &&& (2147483647 : Int32)) % cc1) * cc2)) + ((p4 &&& (2147483647 : Int32)) % cc2)))] X40 hx (dd at_187) rfl rfl ?_
      refine Gz.aload 191 X40 hx (dd at_189) rfl rfl rfl ?_
      refine Gz.iload 193 X40 hx (dd at_191) rfl rfl ?_
      refine Gz.iload 195 X40 hx (dd at_193) rfl rfl ?_
      refine Gz.iload 197 X40 hx (dd at_195) rfl rfl ?_
      refine Gz.iload 199 X40 hx (dd at_197) rfl rfl ?_
      obtain ⟨cq42, kq42, q42a, q42b, q42c⟩ := isOf hZ e40 QE11
      obtain ⟨_, _, ⟨T42, L42, k42, n42⟩, -, X42, ⟨Lc42, hQ42, l42, y42, z42⟩, st42⟩ := X40.virtualBack hx (y := (⟨"com/example/minsuite/minsuite/ValuePairs", "index", "(IIII)I"⟩ : MethodName)) (z := (⟨"com/example/minsuite/minsuite/ValuePairs", "index", "(IIII)I"⟩ : MethodName)) hown (mvT hZ (ww hw 49 rfl)) (mvT hZ (ww hw 50 rfl)) (notFace_of_selects (args := #[]) (mvT hZ (ww hw 52 rfl))) (mvT hZ (ww hw 52 rfl)) (mvT hZ (ww hw 51 rfl)) (by decide) (backOf (W := 0) (rmX12 l Z av0 hw [] b10 ((p3 &&& (2147483647 : Int32)) % cc1) ((p4 &&& (2147483647 : Int32)) % cc2) so11 ks11 r0_11 r1_11 r2_11 r3_11 kr11 (0 : Int32) (0 : Int32) ((((0 : Int32) + (cc0 * cc1)) + (cc0 * cc2)) + (cc0 * cc3)) (((((0 : Int32) + (cc0 * cc1)) + (cc0 * cc2)) + (cc0 * cc3)) + (cc1 * cc2)) ac11 kc11 cc0 cc1 cc2 cc3 T11.heap n0 SZ11 QG11 QS11 QR1_11 QF11 QA11) hZ (ww hw 53 rfl) (ww hw 3 rfl) (by decide) (by decide)) q42a q42c (g := (mkF m 199 #[.val (.int p0), .val (.int p1), .val (.int p2), .val (.int p3), .val (.int p4), .val (.int cc0), .val (.int cc1), .val (.int cc2), .val (.int cc3), .val (.ref b1), .val (.ref b10), .val (.int (1 : Int32)), .val (.int (2 : Int32)), .val (.int ((p3 &&& (2147483647 : Int32)) % cc1)), .val (.int ((p4 &&& (2147483647 : Int32)) % cc2)), .val (.int (1 : Int32)), .val (.int (2 : Int32)), .val (.int ((p3 &&& (2147483647 : Int32)) % cc1)), .val (.int ((p4 &&& (2147483647 : Int32)) % cc2)), .val (.int (((((cc0 * cc1) + (cc0 * cc2)) + (cc0 * cc3)) + (((p3 &&& (2147483647 : Int32)) % cc1) * cc2)) + ((p4 &&& (2147483647 : Int32)) % cc2)))] [(.int ((p4 &&& (2147483647 : Int32)) % cc2)), (.int (2 : Int32)), (.int ((p3 &&& (2147483647 : Int32)) % cc1)), (.int (1 : Int32)), (.ref b10)])) rfl (by rw [hml]; rfl) (Steps.refl _) (argsL := [(.int (1 : Int32)), (.int ((p3 &&& (2147483647 : Int32)) % cc1)), (.int (2 : Int32)), (.int ((p4 &&& (2147483647 : Int32)) % cc2))]) (rest := []) (lenOf pd_4 rfl) rfl (by show 2 * 0 + _ ≤ _; exact Nat.le_of_eq rfl) (dd at_199) (fun _ _ => ⟨rfl, e40, (by decide : 11 + 0 ≤ _), (by decide : 52 + 0 ≤ _)⟩)
      dsimp only [Pt.U, Pt.locs, Pt.cells, Pt.slots, Q_rmX12] at X42 l42 y42 z42 st42 hQ42
      subst l42 y42 z42
      rw [show (fX12 b10 ((p3 &&& (2147483647 : Int32)) % cc1) ((p4 &&& (2147483647 : Int32)) % cc2) so11 r0_11 r1_11 r2_11 r3_11 (0 : Int32) (0 : Int32) ((((0 : Int32) + (cc0 * cc1)) + (cc0 * cc2)) + (cc0 * cc3)) (((((0 : Int32) + (cc0 * cc1)) + (cc0 * cc2)) + (cc0 * cc3)) + (cc1 * cc2)) ac11 cc0 cc1 cc2 cc3) = ((((((0 : Int32) + (cc0 * cc1)) + (cc0 * cc2)) + (cc0 * cc3)) + (((p3 &&& (2147483647 : Int32)) % cc1) * cc2)) + ((p4 &&& (2147483647 : Int32)) % cc2)) from (by unfold fX12; rfl)] at hQ42
      obtain ⟨rfl, N42q, e42⟩ := hQ42
      have N42 := Fr.app N40 N42q
      refine Gz.tr st42 ?_
      refine Gz.iload 204 X42 hx (dd at_202) rfl rfl ?_
      refine Gz.icmpNo 207 X42 hx (dd at_204) (teq ((by simp only [Int32.zero_add]) : ((((((0 : Int32) + (cc0 * cc1)) + (cc0 * cc2)) + (cc0 * cc3)) + (((p3 &&& (2147483647 : Int32)) % cc1) * cc2)) + ((p4 &&& (2147483647 : Int32)) % cc2)) = (((((cc0 * cc1) + (cc0 * cc2)) + (cc0 * cc3)) + (((p3 &&& (2147483647 : Int32)) % cc1) * cc2)) + ((p4 &&& (2147483647 : Int32)) % cc2)))).2 rfl ?_
      refine Gz.iconst 208 (1 : Int32) X42 hx (dd at_207) rfl rfl ?_
      refine Gz.goto 212 X42 hx (dd at_208) (by decide) (by decide) ?_
      refine Gz.fin X42 (v := some (.int (1 : Int32))) (fun h => by rw [hret] at h; cases h) hlk (by decide) (by decide) (fun fs hr => retN X42 hx (t := .boolean) hret (by simp) (dd at_212) hr) ?_
      exact ⟨rfl, N42⟩
    · rw [hs35]
      refine Gz.iaddV 87 (3 : Int32) X11 hx (dd at_86) rfl rfl ?_
      refine Gz.iconst 88 (3 : Int32) X11 hx (dd at_87) rfl rfl ?_
      refine Gz.iandV 89 (3 : Int32) X11 hx (dd at_88) rfl rfl ?_
      refine Gz.istore 91 #[.val (.int p0), .val (.int p1), .val (.int p2), .val (.int p3), .val (.int p4), .val (.int cc0), .val (.int cc1), .val (.int cc2), .val (.int cc3), .val (.ref b1), .val (.ref b10), .val (.int (1 : Int32)), .val (.int (3 : Int32)), .unset, .unset, .unset, .unset, .unset, .unset, .unset] X11 hx (dd at_89) rfl rfl ?_
      refine Gz.iloadN 92 X11 hx (dd at_91) rfl rfl ?_
      refine Gz.ldcI 94 X11 hx (dd at_92) hown (mvT hZ (ww hw 37 rfl)) rfl ?_
      refine Gz.iand 95 X11 hx (dd at_94) rfl ?_
      refine Gz.aload 97 X11 hx (dd at_95) rfl rfl rfl ?_
      refine Gz.iload 99 X11 hx (dd at_97) rfl rfl ?_
      obtain ⟨c43, A43, q43, S43, N43, H43, G43⟩ := id f11_Vb1
      have hin43 : ¬ ((1 : Int32) < 0 ∨ c43.slots.size ≤ ((1 : Int32)).toNatClampNeg) := inb_of S43 ⟨by decide, by decide⟩
      refine Gz.ldI 100 X11 hx hZ (dd at_99) rfl A43 hin43 (Has.at H43 hin43 (rfl : _ = ((.int cc1) : Value))) rfl ?_
      refine Gz.irem 101 X11 hx (dd at_100) (own_nz h_cc1) rfl ?_
      refine Gz.istore 103 #[.val (.int p0), .val (.int p1), .val (.int p2), .val (.int p3), .val (.int p4), .val (.int cc0), .val (.int cc1), .val (.int cc2), .val (.int cc3), .val (.ref b1), .val (.ref b10), .val (.int (1 : Int32)), .val (.int (3 : Int32)), .val (.int ((p3 &&& (2147483647 : Int32)) % cc1)), .unset, .unset, .unset, .unset, .unset, .unset] X11 hx (dd at_101) rfl rfl ?_
      refine Gz.iload 105 X11 hx (dd at_103) rfl rfl ?_
      refine Gz.ldcI 107 X11 hx (dd at_105) hown (mvT hZ (ww hw 37 rfl)) rfl ?_
      refine Gz.iand 108 X11 hx (dd at_107) rfl ?_
      refine Gz.aload 110 X11 hx (dd at_108) rfl rfl rfl ?_
      refine Gz.iload 112 X11 hx (dd at_110) rfl rfl ?_
      obtain ⟨c44, A44, q44, S44, N44, H44, G44⟩ := id f11_Vb1
      have hin44 : ¬ ((3 : Int32) < 0 ∨ c44.slots.size ≤ ((3 : Int32)).toNatClampNeg) := inb_of S44 ⟨by decide, by decide⟩
      refine Gz.ldI 113 X11 hx hZ (dd at_112) rfl A44 hin44 (Has.at H44 hin44 (rfl : _ = ((.int cc3) : Value))) rfl ?_
      refine Gz.irem 114 X11 hx (dd at_113) (own_nz h_cc3) rfl ?_
      refine Gz.istore 116 #[.val (.int p0), .val (.int p1), .val (.int p2), .val (.int p3), .val (.int p4), .val (.int cc0), .val (.int cc1), .val (.int cc2), .val (.int cc3), .val (.ref b1), .val (.ref b10), .val (.int (1 : Int32)), .val (.int (3 : Int32)), .val (.int ((p3 &&& (2147483647 : Int32)) % cc1)), .val (.int ((p4 &&& (2147483647 : Int32)) % cc3)), .unset, .unset, .unset, .unset, .unset] X11 hx (dd at_114) rfl rfl ?_
      refine Gz.iload 118 X11 hx (dd at_116) rfl rfl ?_
      refine Gz.iload 120 X11 hx (dd at_118) rfl rfl ?_
      obtain ⟨_, _, ⟨T45, L45, k45, n45⟩, -, X45, ⟨Lc45, hQ45, l45, y45, z45⟩, st45⟩ := Jvm.LawKit.callS X11 hx (y := (⟨"java/lang/Math", "min", "(II)I"⟩ : MethodName)) hown (mvT hZ (ww hw 38 rfl)) (mvT hZ (ww hw 39 rfl)) (mvT hZ (ww hw 40 rfl)) (mvT hZ (ww hw 41 rfl)) (by decide) (backOf (W := 0) (rm4 l Z av0 hw [] (1 : Int32) (3 : Int32)  T11.heap n0 SZ11 ) hZ (ww hw 41 rfl) (ww hw 40 rfl) (by decide) (by decide)) (g := (mkF m 120 #[.val (.int p0), .val (.int p1), .val (.int p2), .val (.int p3), .val (.int p4), .val (.int cc0), .val (.int cc1), .val (.int cc2), .val (.int cc3), .val (.ref b1), .val (.ref b10), .val (.int (1 : Int32)), .val (.int (3 : Int32)), .val (.int ((p3 &&& (2147483647 : Int32)) % cc1)), .val (.int ((p4 &&& (2147483647 : Int32)) % cc3)), .unset, .unset, .unset, .unset, .unset] [(.int (3 : Int32)), (.int (1 : Int32))])) rfl (by rw [hml]; rfl) (argsL := [(.int (1 : Int32)), (.int (3 : Int32))]) (rest := []) (lenOf pd_2 rfl) rfl (by show 2 * 0 + _ ≤ _; exact Nat.le_of_eq rfl) (dd at_120) (fun _ _ => ⟨rfl, rfl, (by decide : 11 + 0 ≤ _), (by decide : 52 + 0 ≤ _)⟩)
      dsimp only [Pt.U, Pt.locs, Pt.cells, Pt.slots, Q_rm4] at X45 l45 y45 z45 st45 hQ45
      subst l45 y45 z45
      rw [show (fMin (1 : Int32) (3 : Int32)) = (1 : Int32) from (by unfold fMin; rw [if_neg (by decide : ¬ ((3 : Int32) < (1 : Int32)))]; try decide)] at hQ45
      obtain ⟨rfl, N45q, e45⟩ := hQ45
      have N45 := Fr.app N11 N45q
      refine Gz.st st45 ?_
      refine Gz.istore 125 #[.val (.int p0), .val (.int p1), .val (.int p2), .val (.int p3), .val (.int p4), .val (.int cc0), .val (.int cc1), .val (.int cc2), .val (.int cc3), .val (.ref b1), .val (.ref b10), .val (.int (1 : Int32)), .val (.int (3 : Int32)), .val (.int ((p3 &&& (2147483647 : Int32)) % cc1)), .val (.int ((p4 &&& (2147483647 : Int32)) % cc3)), .val (.int (1 : Int32)), .unset, .unset, .unset, .unset] X45 hx (dd at_123) rfl rfl ?_
      refine Gz.iload 127 X45 hx (dd at_125) rfl rfl ?_
      refine Gz.iload 129 X45 hx (dd at_127) rfl rfl ?_
      obtain ⟨_, _, ⟨T46, L46, k46, n46⟩, -, X46, ⟨Lc46, hQ46, l46, y46, z46⟩, st46⟩ := Jvm.LawKit.callS X45 hx (y := (⟨"java/lang/Math", "max", "(II)I"⟩ : MethodName)) hown (mvT hZ (ww hw 42 rfl)) (mvT hZ (ww hw 43 rfl)) (mvT hZ (ww hw 40 rfl)) (mvT hZ (ww hw 44 rfl)) (by decide) (backOf (W := 0) (rm5 l Z av0 hw [] (1 : Int32) (3 : Int32)  T11.heap n0 SZ11 ) hZ (ww hw 44 rfl) (ww hw 40 rfl) (by decide) (by decide)) (g := (mkF m 129 #[.val (.int p0), .val (.int p1), .val (.int p2), .val (.int p3), .val (.int p4), .val (.int cc0), .val (.int cc1), .val (.int cc2), .val (.int cc3), .val (.ref b1), .val (.ref b10), .val (.int (1 : Int32)), .val (.int (3 : Int32)), .val (.int ((p3 &&& (2147483647 : Int32)) % cc1)), .val (.int ((p4 &&& (2147483647 : Int32)) % cc3)), .val (.int (1 : Int32)), .unset, .unset, .unset, .unset] [(.int (3 : Int32)), (.int (1 : Int32))])) rfl (by rw [hml]; rfl) (argsL := [(.int (1 : Int32)), (.int (3 : Int32))]) (rest := []) (lenOf pd_2 rfl) rfl (by show 2 * 0 + _ ≤ _; exact Nat.le_of_eq rfl) (dd at_129) (fun _ _ => ⟨rfl, e45, (by decide : 11 + 0 ≤ _), (by decide : 52 + 0 ≤ _)⟩)
      dsimp only [Pt.U, Pt.locs, Pt.cells, Pt.slots, Q_rm5] at X46 l46 y46 z46 st46 hQ46
      subst l46 y46 z46
      rw [show (fMax (1 : Int32) (3 : Int32)) = (3 : Int32) from (by unfold fMax; rw [if_pos (by decide : (1 : Int32) < (3 : Int32))]; try decide)] at hQ46
      obtain ⟨rfl, N46q, e46⟩ := hQ46
      have N46 := Fr.app N45 N46q
      refine Gz.st st46 ?_
      refine Gz.istore 134 #[.val (.int p0), .val (.int p1), .val (.int p2), .val (.int p3), .val (.int p4), .val (.int cc0), .val (.int cc1), .val (.int cc2), .val (.int cc3), .val (.ref b1), .val (.ref b10), .val (.int (1 : Int32)), .val (.int (3 : Int32)), .val (.int ((p3 &&& (2147483647 : Int32)) % cc1)), .val (.int ((p4 &&& (2147483647 : Int32)) % cc3)), .val (.int (1 : Int32)), .val (.int (3 : Int32)), .unset, .unset, .unset] X46 hx (dd at_132) rfl rfl ?_
      refine Gz.iload 136 X46 hx (dd at_134) rfl rfl ?_
      refine Gz.iload 138 X46 hx (dd at_136) rfl rfl ?_
      refine Gz.icmpNo 141 X46 hx (dd at_138) (teq (by decide : (1 : Int32) = (1 : Int32))).2 rfl ?_
      refine Gz.iload 143 X46 hx (dd at_141) rfl rfl ?_
      refine Gz.istore 145 #[.val (.int p0), .val (.int p1), .val (.int p2), .val (.int p3), .val (.int p4), .val (.int cc0), .val (.int cc1), .val (.int cc2), .val (.int cc3), .val (.ref b1), .val (.ref b10), .val (.int (1 : Int32)), .val (.int (3 : Int32)), .val (.int ((p3 &&& (2147483647 : Int32)) % cc1)), .val (.int ((p4 &&& (2147483647 : Int32)) % cc3)), .val (.int (1 : Int32)), .val (.int (3 : Int32)), .val (.int ((p3 &&& (2147483647 : Int32)) % cc1)), .unset, .unset] X46 hx (dd at_143) rfl rfl ?_
      refine Gz.iload 147 X46 hx (dd at_145) rfl rfl ?_
      refine Gz.istore 149 #[.val (.int p0), .val (.int p1), .val (.int p2), .val (.int p3), .val (.int p4), .val (.int cc0), .val (.int cc1), .val (.int cc2), .val (.int cc3), .val (.ref b1), .val (.ref b10), .val (.int (1 : Int32)), .val (.int (3 : Int32)), .val (.int ((p3 &&& (2147483647 : Int32)) % cc1)), .val (.int ((p4 &&& (2147483647 : Int32)) % cc3)), .val (.int (1 : Int32)), .val (.int (3 : Int32)), .val (.int ((p3 &&& (2147483647 : Int32)) % cc1)), .val (.int ((p4 &&& (2147483647 : Int32)) % cc3)), .unset] X46 hx (dd at_147) rfl rfl ?_
      refine Gz.goto 160 X46 hx (dd at_149) (by decide) (by decide) ?_
      refine Gz.iload 162 X46 hx (dd at_160) rfl rfl ?_
      refine Gz.iload 164 X46 hx (dd at_162) rfl rfl ?_
      refine Gz.iload 166 X46 hx (dd at_164) rfl rfl ?_
      refine Gz.iload 168 X46 hx (dd at_166) rfl rfl ?_
      refine Gz.iload 170 X46 hx (dd at_168) rfl rfl ?_
      refine Gz.iload 172 X46 hx (dd at_170) rfl rfl ?_
      obtain ⟨_, _, ⟨T47, L47, k47, n47⟩, -, X47, ⟨Lc47, hQ47, l47, y47, z47⟩, st47⟩ := Jvm.LawKit.callS X46 hx (y := (⟨"com/example/minsuite/minsuite/ValuePairsIndexPinLaw", "start", "(IIIIII)I"⟩ : MethodName)) hown (mvT hZ (ww hw 45 rfl)) (mvT hZ (ww hw 46 rfl)) (mvT hZ (ww hw 47 rfl)) (mvT hZ (ww hw 48 rfl)) (by decide) (backOf (W := 0) (rm6 l Z av0 hw [] (1 : Int32) (3 : Int32) cc0 cc1 cc2 cc3  T11.heap n0 SZ11 ) hZ (ww hw 48 rfl) (ww hw 47 rfl) (by decide) (by decide)) (g := (mkF m 172 #[.val (.int p0), .val (.int p1), .val (.int p2), .val (.int p3), .val (.int p4), .val (.int cc0), .val (.int cc1), .val (.int cc2), .val (.int cc3), .val (.ref b1), .val (.ref b10), .val (.int (1 : Int32)), .val (.int (3 : Int32)), .val (.int ((p3 &&& (2147483647 : Int32)) % cc1)), .val (.int ((p4 &&& (2147483647 : Int32)) % cc3)), .val (.int (1 : Int32)), .val (.int (3 : Int32)), .val (.int ((p3 &&& (2147483647 : Int32)) % cc1)), .val (.int ((p4 &&& (2147483647 : Int32)) % cc3)), .unset] [(.int cc3), (.int cc2), (.int cc1), (.int cc0), (.int (3 : Int32)), (.int (1 : Int32))])) rfl (by rw [hml]; rfl) (argsL := [(.int (1 : Int32)), (.int (3 : Int32)), (.int cc0), (.int cc1), (.int cc2), (.int cc3)]) (rest := []) (lenOf pd_3 rfl) rfl (by show 2 * 0 + _ ≤ _; exact Nat.le_of_eq rfl) (dd at_172) (fun _ _ => ⟨rfl, e46, (by decide : 11 + 0 ≤ _), (by decide : 52 + 0 ≤ _)⟩)
      dsimp only [Pt.U, Pt.locs, Pt.cells, Pt.slots, Q_rm6] at X47 l47 y47 z47 st47 hQ47
      subst l47 y47 z47
      rw [show (fSt (1 : Int32) (3 : Int32) cc0 cc1 cc2 cc3) = ((((cc0 * cc1) + (cc0 * cc2)) + (cc0 * cc3)) + (cc1 * cc2)) from (by unfold fSt; rw [if_neg (by decide : ¬ ((1 : Int32) = (0 : Int32))), if_pos (by decide : (1 : Int32) = (1 : Int32)), if_neg (by decide : ¬ ((3 : Int32) = (2 : Int32)))]; try decide)] at hQ47
      obtain ⟨rfl, N47q, e47⟩ := hQ47
      have N47 := Fr.app N46 N47q
      refine Gz.st st47 ?_
      refine Gz.iload 177 X47 hx (dd at_175) rfl rfl ?_
      refine Gz.aload 179 X47 hx (dd at_177) rfl rfl rfl ?_
      refine Gz.iload 181 X47 hx (dd at_179) rfl rfl ?_
      obtain ⟨c48, A48, q48, S48, N48, H48, G48⟩ := id f11_Vb1
      have hin48 : ¬ ((3 : Int32) < 0 ∨ c48.slots.size ≤ ((3 : Int32)).toNatClampNeg) := inb_of S48 ⟨by decide, by decide⟩
      refine Gz.ldI 182 X47 hx hZ (dd at_181) e47 A48 hin48 (Has.at H48 hin48 (rfl : _ = ((.int cc3) : Value))) rfl ?_
      refine Gz.imul 183 X47 hx (dd at_182) rfl ?_
      refine Gz.iadd 184 X47 hx (dd at_183) rfl ?_
      refine Gz.iload 186 X47 hx (dd at_184) rfl rfl ?_
      refine Gz.iadd 187 X47 hx (dd at_186) rfl ?_
      refine Gz.istore 189 #[.val (.int p0), .val (.int p1), .val (.int p2), .val (.int p3), .val (.int p4), .val (.int cc0), .val (.int cc1), .val (.int cc2), .val (.int cc3), .val (.ref b1), .val (.ref b10), .val (.int (1 : Int32)), .val (.int (3 : Int32)), .val (.int ((p3 &&& (2147483647 : Int32)) % cc1)), .val (.int ((p4 &&& (2147483647 : Int32)) % cc3)), .val (.int (1 : Int32)), .val (.int (3 : Int32)), .val (.int ((p3 &&& (2147483647 : Int32)) % cc1)), .val (.int ((p4 &&& (2147483647 : Int32)) % cc3)), .val (.int ((((((cc0 * cc1) + (cc0 * cc2)) + (cc0 * cc3)) + (cc1 * cc2)) + (((p3 &&& (2147483647 : Int32)) % cc1) * cc3)) + ((p4 &&& (2147483647 : Int32)) % cc3)))] X47 hx (dd at_187) rfl rfl ?_
      refine Gz.aload 191 X47 hx (dd at_189) rfl rfl rfl ?_
      refine Gz.iload 193 X47 hx (dd at_191) rfl rfl ?_
      refine Gz.iload 195 X47 hx (dd at_193) rfl rfl ?_
      refine Gz.iload 197 X47 hx (dd at_195) rfl rfl ?_
      refine Gz.iload 199 X47 hx (dd at_197) rfl rfl ?_
      obtain ⟨cq49, kq49, q49a, q49b, q49c⟩ := isOf hZ e47 QE11
      obtain ⟨_, _, ⟨T49, L49, k49, n49⟩, -, X49, ⟨Lc49, hQ49, l49, y49, z49⟩, st49⟩ := X47.virtualBack hx (y := (⟨"com/example/minsuite/minsuite/ValuePairs", "index", "(IIII)I"⟩ : MethodName)) (z := (⟨"com/example/minsuite/minsuite/ValuePairs", "index", "(IIII)I"⟩ : MethodName)) hown (mvT hZ (ww hw 49 rfl)) (mvT hZ (ww hw 50 rfl)) (notFace_of_selects (args := #[]) (mvT hZ (ww hw 52 rfl))) (mvT hZ (ww hw 52 rfl)) (mvT hZ (ww hw 51 rfl)) (by decide) (backOf (W := 0) (rmX13 l Z av0 hw [] b10 ((p3 &&& (2147483647 : Int32)) % cc1) ((p4 &&& (2147483647 : Int32)) % cc3) so11 ks11 r0_11 r1_11 r2_11 r3_11 kr11 (0 : Int32) (0 : Int32) ((((0 : Int32) + (cc0 * cc1)) + (cc0 * cc2)) + (cc0 * cc3)) (((((0 : Int32) + (cc0 * cc1)) + (cc0 * cc2)) + (cc0 * cc3)) + (cc1 * cc2)) ac11 kc11 cc0 cc1 cc2 cc3 T11.heap n0 SZ11 QG11 QS11 QR1_11 QF11 QA11) hZ (ww hw 53 rfl) (ww hw 3 rfl) (by decide) (by decide)) q49a q49c (g := (mkF m 199 #[.val (.int p0), .val (.int p1), .val (.int p2), .val (.int p3), .val (.int p4), .val (.int cc0), .val (.int cc1), .val (.int cc2), .val (.int cc3), .val (.ref b1), .val (.ref b10), .val (.int (1 : Int32)), .val (.int (3 : Int32)), .val (.int ((p3 &&& (2147483647 : Int32)) % cc1)), .val (.int ((p4 &&& (2147483647 : Int32)) % cc3)), .val (.int (1 : Int32)), .val (.int (3 : Int32)), .val (.int ((p3 &&& (2147483647 : Int32)) % cc1)), .val (.int ((p4 &&& (2147483647 : Int32)) % cc3)), .val (.int ((((((cc0 * cc1) + (cc0 * cc2)) + (cc0 * cc3)) + (cc1 * cc2)) + (((p3 &&& (2147483647 : Int32)) % cc1) * cc3)) + ((p4 &&& (2147483647 : Int32)) % cc3)))] [(.int ((p4 &&& (2147483647 : Int32)) % cc3)), (.int (3 : Int32)), (.int ((p3 &&& (2147483647 : Int32)) % cc1)), (.int (1 : Int32)), (.ref b10)])) rfl (by rw [hml]; rfl) (Steps.refl _) (argsL := [(.int (1 : Int32)), (.int ((p3 &&& (2147483647 : Int32)) % cc1)), (.int (3 : Int32)), (.int ((p4 &&& (2147483647 : Int32)) % cc3))]) (rest := []) (lenOf pd_4 rfl) rfl (by show 2 * 0 + _ ≤ _; exact Nat.le_of_eq rfl) (dd at_199) (fun _ _ => ⟨rfl, e47, (by decide : 11 + 0 ≤ _), (by decide : 52 + 0 ≤ _)⟩)
      dsimp only [Pt.U, Pt.locs, Pt.cells, Pt.slots, Q_rmX13] at X49 l49 y49 z49 st49 hQ49
      subst l49 y49 z49
      rw [show (fX13 b10 ((p3 &&& (2147483647 : Int32)) % cc1) ((p4 &&& (2147483647 : Int32)) % cc3) so11 r0_11 r1_11 r2_11 r3_11 (0 : Int32) (0 : Int32) ((((0 : Int32) + (cc0 * cc1)) + (cc0 * cc2)) + (cc0 * cc3)) (((((0 : Int32) + (cc0 * cc1)) + (cc0 * cc2)) + (cc0 * cc3)) + (cc1 * cc2)) ac11 cc0 cc1 cc2 cc3) = (((((((0 : Int32) + (cc0 * cc1)) + (cc0 * cc2)) + (cc0 * cc3)) + (cc1 * cc2)) + (((p3 &&& (2147483647 : Int32)) % cc1) * cc3)) + ((p4 &&& (2147483647 : Int32)) % cc3)) from (by unfold fX13; rfl)] at hQ49
      obtain ⟨rfl, N49q, e49⟩ := hQ49
      have N49 := Fr.app N47 N49q
      refine Gz.tr st49 ?_
      refine Gz.iload 204 X49 hx (dd at_202) rfl rfl ?_
      refine Gz.icmpNo 207 X49 hx (dd at_204) (teq ((by simp only [Int32.zero_add]) : (((((((0 : Int32) + (cc0 * cc1)) + (cc0 * cc2)) + (cc0 * cc3)) + (cc1 * cc2)) + (((p3 &&& (2147483647 : Int32)) % cc1) * cc3)) + ((p4 &&& (2147483647 : Int32)) % cc3)) = ((((((cc0 * cc1) + (cc0 * cc2)) + (cc0 * cc3)) + (cc1 * cc2)) + (((p3 &&& (2147483647 : Int32)) % cc1) * cc3)) + ((p4 &&& (2147483647 : Int32)) % cc3)))).2 rfl ?_
      refine Gz.iconst 208 (1 : Int32) X49 hx (dd at_207) rfl rfl ?_
      refine Gz.goto 212 X49 hx (dd at_208) (by decide) (by decide) ?_
      refine Gz.fin X49 (v := some (.int (1 : Int32))) (fun h => by rw [hret] at h; cases h) hlk (by decide) (by decide) (fun fs hr => retN X49 hx (t := .boolean) hret (by simp) (dd at_212) hr) ?_
      exact ⟨rfl, N49⟩
    · rw [hs35]
      refine Gz.iaddV 87 (4 : Int32) X11 hx (dd at_86) rfl rfl ?_
      refine Gz.iconst 88 (3 : Int32) X11 hx (dd at_87) rfl rfl ?_
      refine Gz.iandV 89 (0 : Int32) X11 hx (dd at_88) rfl rfl ?_
      refine Gz.istore 91 #[.val (.int p0), .val (.int p1), .val (.int p2), .val (.int p3), .val (.int p4), .val (.int cc0), .val (.int cc1), .val (.int cc2), .val (.int cc3), .val (.ref b1), .val (.ref b10), .val (.int (1 : Int32)), .val (.int (0 : Int32)), .unset, .unset, .unset, .unset, .unset, .unset, .unset] X11 hx (dd at_89) rfl rfl ?_
      refine Gz.iloadN 92 X11 hx (dd at_91) rfl rfl ?_
      refine Gz.ldcI 94 X11 hx (dd at_92) hown (mvT hZ (ww hw 37 rfl)) rfl ?_
      refine Gz.iand 95 X11 hx (dd at_94) rfl ?_
      refine Gz.aload 97 X11 hx (dd at_95) rfl rfl rfl ?_
      refine Gz.iload 99 X11 hx (dd at_97) rfl rfl ?_
      obtain ⟨c50, A50, q50, S50, N50, H50, G50⟩ := id f11_Vb1
      have hin50 : ¬ ((1 : Int32) < 0 ∨ c50.slots.size ≤ ((1 : Int32)).toNatClampNeg) := inb_of S50 ⟨by decide, by decide⟩
      refine Gz.ldI 100 X11 hx hZ (dd at_99) rfl A50 hin50 (Has.at H50 hin50 (rfl : _ = ((.int cc1) : Value))) rfl ?_
      refine Gz.irem 101 X11 hx (dd at_100) (own_nz h_cc1) rfl ?_
      refine Gz.istore 103 #[.val (.int p0), .val (.int p1), .val (.int p2), .val (.int p3), .val (.int p4), .val (.int cc0), .val (.int cc1), .val (.int cc2), .val (.int cc3), .val (.ref b1), .val (.ref b10), .val (.int (1 : Int32)), .val (.int (0 : Int32)), .val (.int ((p3 &&& (2147483647 : Int32)) % cc1)), .unset, .unset, .unset, .unset, .unset, .unset] X11 hx (dd at_101) rfl rfl ?_
      refine Gz.iload 105 X11 hx (dd at_103) rfl rfl ?_
      refine Gz.ldcI 107 X11 hx (dd at_105) hown (mvT hZ (ww hw 37 rfl)) rfl ?_
      refine Gz.iand 108 X11 hx (dd at_107) rfl ?_
      refine Gz.aload 110 X11 hx (dd at_108) rfl rfl rfl ?_
      refine Gz.iload 112 X11 hx (dd at_110) rfl rfl ?_
      obtain ⟨c51, A51, q51, S51, N51, H51, G51⟩ := id f11_Vb1
      have hin51 : ¬ ((0 : Int32) < 0 ∨ c51.slots.size ≤ ((0 : Int32)).toNatClampNeg) := inb_of S51 ⟨by decide, by decide⟩
      refine Gz.ldI 113 X11 hx hZ (dd at_112) rfl A51 hin51 (Has.at H51 hin51 (rfl : _ = ((.int cc0) : Value))) rfl ?_
      refine Gz.irem 114 X11 hx (dd at_113) (own_nz h_cc0) rfl ?_
      refine Gz.istore 116 #[.val (.int p0), .val (.int p1), .val (.int p2), .val (.int p3), .val (.int p4), .val (.int cc0), .val (.int cc1), .val (.int cc2), .val (.int cc3), .val (.ref b1), .val (.ref b10), .val (.int (1 : Int32)), .val (.int (0 : Int32)), .val (.int ((p3 &&& (2147483647 : Int32)) % cc1)), .val (.int ((p4 &&& (2147483647 : Int32)) % cc0)), .unset, .unset, .unset, .unset, .unset] X11 hx (dd at_114) rfl rfl ?_
      refine Gz.iload 118 X11 hx (dd at_116) rfl rfl ?_
      refine Gz.iload 120 X11 hx (dd at_118) rfl rfl ?_
      obtain ⟨_, _, ⟨T52, L52, k52, n52⟩, -, X52, ⟨Lc52, hQ52, l52, y52, z52⟩, st52⟩ := Jvm.LawKit.callS X11 hx (y := (⟨"java/lang/Math", "min", "(II)I"⟩ : MethodName)) hown (mvT hZ (ww hw 38 rfl)) (mvT hZ (ww hw 39 rfl)) (mvT hZ (ww hw 40 rfl)) (mvT hZ (ww hw 41 rfl)) (by decide) (backOf (W := 0) (rm4 l Z av0 hw [] (1 : Int32) (0 : Int32)  T11.heap n0 SZ11 ) hZ (ww hw 41 rfl) (ww hw 40 rfl) (by decide) (by decide)) (g := (mkF m 120 #[.val (.int p0), .val (.int p1), .val (.int p2), .val (.int p3), .val (.int p4), .val (.int cc0), .val (.int cc1), .val (.int cc2), .val (.int cc3), .val (.ref b1), .val (.ref b10), .val (.int (1 : Int32)), .val (.int (0 : Int32)), .val (.int ((p3 &&& (2147483647 : Int32)) % cc1)), .val (.int ((p4 &&& (2147483647 : Int32)) % cc0)), .unset, .unset, .unset, .unset, .unset] [(.int (0 : Int32)), (.int (1 : Int32))])) rfl (by rw [hml]; rfl) (argsL := [(.int (1 : Int32)), (.int (0 : Int32))]) (rest := []) (lenOf pd_2 rfl) rfl (by show 2 * 0 + _ ≤ _; exact Nat.le_of_eq rfl) (dd at_120) (fun _ _ => ⟨rfl, rfl, (by decide : 11 + 0 ≤ _), (by decide : 52 + 0 ≤ _)⟩)
      dsimp only [Pt.U, Pt.locs, Pt.cells, Pt.slots, Q_rm4] at X52 l52 y52 z52 st52 hQ52
      subst l52 y52 z52
      rw [show (fMin (1 : Int32) (0 : Int32)) = (0 : Int32) from (by unfold fMin; rw [if_pos (by decide : (0 : Int32) < (1 : Int32))]; try decide)] at hQ52
      obtain ⟨rfl, N52q, e52⟩ := hQ52
      have N52 := Fr.app N11 N52q
      refine Gz.st st52 ?_
      refine Gz.istore 125 #[.val (.int p0), .val (.int p1), .val (.int p2), .val (.int p3), .val (.int p4), .val (.int cc0), .val (.int cc1), .val (.int cc2), .val (.int cc3), .val (.ref b1), .val (.ref b10), .val (.int (1 : Int32)), .val (.int (0 : Int32)), .val (.int ((p3 &&& (2147483647 : Int32)) % cc1)), .val (.int ((p4 &&& (2147483647 : Int32)) % cc0)), .val (.int (0 : Int32)), .unset, .unset, .unset, .unset] X52 hx (dd at_123) rfl rfl ?_
      refine Gz.iload 127 X52 hx (dd at_125) rfl rfl ?_
      refine Gz.iload 129 X52 hx (dd at_127) rfl rfl ?_
      obtain ⟨_, _, ⟨T53, L53, k53, n53⟩, -, X53, ⟨Lc53, hQ53, l53, y53, z53⟩, st53⟩ := Jvm.LawKit.callS X52 hx (y := (⟨"java/lang/Math", "max", "(II)I"⟩ : MethodName)) hown (mvT hZ (ww hw 42 rfl)) (mvT hZ (ww hw 43 rfl)) (mvT hZ (ww hw 40 rfl)) (mvT hZ (ww hw 44 rfl)) (by decide) (backOf (W := 0) (rm5 l Z av0 hw [] (1 : Int32) (0 : Int32)  T11.heap n0 SZ11 ) hZ (ww hw 44 rfl) (ww hw 40 rfl) (by decide) (by decide)) (g := (mkF m 129 #[.val (.int p0), .val (.int p1), .val (.int p2), .val (.int p3), .val (.int p4), .val (.int cc0), .val (.int cc1), .val (.int cc2), .val (.int cc3), .val (.ref b1), .val (.ref b10), .val (.int (1 : Int32)), .val (.int (0 : Int32)), .val (.int ((p3 &&& (2147483647 : Int32)) % cc1)), .val (.int ((p4 &&& (2147483647 : Int32)) % cc0)), .val (.int (0 : Int32)), .unset, .unset, .unset, .unset] [(.int (0 : Int32)), (.int (1 : Int32))])) rfl (by rw [hml]; rfl) (argsL := [(.int (1 : Int32)), (.int (0 : Int32))]) (rest := []) (lenOf pd_2 rfl) rfl (by show 2 * 0 + _ ≤ _; exact Nat.le_of_eq rfl) (dd at_129) (fun _ _ => ⟨rfl, e52, (by decide : 11 + 0 ≤ _), (by decide : 52 + 0 ≤ _)⟩)
      dsimp only [Pt.U, Pt.locs, Pt.cells, Pt.slots, Q_rm5] at X53 l53 y53 z53 st53 hQ53
      subst l53 y53 z53
      rw [show (fMax (1 : Int32) (0 : Int32)) = (1 : Int32) from (by unfold fMax; rw [if_neg (by decide : ¬ ((1 : Int32) < (0 : Int32)))]; try decide)] at hQ53
      obtain ⟨rfl, N53q, e53⟩ := hQ53
      have N53 := Fr.app N52 N53q
      refine Gz.st st53 ?_
      refine Gz.istore 134 #[.val (.int p0), .val (.int p1), .val (.int p2), .val (.int p3), .val (.int p4), .val (.int cc0), .val (.int cc1), .val (.int cc2), .val (.int cc3), .val (.ref b1), .val (.ref b10), .val (.int (1 : Int32)), .val (.int (0 : Int32)), .val (.int ((p3 &&& (2147483647 : Int32)) % cc1)), .val (.int ((p4 &&& (2147483647 : Int32)) % cc0)), .val (.int (0 : Int32)), .val (.int (1 : Int32)), .unset, .unset, .unset] X53 hx (dd at_132) rfl rfl ?_
      refine Gz.iload 136 X53 hx (dd at_134) rfl rfl ?_
      refine Gz.iload 138 X53 hx (dd at_136) rfl rfl ?_
      refine Gz.icmpYes 152 X53 hx (dd at_138) (feq (by decide : ¬ ((0 : Int32) = (1 : Int32)))).2 (by decide) (by decide) ?_
      refine Gz.iload 154 X53 hx (dd at_152) rfl rfl ?_
      refine Gz.istore 156 #[.val (.int p0), .val (.int p1), .val (.int p2), .val (.int p3), .val (.int p4), .val (.int cc0), .val (.int cc1), .val (.int cc2), .val (.int cc3), .val (.ref b1), .val (.ref b10), .val (.int (1 : Int32)), .val (.int (0 : Int32)), .val (.int ((p3 &&& (2147483647 : Int32)) % cc1)), .val (.int ((p4 &&& (2147483647 : Int32)) % cc0)), .val (.int (0 : Int32)), .val (.int (1 : Int32)), .val (.int ((p4 &&& (2147483647 : Int32)) % cc0)), .unset, .unset] X53 hx (dd at_154) rfl rfl ?_
      refine Gz.iload 158 X53 hx (dd at_156) rfl rfl ?_
      refine Gz.istore 160 #[.val (.int p0), .val (.int p1), .val (.int p2), .val (.int p3), .val (.int p4), .val (.int cc0), .val (.int cc1), .val (.int cc2), .val (.int cc3), .val (.ref b1), .val (.ref b10), .val (.int (1 : Int32)), .val (.int (0 : Int32)), .val (.int ((p3 &&& (2147483647 : Int32)) % cc1)), .val (.int ((p4 &&& (2147483647 : Int32)) % cc0)), .val (.int (0 : Int32)), .val (.int (1 : Int32)), .val (.int ((p4 &&& (2147483647 : Int32)) % cc0)), .val (.int ((p3 &&& (2147483647 : Int32)) % cc1)), .unset] X53 hx (dd at_158) rfl rfl ?_
      refine Gz.iload 162 X53 hx (dd at_160) rfl rfl ?_
      refine Gz.iload 164 X53 hx (dd at_162) rfl rfl ?_
      refine Gz.iload 166 X53 hx (dd at_164) rfl rfl ?_
      refine Gz.iload 168 X53 hx (dd at_166) rfl rfl ?_
      refine Gz.iload 170 X53 hx (dd at_168) rfl rfl ?_
      refine Gz.iload 172 X53 hx (dd at_170) rfl rfl ?_
      obtain ⟨_, _, ⟨T54, L54, k54, n54⟩, -, X54, ⟨Lc54, hQ54, l54, y54, z54⟩, st54⟩ := Jvm.LawKit.callS X53 hx (y := (⟨"com/example/minsuite/minsuite/ValuePairsIndexPinLaw", "start", "(IIIIII)I"⟩ : MethodName)) hown (mvT hZ (ww hw 45 rfl)) (mvT hZ (ww hw 46 rfl)) (mvT hZ (ww hw 47 rfl)) (mvT hZ (ww hw 48 rfl)) (by decide) (backOf (W := 0) (rm6 l Z av0 hw [] (0 : Int32) (1 : Int32) cc0 cc1 cc2 cc3  T11.heap n0 SZ11 ) hZ (ww hw 48 rfl) (ww hw 47 rfl) (by decide) (by decide)) (g := (mkF m 172 #[.val (.int p0), .val (.int p1), .val (.int p2), .val (.int p3), .val (.int p4), .val (.int cc0), .val (.int cc1), .val (.int cc2), .val (.int cc3), .val (.ref b1), .val (.ref b10), .val (.int (1 : Int32)), .val (.int (0 : Int32)), .val (.int ((p3 &&& (2147483647 : Int32)) % cc1)), .val (.int ((p4 &&& (2147483647 : Int32)) % cc0)), .val (.int (0 : Int32)), .val (.int (1 : Int32)), .val (.int ((p4 &&& (2147483647 : Int32)) % cc0)), .val (.int ((p3 &&& (2147483647 : Int32)) % cc1)), .unset] [(.int cc3), (.int cc2), (.int cc1), (.int cc0), (.int (1 : Int32)), (.int (0 : Int32))])) rfl (by rw [hml]; rfl) (argsL := [(.int (0 : Int32)), (.int (1 : Int32)), (.int cc0), (.int cc1), (.int cc2), (.int cc3)]) (rest := []) (lenOf pd_3 rfl) rfl (by show 2 * 0 + _ ≤ _; exact Nat.le_of_eq rfl) (dd at_172) (fun _ _ => ⟨rfl, e53, (by decide : 11 + 0 ≤ _), (by decide : 52 + 0 ≤ _)⟩)
      dsimp only [Pt.U, Pt.locs, Pt.cells, Pt.slots, Q_rm6] at X54 l54 y54 z54 st54 hQ54
      subst l54 y54 z54
      rw [show (fSt (0 : Int32) (1 : Int32) cc0 cc1 cc2 cc3) = (0 : Int32) from (by unfold fSt; rw [if_pos (by decide : (0 : Int32) = (0 : Int32)), if_pos (by decide : (1 : Int32) = (1 : Int32))]; try decide)] at hQ54
      obtain ⟨rfl, N54q, e54⟩ := hQ54
      have N54 := Fr.app N53 N54q
      refine Gz.st st54 ?_
      refine Gz.iload 177 X54 hx (dd at_175) rfl rfl ?_
      refine Gz.aload 179 X54 hx (dd at_177) rfl rfl rfl ?_
      refine Gz.iload 181 X54 hx (dd at_179) rfl rfl ?_
      obtain ⟨c55, A55, q55, S55, N55, H55, G55⟩ := id f11_Vb1
      have hin55 : ¬ ((1 : Int32) < 0 ∨ c55.slots.size ≤ ((1 : Int32)).toNatClampNeg) := inb_of S55 ⟨by decide, by decide⟩
      refine Gz.ldI 182 X54 hx hZ (dd at_181) e54 A55 hin55 (Has.at H55 hin55 (rfl : _ = ((.int cc1) : Value))) rfl ?_
      refine Gz.imul 183 X54 hx (dd at_182) rfl ?_
      refine Gz.iadd 184 X54 hx (dd at_183) rfl ?_
      refine Gz.iload 186 X54 hx (dd at_184) rfl rfl ?_
      refine Gz.iadd 187 X54 hx (dd at_186) rfl ?_
      refine Gz.istore 189 #[.val (.int p0), .val (.int p1), .val (.int p2), .val (.int p3), .val (.int p4), .val (.int cc0), .val (.int cc1), .val (.int cc2), .val (.int cc3), .val (.ref b1), .val (.ref b10), .val (.int (1 : Int32)), .val (.int (0 : Int32)), .val (.int ((p3 &&& (2147483647 : Int32)) % cc1)), .val (.int ((p4 &&& (2147483647 : Int32)) % cc0)), .val (.int (0 : Int32)), .val (.int (1 : Int32)), .val (.int ((p4 &&& (2147483647 : Int32)) % cc0)), .val (.int ((p3 &&& (2147483647 : Int32)) % cc1)), .val (.int (((0 : Int32) + (((p4 &&& (2147483647 : Int32)) % cc0) * cc1)) + ((p3 &&& (2147483647 : Int32)) % cc1)))] X54 hx (dd at_187) rfl rfl ?_
      refine Gz.aload 191 X54 hx (dd at_189) rfl rfl rfl ?_
      refine Gz.iload 193 X54 hx (dd at_191) rfl rfl ?_
      refine Gz.iload 195 X54 hx (dd at_193) rfl rfl ?_
      refine Gz.iload 197 X54 hx (dd at_195) rfl rfl ?_
      refine Gz.iload 199 X54 hx (dd at_197) rfl rfl ?_
      obtain ⟨cq56, kq56, q56a, q56b, q56c⟩ := isOf hZ e54 QE11
      obtain ⟨_, _, ⟨T56, L56, k56, n56⟩, -, X56, ⟨Lc56, hQ56, l56, y56, z56⟩, st56⟩ := X54.virtualBack hx (y := (⟨"com/example/minsuite/minsuite/ValuePairs", "index", "(IIII)I"⟩ : MethodName)) (z := (⟨"com/example/minsuite/minsuite/ValuePairs", "index", "(IIII)I"⟩ : MethodName)) hown (mvT hZ (ww hw 49 rfl)) (mvT hZ (ww hw 50 rfl)) (notFace_of_selects (args := #[]) (mvT hZ (ww hw 52 rfl))) (mvT hZ (ww hw 52 rfl)) (mvT hZ (ww hw 51 rfl)) (by decide) (backOf (W := 0) (rmX10 l Z av0 hw [] b10 ((p3 &&& (2147483647 : Int32)) % cc1) ((p4 &&& (2147483647 : Int32)) % cc0) so11 ks11 r0_11 r1_11 r2_11 r3_11 kr11 (0 : Int32) (0 : Int32) ((0 : Int32) + (cc0 * cc1)) (((0 : Int32) + (cc0 * cc1)) + (cc0 * cc2)) ac11 kc11 cc0 cc1 cc2 cc3 T11.heap n0 SZ11 QG11 QS11 QR0_11 QF11 QA11) hZ (ww hw 53 rfl) (ww hw 3 rfl) (by decide) (by decide)) q56a q56c (g := (mkF m 199 #[.val (.int p0), .val (.int p1), .val (.int p2), .val (.int p3), .val (.int p4), .val (.int cc0), .val (.int cc1), .val (.int cc2), .val (.int cc3), .val (.ref b1), .val (.ref b10), .val (.int (1 : Int32)), .val (.int (0 : Int32)), .val (.int ((p3 &&& (2147483647 : Int32)) % cc1)), .val (.int ((p4 &&& (2147483647 : Int32)) % cc0)), .val (.int (0 : Int32)), .val (.int (1 : Int32)), .val (.int ((p4 &&& (2147483647 : Int32)) % cc0)), .val (.int ((p3 &&& (2147483647 : Int32)) % cc1)), .val (.int (((0 : Int32) + (((p4 &&& (2147483647 : Int32)) % cc0) * cc1)) + ((p3 &&& (2147483647 : Int32)) % cc1)))] [(.int ((p4 &&& (2147483647 : Int32)) % cc0)), (.int (0 : Int32)), (.int ((p3 &&& (2147483647 : Int32)) % cc1)), (.int (1 : Int32)), (.ref b10)])) rfl (by rw [hml]; rfl) (Steps.refl _) (argsL := [(.int (1 : Int32)), (.int ((p3 &&& (2147483647 : Int32)) % cc1)), (.int (0 : Int32)), (.int ((p4 &&& (2147483647 : Int32)) % cc0))]) (rest := []) (lenOf pd_4 rfl) rfl (by show 2 * 0 + _ ≤ _; exact Nat.le_of_eq rfl) (dd at_199) (fun _ _ => ⟨rfl, e54, (by decide : 11 + 0 ≤ _), (by decide : 52 + 0 ≤ _)⟩)
      dsimp only [Pt.U, Pt.locs, Pt.cells, Pt.slots, Q_rmX10] at X56 l56 y56 z56 st56 hQ56
      subst l56 y56 z56
      rw [show (fX10 b10 ((p3 &&& (2147483647 : Int32)) % cc1) ((p4 &&& (2147483647 : Int32)) % cc0) so11 r0_11 r1_11 r2_11 r3_11 (0 : Int32) (0 : Int32) ((0 : Int32) + (cc0 * cc1)) (((0 : Int32) + (cc0 * cc1)) + (cc0 * cc2)) ac11 cc0 cc1 cc2 cc3) = (((0 : Int32) + (((p4 &&& (2147483647 : Int32)) % cc0) * cc1)) + ((p3 &&& (2147483647 : Int32)) % cc1)) from (by unfold fX10; rfl)] at hQ56
      obtain ⟨rfl, N56q, e56⟩ := hQ56
      have N56 := Fr.app N54 N56q
      refine Gz.tr st56 ?_
      refine Gz.iload 204 X56 hx (dd at_202) rfl rfl ?_
      refine Gz.icmpNo 207 X56 hx (dd at_204) (teq (rfl : (((0 : Int32) + (((p4 &&& (2147483647 : Int32)) % cc0) * cc1)) + ((p3 &&& (2147483647 : Int32)) % cc1)) = (((0 : Int32) + (((p4 &&& (2147483647 : Int32)) % cc0) * cc1)) + ((p3 &&& (2147483647 : Int32)) % cc1)))).2 rfl ?_
      refine Gz.iconst 208 (1 : Int32) X56 hx (dd at_207) rfl rfl ?_
      refine Gz.goto 212 X56 hx (dd at_208) (by decide) (by decide) ?_
      refine Gz.fin X56 (v := some (.int (1 : Int32))) (fun h => by rw [hret] at h; cases h) hlk (by decide) (by decide) (fun fs hr => retN X56 hx (t := .boolean) hret (by simp) (dd at_212) hr) ?_
      exact ⟨rfl, N56⟩
  · rw [hs12]
    refine Gz.istore 76 #[.val (.int p0), .val (.int p1), .val (.int p2), .val (.int p3), .val (.int p4), .val (.int cc0), .val (.int cc1), .val (.int cc2), .val (.int cc3), .val (.ref b1), .val (.ref b10), .val (.int (2 : Int32)), .unset, .unset, .unset, .unset, .unset, .unset, .unset, .unset] X11 hx (dd at_74) rfl rfl ?_
    refine Gz.iload 78 X11 hx (dd at_76) rfl rfl ?_
    refine Gz.iconst 79 (1 : Int32) X11 hx (dd at_78) rfl rfl ?_
    refine Gz.iaddV 80 (3 : Int32) X11 hx (dd at_79) rfl rfl ?_
    refine Gz.iloadN 81 X11 hx (dd at_80) rfl rfl ?_
    refine Gz.ldcI 83 X11 hx (dd at_81) hown (mvT hZ (ww hw 37 rfl)) rfl ?_
    refine Gz.iand 84 X11 hx (dd at_83) rfl ?_
    refine Gz.iconst 85 (3 : Int32) X11 hx (dd at_84) rfl rfl ?_
    refine Gz.irem 86 X11 hx (dd at_85) (by decide) rfl ?_
    show Gz p e below s _ _ _ (T11.setTop (mkF m 86 #[.val (.int p0), .val (.int p1), .val (.int p2), .val (.int p3), .val (.int p4), .val (.int cc0), .val (.int cc1), .val (.int cc2), .val (.int cc3), .val (.ref b1), .val (.ref b10), .val (.int (2 : Int32)), .unset, .unset, .unset, .unset, .unset, .unset, .unset, .unset] [(.int ((p2 &&& (2147483647 : Int32)) % (3 : Int32))), (.int (3 : Int32))]))
    rcases own_three p2 with hs57 | hs57 | hs57
    · rw [hs57]
      refine Gz.iaddV 87 (3 : Int32) X11 hx (dd at_86) rfl rfl ?_
      refine Gz.iconst 88 (3 : Int32) X11 hx (dd at_87) rfl rfl ?_
      refine Gz.iandV 89 (3 : Int32) X11 hx (dd at_88) rfl rfl ?_
      refine Gz.istore 91 #[.val (.int p0), .val (.int p1), .val (.int p2), .val (.int p3), .val (.int p4), .val (.int cc0), .val (.int cc1), .val (.int cc2), .val (.int cc3), .val (.ref b1), .val (.ref b10), .val (.int (2 : Int32)), .val (.int (3 : Int32)), .unset, .unset, .unset, .unset, .unset, .unset, .unset] X11 hx (dd at_89) rfl rfl ?_
      refine Gz.iloadN 92 X11 hx (dd at_91) rfl rfl ?_
      refine Gz.ldcI 94 X11 hx (dd at_92) hown (mvT hZ (ww hw 37 rfl)) rfl ?_
      refine Gz.iand 95 X11 hx (dd at_94) rfl ?_
      refine Gz.aload 97 X11 hx (dd at_95) rfl rfl rfl ?_
      refine Gz.iload 99 X11 hx (dd at_97) rfl rfl ?_
      obtain ⟨c58, A58, q58, S58, N58, H58, G58⟩ := id f11_Vb1
      have hin58 : ¬ ((2 : Int32) < 0 ∨ c58.slots.size ≤ ((2 : Int32)).toNatClampNeg) := inb_of S58 ⟨by decide, by decide⟩
      refine Gz.ldI 100 X11 hx hZ (dd at_99) rfl A58 hin58 (Has.at H58 hin58 (rfl : _ = ((.int cc2) : Value))) rfl ?_
      refine Gz.irem 101 X11 hx (dd at_100) (own_nz h_cc2) rfl ?_
      refine Gz.istore 103 #[.val (.int p0), .val (.int p1), .val (.int p2), .val (.int p3), .val (.int p4), .val (.int cc0), .val (.int cc1), .val (.int cc2), .val (.int cc3), .val (.ref b1), .val (.ref b10), .val (.int (2 : Int32)), .val (.int (3 : Int32)), .val (.int ((p3 &&& (2147483647 : Int32)) % cc2)), .unset, .unset, .unset, .unset, .unset, .unset] X11 hx (dd at_101) rfl rfl ?_
      refine Gz.iload 105 X11 hx (dd at_103) rfl rfl ?_
      refine Gz.ldcI 107 X11 hx (dd at_105) hown (mvT hZ (ww hw 37 rfl)) rfl ?_
      refine Gz.iand 108 X11 hx (dd at_107) rfl ?_
      refine Gz.aload 110 X11 hx (dd at_108) rfl rfl rfl ?_
      refine Gz.iload 112 X11 hx (dd at_110) rfl rfl ?_
      obtain ⟨c59, A59, q59, S59, N59, H59, G59⟩ := id f11_Vb1
      have hin59 : ¬ ((3 : Int32) < 0 ∨ c59.slots.size ≤ ((3 : Int32)).toNatClampNeg) := inb_of S59 ⟨by decide, by decide⟩
      refine Gz.ldI 113 X11 hx hZ (dd at_112) rfl A59 hin59 (Has.at H59 hin59 (rfl : _ = ((.int cc3) : Value))) rfl ?_
      refine Gz.irem 114 X11 hx (dd at_113) (own_nz h_cc3) rfl ?_
      refine Gz.istore 116 #[.val (.int p0), .val (.int p1), .val (.int p2), .val (.int p3), .val (.int p4), .val (.int cc0), .val (.int cc1), .val (.int cc2), .val (.int cc3), .val (.ref b1), .val (.ref b10), .val (.int (2 : Int32)), .val (.int (3 : Int32)), .val (.int ((p3 &&& (2147483647 : Int32)) % cc2)), .val (.int ((p4 &&& (2147483647 : Int32)) % cc3)), .unset, .unset, .unset, .unset, .unset] X11 hx (dd at_114) rfl rfl ?_
      refine Gz.iload 118 X11 hx (dd at_116) rfl rfl ?_
      refine Gz.iload 120 X11 hx (dd at_118) rfl rfl ?_
      obtain ⟨_, _, ⟨T60, L60, k60, n60⟩, -, X60, ⟨Lc60, hQ60, l60, y60, z60⟩, st60⟩ := Jvm.LawKit.callS X11 hx (y := (⟨"java/lang/Math", "min", "(II)I"⟩ : MethodName)) hown (mvT hZ (ww hw 38 rfl)) (mvT hZ (ww hw 39 rfl)) (mvT hZ (ww hw 40 rfl)) (mvT hZ (ww hw 41 rfl)) (by decide) (backOf (W := 0) (rm4 l Z av0 hw [] (2 : Int32) (3 : Int32)  T11.heap n0 SZ11 ) hZ (ww hw 41 rfl) (ww hw 40 rfl) (by decide) (by decide)) (g := (mkF m 120 #[.val (.int p0), .val (.int p1), .val (.int p2), .val (.int p3), .val (.int p4), .val (.int cc0), .val (.int cc1), .val (.int cc2), .val (.int cc3), .val (.ref b1), .val (.ref b10), .val (.int (2 : Int32)), .val (.int (3 : Int32)), .val (.int ((p3 &&& (2147483647 : Int32)) % cc2)), .val (.int ((p4 &&& (2147483647 : Int32)) % cc3)), .unset, .unset, .unset, .unset, .unset] [(.int (3 : Int32)), (.int (2 : Int32))])) rfl (by rw [hml]; rfl) (argsL := [(.int (2 : Int32)), (.int (3 : Int32))]) (rest := []) (lenOf pd_2 rfl) rfl (by show 2 * 0 + _ ≤ _; exact Nat.le_of_eq rfl) (dd at_120) (fun _ _ => ⟨rfl, rfl, (by decide : 11 + 0 ≤ _), (by decide : 52 + 0 ≤ _)⟩)
      dsimp only [Pt.U, Pt.locs, Pt.cells, Pt.slots, Q_rm4] at X60 l60 y60 z60 st60 hQ60
      subst l60 y60 z60
      rw [show (fMin (2 : Int32) (3 : Int32)) = (2 : Int32) from (by unfold fMin; rw [if_neg (by decide : ¬ ((3 : Int32) < (2 : Int32)))]; try decide)] at hQ60
      obtain ⟨rfl, N60q, e60⟩ := hQ60
      have N60 := Fr.app N11 N60q
      refine Gz.st st60 ?_
      refine Gz.istore 125 #[.val (.int p0), .val (.int p1), .val (.int p2), .val (.int p3), .val (.int p4), .val (.int cc0), .val (.int cc1), .val (.int cc2), .val (.int cc3), .val (.ref b1), .val (.ref b10), .val (.int (2 : Int32)), .val (.int (3 : Int32)), .val (.int ((p3 &&& (2147483647 : Int32)) % cc2)), .val (.int ((p4 &&& (2147483647 : Int32)) % cc3)), .val (.int (2 : Int32)), .unset, .unset, .unset, .unset] X60 hx (dd at_123) rfl rfl ?_
      refine Gz.iload 127 X60 hx (dd at_125) rfl rfl ?_
      refine Gz.iload 129 X60 hx (dd at_127) rfl rfl ?_
      obtain ⟨_, _, ⟨T61, L61, k61, n61⟩, -, X61, ⟨Lc61, hQ61, l61, y61, z61⟩, st61⟩ := Jvm.LawKit.callS X60 hx (y := (⟨"java/lang/Math", "max", "(II)I"⟩ : MethodName)) hown (mvT hZ (ww hw 42 rfl)) (mvT hZ (ww hw 43 rfl)) (mvT hZ (ww hw 40 rfl)) (mvT hZ (ww hw 44 rfl)) (by decide) (backOf (W := 0) (rm5 l Z av0 hw [] (2 : Int32) (3 : Int32)  T11.heap n0 SZ11 ) hZ (ww hw 44 rfl) (ww hw 40 rfl) (by decide) (by decide)) (g := (mkF m 129 #[.val (.int p0), .val (.int p1), .val (.int p2), .val (.int p3), .val (.int p4), .val (.int cc0), .val (.int cc1), .val (.int cc2), .val (.int cc3), .val (.ref b1), .val (.ref b10), .val (.int (2 : Int32)), .val (.int (3 : Int32)), .val (.int ((p3 &&& (2147483647 : Int32)) % cc2)), .val (.int ((p4 &&& (2147483647 : Int32)) % cc3)), .val (.int (2 : Int32)), .unset, .unset, .unset, .unset] [(.int (3 : Int32)), (.int (2 : Int32))])) rfl (by rw [hml]; rfl) (argsL := [(.int (2 : Int32)), (.int (3 : Int32))]) (rest := []) (lenOf pd_2 rfl) rfl (by show 2 * 0 + _ ≤ _; exact Nat.le_of_eq rfl) (dd at_129) (fun _ _ => ⟨rfl, e60, (by decide : 11 + 0 ≤ _), (by decide : 52 + 0 ≤ _)⟩)
      dsimp only [Pt.U, Pt.locs, Pt.cells, Pt.slots, Q_rm5] at X61 l61 y61 z61 st61 hQ61
      subst l61 y61 z61
      rw [show (fMax (2 : Int32) (3 : Int32)) = (3 : Int32) from (by unfold fMax; rw [if_pos (by decide : (2 : Int32) < (3 : Int32))]; try decide)] at hQ61
      obtain ⟨rfl, N61q, e61⟩ := hQ61
      have N61 := Fr.app N60 N61q
      refine Gz.st st61 ?_
      refine Gz.istore 134 #[.val (.int p0), .val (.int p1), .val (.int p2), .val (.int p3), .val (.int p4), .val (.int cc0), .val (.int cc1), .val (.int cc2), .val (.int cc3), .val (.ref b1), .val (.ref b10), .val (.int (2 : Int32)), .val (.int (3 : Int32)), .val (.int ((p3 &&& (2147483647 : Int32)) % cc2)), .val (.int ((p4 &&& (2147483647 : Int32)) % cc3)), .val (.int (2 : Int32)), .val (.int (3 : Int32)), .unset, .unset, .unset] X61 hx (dd at_132) rfl rfl ?_
      refine Gz.iload 136 X61 hx (dd at_134) rfl rfl ?_
      refine Gz.iload 138 X61 hx (dd at_136) rfl rfl ?_
      refine Gz.icmpNo 141 X61 hx (dd at_138) (teq (by decide : (2 : Int32) = (2 : Int32))).2 rfl ?_
      refine Gz.iload 143 X61 hx (dd at_141) rfl rfl ?_
      refine Gz.istore 145 #[.val (.int p0), .val (.int p1), .val (.int p2), .val (.int p3), .val (.int p4), .val (.int cc0), .val (.int cc1), .val (.int cc2), .val (.int cc3), .val (.ref b1), .val (.ref b10), .val (.int (2 : Int32)), .val (.int (3 : Int32)), .val (.int ((p3 &&& (2147483647 : Int32)) % cc2)), .val (.int ((p4 &&& (2147483647 : Int32)) % cc3)), .val (.int (2 : Int32)), .val (.int (3 : Int32)), .val (.int ((p3 &&& (2147483647 : Int32)) % cc2)), .unset, .unset] X61 hx (dd at_143) rfl rfl ?_
      refine Gz.iload 147 X61 hx (dd at_145) rfl rfl ?_
      refine Gz.istore 149 #[.val (.int p0), .val (.int p1), .val (.int p2), .val (.int p3), .val (.int p4), .val (.int cc0), .val (.int cc1), .val (.int cc2), .val (.int cc3), .val (.ref b1), .val (.ref b10), .val (.int (2 : Int32)), .val (.int (3 : Int32)), .val (.int ((p3 &&& (2147483647 : Int32)) % cc2)), .val (.int ((p4 &&& (2147483647 : Int32)) % cc3)), .val (.int (2 : Int32)), .val (.int (3 : Int32)), .val (.int ((p3 &&& (2147483647 : Int32)) % cc2)), .val (.int ((p4 &&& (2147483647 : Int32)) % cc3)), .unset] X61 hx (dd at_147) rfl rfl ?_
      refine Gz.goto 160 X61 hx (dd at_149) (by decide) (by decide) ?_
      refine Gz.iload 162 X61 hx (dd at_160) rfl rfl ?_
      refine Gz.iload 164 X61 hx (dd at_162) rfl rfl ?_
      refine Gz.iload 166 X61 hx (dd at_164) rfl rfl ?_
      refine Gz.iload 168 X61 hx (dd at_166) rfl rfl ?_
      refine Gz.iload 170 X61 hx (dd at_168) rfl rfl ?_
      refine Gz.iload 172 X61 hx (dd at_170) rfl rfl ?_
      obtain ⟨_, _, ⟨T62, L62, k62, n62⟩, -, X62, ⟨Lc62, hQ62, l62, y62, z62⟩, st62⟩ := Jvm.LawKit.callS X61 hx (y := (⟨"com/example/minsuite/minsuite/ValuePairsIndexPinLaw", "start", "(IIIIII)I"⟩ : MethodName)) hown (mvT hZ (ww hw 45 rfl)) (mvT hZ (ww hw 46 rfl)) (mvT hZ (ww hw 47 rfl)) (mvT hZ (ww hw 48 rfl)) (by decide) (backOf (W := 0) (rm6 l Z av0 hw [] (2 : Int32) (3 : Int32) cc0 cc1 cc2 cc3  T11.heap n0 SZ11 ) hZ (ww hw 48 rfl) (ww hw 47 rfl) (by decide) (by decide)) (g := (mkF m 172 #[.val (.int p0), .val (.int p1), .val (.int p2), .val (.int p3), .val (.int p4), .val (.int cc0), .val (.int cc1), .val (.int cc2), .val (.int cc3), .val (.ref b1), .val (.ref b10), .val (.int (2 : Int32)), .val (.int (3 : Int32)), .val (.int ((p3 &&& (2147483647 : Int32)) % cc2)), .val (.int ((p4 &&& (2147483647 : Int32)) % cc3)), .val (.int (2 : Int32)), .val (.int (3 : Int32)), .val (.int ((p3 &&& (2147483647 : Int32)) % cc2)), .val (.int ((p4 &&& (2147483647 : Int32)) % cc3)), .unset] [(.int cc3), (.int cc2), (.int cc1), (.int cc0), (.int (3 : Int32)), (.int (2 : Int32))])) rfl (by rw [hml]; rfl) (argsL := [(.int (2 : Int32)), (.int (3 : Int32)), (.int cc0), (.int cc1), (.int cc2), (.int cc3)]) (rest := []) (lenOf pd_3 rfl) rfl (by show 2 * 0 + _ ≤ _; exact Nat.le_of_eq rfl) (dd at_172) (fun _ _ => ⟨rfl, e61, (by decide : 11 + 0 ≤ _), (by decide : 52 + 0 ≤ _)⟩)
      dsimp only [Pt.U, Pt.locs, Pt.cells, Pt.slots, Q_rm6] at X62 l62 y62 z62 st62 hQ62
      subst l62 y62 z62
      rw [show (fSt (2 : Int32) (3 : Int32) cc0 cc1 cc2 cc3) = (((((cc0 * cc1) + (cc0 * cc2)) + (cc0 * cc3)) + (cc1 * cc2)) + (cc1 * cc3)) from (by unfold fSt; rw [if_neg (by decide : ¬ ((2 : Int32) = (0 : Int32))), if_neg (by decide : ¬ ((2 : Int32) = (1 : Int32)))]; try decide)] at hQ62
      obtain ⟨rfl, N62q, e62⟩ := hQ62
      have N62 := Fr.app N61 N62q
      refine Gz.st st62 ?_
      refine Gz.iload 177 X62 hx (dd at_175) rfl rfl ?_
      refine Gz.aload 179 X62 hx (dd at_177) rfl rfl rfl ?_
      refine Gz.iload 181 X62 hx (dd at_179) rfl rfl ?_
      obtain ⟨c63, A63, q63, S63, N63, H63, G63⟩ := id f11_Vb1
      have hin63 : ¬ ((3 : Int32) < 0 ∨ c63.slots.size ≤ ((3 : Int32)).toNatClampNeg) := inb_of S63 ⟨by decide, by decide⟩
      refine Gz.ldI 182 X62 hx hZ (dd at_181) e62 A63 hin63 (Has.at H63 hin63 (rfl : _ = ((.int cc3) : Value))) rfl ?_
      refine Gz.imul 183 X62 hx (dd at_182) rfl ?_
      refine Gz.iadd 184 X62 hx (dd at_183) rfl ?_
      refine Gz.iload 186 X62 hx (dd at_184) rfl rfl ?_
      refine Gz.iadd 187 X62 hx (dd at_186) rfl ?_
      refine Gz.istore 189 #[.val (.int p0), .val (.int p1), .val (.int p2), .val (.int p3), .val (.int p4), .val (.int cc0), .val (.int cc1), .val (.int cc2), .val (.int cc3), .val (.ref b1), .val (.ref b10), .val (.int (2 : Int32)), .val (.int (3 : Int32)), .val (.int ((p3 &&& (2147483647 : Int32)) % cc2)), .val (.int ((p4 &&& (2147483647 : Int32)) % cc3)), .val (.int (2 : Int32)), .val (.int (3 : Int32)), .val (.int ((p3 &&& (2147483647 : Int32)) % cc2)), .val (.int ((p4 &&& (2147483647 : Int32)) % cc3)), .val (.int (((((((cc0 * cc1) + (cc0 * cc2)) + (cc0 * cc3)) + (cc1 * cc2)) + (cc1 * cc3)) + (((p3 &&& (2147483647 : Int32)) % cc2) * cc3)) + ((p4 &&& (2147483647 : Int32)) % cc3)))] X62 hx (dd at_187) rfl rfl ?_
      refine Gz.aload 191 X62 hx (dd at_189) rfl rfl rfl ?_
      refine Gz.iload 193 X62 hx (dd at_191) rfl rfl ?_
      refine Gz.iload 195 X62 hx (dd at_193) rfl rfl ?_
      refine Gz.iload 197 X62 hx (dd at_195) rfl rfl ?_
      refine Gz.iload 199 X62 hx (dd at_197) rfl rfl ?_
      obtain ⟨cq64, kq64, q64a, q64b, q64c⟩ := isOf hZ e62 QE11
      obtain ⟨_, _, ⟨T64, L64, k64, n64⟩, -, X64, ⟨Lc64, hQ64, l64, y64, z64⟩, st64⟩ := X62.virtualBack hx (y := (⟨"com/example/minsuite/minsuite/ValuePairs", "index", "(IIII)I"⟩ : MethodName)) (z := (⟨"com/example/minsuite/minsuite/ValuePairs", "index", "(IIII)I"⟩ : MethodName)) hown (mvT hZ (ww hw 49 rfl)) (mvT hZ (ww hw 50 rfl)) (notFace_of_selects (args := #[]) (mvT hZ (ww hw 52 rfl))) (mvT hZ (ww hw 52 rfl)) (mvT hZ (ww hw 51 rfl)) (by decide) (backOf (W := 0) (rmX23 l Z av0 hw [] b10 ((p3 &&& (2147483647 : Int32)) % cc2) ((p4 &&& (2147483647 : Int32)) % cc3) so11 ks11 r0_11 r1_11 r2_11 r3_11 kr11 (0 : Int32) (0 : Int32) (0 : Int32) ((((((0 : Int32) + (cc0 * cc1)) + (cc0 * cc2)) + (cc0 * cc3)) + (cc1 * cc2)) + (cc1 * cc3)) ac11 kc11 cc0 cc1 cc2 cc3 T11.heap n0 SZ11 QG11 QS11 QR2_11 QF11 QA11) hZ (ww hw 53 rfl) (ww hw 3 rfl) (by decide) (by decide)) q64a q64c (g := (mkF m 199 #[.val (.int p0), .val (.int p1), .val (.int p2), .val (.int p3), .val (.int p4), .val (.int cc0), .val (.int cc1), .val (.int cc2), .val (.int cc3), .val (.ref b1), .val (.ref b10), .val (.int (2 : Int32)), .val (.int (3 : Int32)), .val (.int ((p3 &&& (2147483647 : Int32)) % cc2)), .val (.int ((p4 &&& (2147483647 : Int32)) % cc3)), .val (.int (2 : Int32)), .val (.int (3 : Int32)), .val (.int ((p3 &&& (2147483647 : Int32)) % cc2)), .val (.int ((p4 &&& (2147483647 : Int32)) % cc3)), .val (.int (((((((cc0 * cc1) + (cc0 * cc2)) + (cc0 * cc3)) + (cc1 * cc2)) + (cc1 * cc3)) + (((p3 &&& (2147483647 : Int32)) % cc2) * cc3)) + ((p4 &&& (2147483647 : Int32)) % cc3)))] [(.int ((p4 &&& (2147483647 : Int32)) % cc3)), (.int (3 : Int32)), (.int ((p3 &&& (2147483647 : Int32)) % cc2)), (.int (2 : Int32)), (.ref b10)])) rfl (by rw [hml]; rfl) (Steps.refl _) (argsL := [(.int (2 : Int32)), (.int ((p3 &&& (2147483647 : Int32)) % cc2)), (.int (3 : Int32)), (.int ((p4 &&& (2147483647 : Int32)) % cc3))]) (rest := []) (lenOf pd_4 rfl) rfl (by show 2 * 0 + _ ≤ _; exact Nat.le_of_eq rfl) (dd at_199) (fun _ _ => ⟨rfl, e62, (by decide : 11 + 0 ≤ _), (by decide : 52 + 0 ≤ _)⟩)
      dsimp only [Pt.U, Pt.locs, Pt.cells, Pt.slots, Q_rmX23] at X64 l64 y64 z64 st64 hQ64
      subst l64 y64 z64
      rw [show (fX23 b10 ((p3 &&& (2147483647 : Int32)) % cc2) ((p4 &&& (2147483647 : Int32)) % cc3) so11 r0_11 r1_11 r2_11 r3_11 (0 : Int32) (0 : Int32) (0 : Int32) ((((((0 : Int32) + (cc0 * cc1)) + (cc0 * cc2)) + (cc0 * cc3)) + (cc1 * cc2)) + (cc1 * cc3)) ac11 cc0 cc1 cc2 cc3) = ((((((((0 : Int32) + (cc0 * cc1)) + (cc0 * cc2)) + (cc0 * cc3)) + (cc1 * cc2)) + (cc1 * cc3)) + (((p3 &&& (2147483647 : Int32)) % cc2) * cc3)) + ((p4 &&& (2147483647 : Int32)) % cc3)) from (by unfold fX23; rfl)] at hQ64
      obtain ⟨rfl, N64q, e64⟩ := hQ64
      have N64 := Fr.app N62 N64q
      refine Gz.tr st64 ?_
      refine Gz.iload 204 X64 hx (dd at_202) rfl rfl ?_
      refine Gz.icmpNo 207 X64 hx (dd at_204) (teq ((by simp only [Int32.zero_add]) : ((((((((0 : Int32) + (cc0 * cc1)) + (cc0 * cc2)) + (cc0 * cc3)) + (cc1 * cc2)) + (cc1 * cc3)) + (((p3 &&& (2147483647 : Int32)) % cc2) * cc3)) + ((p4 &&& (2147483647 : Int32)) % cc3)) = (((((((cc0 * cc1) + (cc0 * cc2)) + (cc0 * cc3)) + (cc1 * cc2)) + (cc1 * cc3)) + (((p3 &&& (2147483647 : Int32)) % cc2) * cc3)) + ((p4 &&& (2147483647 : Int32)) % cc3)))).2 rfl ?_
      refine Gz.iconst 208 (1 : Int32) X64 hx (dd at_207) rfl rfl ?_
      refine Gz.goto 212 X64 hx (dd at_208) (by decide) (by decide) ?_
      refine Gz.fin X64 (v := some (.int (1 : Int32))) (fun h => by rw [hret] at h; cases h) hlk (by decide) (by decide) (fun fs hr => retN X64 hx (t := .boolean) hret (by simp) (dd at_212) hr) ?_
      exact ⟨rfl, N64⟩
    · rw [hs57]
      refine Gz.iaddV 87 (4 : Int32) X11 hx (dd at_86) rfl rfl ?_
      refine Gz.iconst 88 (3 : Int32) X11 hx (dd at_87) rfl rfl ?_
      refine Gz.iandV 89 (0 : Int32) X11 hx (dd at_88) rfl rfl ?_
      refine Gz.istore 91 #[.val (.int p0), .val (.int p1), .val (.int p2), .val (.int p3), .val (.int p4), .val (.int cc0), .val (.int cc1), .val (.int cc2), .val (.int cc3), .val (.ref b1), .val (.ref b10), .val (.int (2 : Int32)), .val (.int (0 : Int32)), .unset, .unset, .unset, .unset, .unset, .unset, .unset] X11 hx (dd at_89) rfl rfl ?_
      refine Gz.iloadN 92 X11 hx (dd at_91) rfl rfl ?_
      refine Gz.ldcI 94 X11 hx (dd at_92) hown (mvT hZ (ww hw 37 rfl)) rfl ?_
      refine Gz.iand 95 X11 hx (dd at_94) rfl ?_
      refine Gz.aload 97 X11 hx (dd at_95) rfl rfl rfl ?_
      refine Gz.iload 99 X11 hx (dd at_97) rfl rfl ?_
      obtain ⟨c65, A65, q65, S65, N65, H65, G65⟩ := id f11_Vb1
      have hin65 : ¬ ((2 : Int32) < 0 ∨ c65.slots.size ≤ ((2 : Int32)).toNatClampNeg) := inb_of S65 ⟨by decide, by decide⟩
      refine Gz.ldI 100 X11 hx hZ (dd at_99) rfl A65 hin65 (Has.at H65 hin65 (rfl : _ = ((.int cc2) : Value))) rfl ?_
      refine Gz.irem 101 X11 hx (dd at_100) (own_nz h_cc2) rfl ?_
      refine Gz.istore 103 #[.val (.int p0), .val (.int p1), .val (.int p2), .val (.int p3), .val (.int p4), .val (.int cc0), .val (.int cc1), .val (.int cc2), .val (.int cc3), .val (.ref b1), .val (.ref b10), .val (.int (2 : Int32)), .val (.int (0 : Int32)), .val (.int ((p3 &&& (2147483647 : Int32)) % cc2)), .unset, .unset, .unset, .unset, .unset, .unset] X11 hx (dd at_101) rfl rfl ?_
      refine Gz.iload 105 X11 hx (dd at_103) rfl rfl ?_
      refine Gz.ldcI 107 X11 hx (dd at_105) hown (mvT hZ (ww hw 37 rfl)) rfl ?_
      refine Gz.iand 108 X11 hx (dd at_107) rfl ?_
      refine Gz.aload 110 X11 hx (dd at_108) rfl rfl rfl ?_
      refine Gz.iload 112 X11 hx (dd at_110) rfl rfl ?_
      obtain ⟨c66, A66, q66, S66, N66, H66, G66⟩ := id f11_Vb1
      have hin66 : ¬ ((0 : Int32) < 0 ∨ c66.slots.size ≤ ((0 : Int32)).toNatClampNeg) := inb_of S66 ⟨by decide, by decide⟩
      refine Gz.ldI 113 X11 hx hZ (dd at_112) rfl A66 hin66 (Has.at H66 hin66 (rfl : _ = ((.int cc0) : Value))) rfl ?_
      refine Gz.irem 114 X11 hx (dd at_113) (own_nz h_cc0) rfl ?_
      refine Gz.istore 116 #[.val (.int p0), .val (.int p1), .val (.int p2), .val (.int p3), .val (.int p4), .val (.int cc0), .val (.int cc1), .val (.int cc2), .val (.int cc3), .val (.ref b1), .val (.ref b10), .val (.int (2 : Int32)), .val (.int (0 : Int32)), .val (.int ((p3 &&& (2147483647 : Int32)) % cc2)), .val (.int ((p4 &&& (2147483647 : Int32)) % cc0)), .unset, .unset, .unset, .unset, .unset] X11 hx (dd at_114) rfl rfl ?_
      refine Gz.iload 118 X11 hx (dd at_116) rfl rfl ?_
      refine Gz.iload 120 X11 hx (dd at_118) rfl rfl ?_
      obtain ⟨_, _, ⟨T67, L67, k67, n67⟩, -, X67, ⟨Lc67, hQ67, l67, y67, z67⟩, st67⟩ := Jvm.LawKit.callS X11 hx (y := (⟨"java/lang/Math", "min", "(II)I"⟩ : MethodName)) hown (mvT hZ (ww hw 38 rfl)) (mvT hZ (ww hw 39 rfl)) (mvT hZ (ww hw 40 rfl)) (mvT hZ (ww hw 41 rfl)) (by decide) (backOf (W := 0) (rm4 l Z av0 hw [] (2 : Int32) (0 : Int32)  T11.heap n0 SZ11 ) hZ (ww hw 41 rfl) (ww hw 40 rfl) (by decide) (by decide)) (g := (mkF m 120 #[.val (.int p0), .val (.int p1), .val (.int p2), .val (.int p3), .val (.int p4), .val (.int cc0), .val (.int cc1), .val (.int cc2), .val (.int cc3), .val (.ref b1), .val (.ref b10), .val (.int (2 : Int32)), .val (.int (0 : Int32)), .val (.int ((p3 &&& (2147483647 : Int32)) % cc2)), .val (.int ((p4 &&& (2147483647 : Int32)) % cc0)), .unset, .unset, .unset, .unset, .unset] [(.int (0 : Int32)), (.int (2 : Int32))])) rfl (by rw [hml]; rfl) (argsL := [(.int (2 : Int32)), (.int (0 : Int32))]) (rest := []) (lenOf pd_2 rfl) rfl (by show 2 * 0 + _ ≤ _; exact Nat.le_of_eq rfl) (dd at_120) (fun _ _ => ⟨rfl, rfl, (by decide : 11 + 0 ≤ _), (by decide : 52 + 0 ≤ _)⟩)
      dsimp only [Pt.U, Pt.locs, Pt.cells, Pt.slots, Q_rm4] at X67 l67 y67 z67 st67 hQ67
      subst l67 y67 z67
      rw [show (fMin (2 : Int32) (0 : Int32)) = (0 : Int32) from (by unfold fMin; rw [if_pos (by decide : (0 : Int32) < (2 : Int32))]; try decide)] at hQ67
      obtain ⟨rfl, N67q, e67⟩ := hQ67
      have N67 := Fr.app N11 N67q
      refine Gz.st st67 ?_
      refine Gz.istore 125 #[.val (.int p0), .val (.int p1), .val (.int p2), .val (.int p3), .val (.int p4), .val (.int cc0), .val (.int cc1), .val (.int cc2), .val (.int cc3), .val (.ref b1), .val (.ref b10), .val (.int (2 : Int32)), .val (.int (0 : Int32)), .val (.int ((p3 &&& (2147483647 : Int32)) % cc2)), .val (.int ((p4 &&& (2147483647 : Int32)) % cc0)), .val (.int (0 : Int32)), .unset, .unset, .unset, .unset] X67 hx (dd at_123) rfl rfl ?_
      refine Gz.iload 127 X67 hx (dd at_125) rfl rfl ?_
      refine Gz.iload 129 X67 hx (dd at_127) rfl rfl ?_
      obtain ⟨_, _, ⟨T68, L68, k68, n68⟩, -, X68, ⟨Lc68, hQ68, l68, y68, z68⟩, st68⟩ := Jvm.LawKit.callS X67 hx (y := (⟨"java/lang/Math", "max", "(II)I"⟩ : MethodName)) hown (mvT hZ (ww hw 42 rfl)) (mvT hZ (ww hw 43 rfl)) (mvT hZ (ww hw 40 rfl)) (mvT hZ (ww hw 44 rfl)) (by decide) (backOf (W := 0) (rm5 l Z av0 hw [] (2 : Int32) (0 : Int32)  T11.heap n0 SZ11 ) hZ (ww hw 44 rfl) (ww hw 40 rfl) (by decide) (by decide)) (g := (mkF m 129 #[.val (.int p0), .val (.int p1), .val (.int p2), .val (.int p3), .val (.int p4), .val (.int cc0), .val (.int cc1), .val (.int cc2), .val (.int cc3), .val (.ref b1), .val (.ref b10), .val (.int (2 : Int32)), .val (.int (0 : Int32)), .val (.int ((p3 &&& (2147483647 : Int32)) % cc2)), .val (.int ((p4 &&& (2147483647 : Int32)) % cc0)), .val (.int (0 : Int32)), .unset, .unset, .unset, .unset] [(.int (0 : Int32)), (.int (2 : Int32))])) rfl (by rw [hml]; rfl) (argsL := [(.int (2 : Int32)), (.int (0 : Int32))]) (rest := []) (lenOf pd_2 rfl) rfl (by show 2 * 0 + _ ≤ _; exact Nat.le_of_eq rfl) (dd at_129) (fun _ _ => ⟨rfl, e67, (by decide : 11 + 0 ≤ _), (by decide : 52 + 0 ≤ _)⟩)
      dsimp only [Pt.U, Pt.locs, Pt.cells, Pt.slots, Q_rm5] at X68 l68 y68 z68 st68 hQ68
      subst l68 y68 z68
      rw [show (fMax (2 : Int32) (0 : Int32)) = (2 : Int32) from (by unfold fMax; rw [if_neg (by decide : ¬ ((2 : Int32) < (0 : Int32)))]; try decide)] at hQ68
      obtain ⟨rfl, N68q, e68⟩ := hQ68
      have N68 := Fr.app N67 N68q
      refine Gz.st st68 ?_
      refine Gz.istore 134 #[.val (.int p0), .val (.int p1), .val (.int p2), .val (.int p3), .val (.int p4), .val (.int cc0), .val (.int cc1), .val (.int cc2), .val (.int cc3), .val (.ref b1), .val (.ref b10), .val (.int (2 : Int32)), .val (.int (0 : Int32)), .val (.int ((p3 &&& (2147483647 : Int32)) % cc2)), .val (.int ((p4 &&& (2147483647 : Int32)) % cc0)), .val (.int (0 : Int32)), .val (.int (2 : Int32)), .unset, .unset, .unset] X68 hx (dd at_132) rfl rfl ?_
      refine Gz.iload 136 X68 hx (dd at_134) rfl rfl ?_
      refine Gz.iload 138 X68 hx (dd at_136) rfl rfl ?_
      refine Gz.icmpYes 152 X68 hx (dd at_138) (feq (by decide : ¬ ((0 : Int32) = (2 : Int32)))).2 (by decide) (by decide) ?_
      refine Gz.iload 154 X68 hx (dd at_152) rfl rfl ?_
      refine Gz.istore 156 #[.val (.int p0), .val (.int p1), .val (.int p2), .val (.int p3), .val (.int p4), .val (.int cc0), .val (.int cc1), .val (.int cc2), .val (.int cc3), .val (.ref b1), .val (.ref b10), .val (.int (2 : Int32)), .val (.int (0 : Int32)), .val (.int ((p3 &&& (2147483647 : Int32)) % cc2)), .val (.int ((p4 &&& (2147483647 : Int32)) % cc0)), .val (.int (0 : Int32)), .val (.int (2 : Int32)), .val (.int ((p4 &&& (2147483647 : Int32)) % cc0)), .unset, .unset] X68 hx (dd at_154) rfl rfl ?_
      refine Gz.iload 158 X68 hx (dd at_156) rfl rfl ?_
      refine Gz.istore 160 #[.val (.int p0), .val (.int p1), .val (.int p2), .val (.int p3), .val (.int p4), .val (.int cc0), .val (.int cc1), .val (.int cc2), .val (.int cc3), .val (.ref b1), .val (.ref b10), .val (.int (2 : Int32)), .val (.int (0 : Int32)), .val (.int ((p3 &&& (2147483647 : Int32)) % cc2)), .val (.int ((p4 &&& (2147483647 : Int32)) % cc0)), .val (.int (0 : Int32)), .val (.int (2 : Int32)), .val (.int ((p4 &&& (2147483647 : Int32)) % cc0)), .val (.int ((p3 &&& (2147483647 : Int32)) % cc2)), .unset] X68 hx (dd at_158) rfl rfl ?_
      refine Gz.iload 162 X68 hx (dd at_160) rfl rfl ?_
      refine Gz.iload 164 X68 hx (dd at_162) rfl rfl ?_
      refine Gz.iload 166 X68 hx (dd at_164) rfl rfl ?_
      refine Gz.iload 168 X68 hx (dd at_166) rfl rfl ?_
      refine Gz.iload 170 X68 hx (dd at_168) rfl rfl ?_
      refine Gz.iload 172 X68 hx (dd at_170) rfl rfl ?_
      obtain ⟨_, _, ⟨T69, L69, k69, n69⟩, -, X69, ⟨Lc69, hQ69, l69, y69, z69⟩, st69⟩ := Jvm.LawKit.callS X68 hx (y := (⟨"com/example/minsuite/minsuite/ValuePairsIndexPinLaw", "start", "(IIIIII)I"⟩ : MethodName)) hown (mvT hZ (ww hw 45 rfl)) (mvT hZ (ww hw 46 rfl)) (mvT hZ (ww hw 47 rfl)) (mvT hZ (ww hw 48 rfl)) (by decide) (backOf (W := 0) (rm6 l Z av0 hw [] (0 : Int32) (2 : Int32) cc0 cc1 cc2 cc3  T11.heap n0 SZ11 ) hZ (ww hw 48 rfl) (ww hw 47 rfl) (by decide) (by decide)) (g := (mkF m 172 #[.val (.int p0), .val (.int p1), .val (.int p2), .val (.int p3), .val (.int p4), .val (.int cc0), .val (.int cc1), .val (.int cc2), .val (.int cc3), .val (.ref b1), .val (.ref b10), .val (.int (2 : Int32)), .val (.int (0 : Int32)), .val (.int ((p3 &&& (2147483647 : Int32)) % cc2)), .val (.int ((p4 &&& (2147483647 : Int32)) % cc0)), .val (.int (0 : Int32)), .val (.int (2 : Int32)), .val (.int ((p4 &&& (2147483647 : Int32)) % cc0)), .val (.int ((p3 &&& (2147483647 : Int32)) % cc2)), .unset] [(.int cc3), (.int cc2), (.int cc1), (.int cc0), (.int (2 : Int32)), (.int (0 : Int32))])) rfl (by rw [hml]; rfl) (argsL := [(.int (0 : Int32)), (.int (2 : Int32)), (.int cc0), (.int cc1), (.int cc2), (.int cc3)]) (rest := []) (lenOf pd_3 rfl) rfl (by show 2 * 0 + _ ≤ _; exact Nat.le_of_eq rfl) (dd at_172) (fun _ _ => ⟨rfl, e68, (by decide : 11 + 0 ≤ _), (by decide : 52 + 0 ≤ _)⟩)
      dsimp only [Pt.U, Pt.locs, Pt.cells, Pt.slots, Q_rm6] at X69 l69 y69 z69 st69 hQ69
      subst l69 y69 z69
      rw [show (fSt (0 : Int32) (2 : Int32) cc0 cc1 cc2 cc3) = (cc0 * cc1) from (by unfold fSt; rw [if_pos (by decide : (0 : Int32) = (0 : Int32)), if_neg (by decide : ¬ ((2 : Int32) = (1 : Int32))), if_pos (by decide : (2 : Int32) = (2 : Int32))]; try decide)] at hQ69
      obtain ⟨rfl, N69q, e69⟩ := hQ69
      have N69 := Fr.app N68 N69q
      refine Gz.st st69 ?_
      refine Gz.iload 177 X69 hx (dd at_175) rfl rfl ?_
      refine Gz.aload 179 X69 hx (dd at_177) rfl rfl rfl ?_
      refine Gz.iload 181 X69 hx (dd at_179) rfl rfl ?_
      obtain ⟨c70, A70, q70, S70, N70, H70, G70⟩ := id f11_Vb1
      have hin70 : ¬ ((2 : Int32) < 0 ∨ c70.slots.size ≤ ((2 : Int32)).toNatClampNeg) := inb_of S70 ⟨by decide, by decide⟩
      refine Gz.ldI 182 X69 hx hZ (dd at_181) e69 A70 hin70 (Has.at H70 hin70 (rfl : _ = ((.int cc2) : Value))) rfl ?_
      refine Gz.imul 183 X69 hx (dd at_182) rfl ?_
      refine Gz.iadd 184 X69 hx (dd at_183) rfl ?_
      refine Gz.iload 186 X69 hx (dd at_184) rfl rfl ?_
      refine Gz.iadd 187 X69 hx (dd at_186) rfl ?_
      refine Gz.istore 189 #[.val (.int p0), .val (.int p1), .val (.int p2), .val (.int p3), .val (.int p4), .val (.int cc0), .val (.int cc1), .val (.int cc2), .val (.int cc3), .val (.ref b1), .val (.ref b10), .val (.int (2 : Int32)), .val (.int (0 : Int32)), .val (.int ((p3 &&& (2147483647 : Int32)) % cc2)), .val (.int ((p4 &&& (2147483647 : Int32)) % cc0)), .val (.int (0 : Int32)), .val (.int (2 : Int32)), .val (.int ((p4 &&& (2147483647 : Int32)) % cc0)), .val (.int ((p3 &&& (2147483647 : Int32)) % cc2)), .val (.int (((cc0 * cc1) + (((p4 &&& (2147483647 : Int32)) % cc0) * cc2)) + ((p3 &&& (2147483647 : Int32)) % cc2)))] X69 hx (dd at_187) rfl rfl ?_
      refine Gz.aload 191 X69 hx (dd at_189) rfl rfl rfl ?_
      refine Gz.iload 193 X69 hx (dd at_191) rfl rfl ?_
      refine Gz.iload 195 X69 hx (dd at_193) rfl rfl ?_
      refine Gz.iload 197 X69 hx (dd at_195) rfl rfl ?_
      refine Gz.iload 199 X69 hx (dd at_197) rfl rfl ?_
      obtain ⟨cq71, kq71, q71a, q71b, q71c⟩ := isOf hZ e69 QE11
      obtain ⟨_, _, ⟨T71, L71, k71, n71⟩, -, X71, ⟨Lc71, hQ71, l71, y71, z71⟩, st71⟩ := X69.virtualBack hx (y := (⟨"com/example/minsuite/minsuite/ValuePairs", "index", "(IIII)I"⟩ : MethodName)) (z := (⟨"com/example/minsuite/minsuite/ValuePairs", "index", "(IIII)I"⟩ : MethodName)) hown (mvT hZ (ww hw 49 rfl)) (mvT hZ (ww hw 50 rfl)) (notFace_of_selects (args := #[]) (mvT hZ (ww hw 52 rfl))) (mvT hZ (ww hw 52 rfl)) (mvT hZ (ww hw 51 rfl)) (by decide) (backOf (W := 0) (rmX20 l Z av0 hw [] b10 ((p3 &&& (2147483647 : Int32)) % cc2) ((p4 &&& (2147483647 : Int32)) % cc0) so11 ks11 r0_11 r1_11 r2_11 r3_11 kr11 (0 : Int32) (0 : Int32) ((0 : Int32) + (cc0 * cc1)) (((0 : Int32) + (cc0 * cc1)) + (cc0 * cc2)) ac11 kc11 cc0 cc1 cc2 cc3 T11.heap n0 SZ11 QG11 QS11 QR0_11 QF11 QA11) hZ (ww hw 53 rfl) (ww hw 3 rfl) (by decide) (by decide)) q71a q71c (g := (mkF m 199 #[.val (.int p0), .val (.int p1), .val (.int p2), .val (.int p3), .val (.int p4), .val (.int cc0), .val (.int cc1), .val (.int cc2), .val (.int cc3), .val (.ref b1), .val (.ref b10), .val (.int (2 : Int32)), .val (.int (0 : Int32)), .val (.int ((p3 &&& (2147483647 : Int32)) % cc2)), .val (.int ((p4 &&& (2147483647 : Int32)) % cc0)), .val (.int (0 : Int32)), .val (.int (2 : Int32)), .val (.int ((p4 &&& (2147483647 : Int32)) % cc0)), .val (.int ((p3 &&& (2147483647 : Int32)) % cc2)), .val (.int (((cc0 * cc1) + (((p4 &&& (2147483647 : Int32)) % cc0) * cc2)) + ((p3 &&& (2147483647 : Int32)) % cc2)))] [(.int ((p4 &&& (2147483647 : Int32)) % cc0)), (.int (0 : Int32)), (.int ((p3 &&& (2147483647 : Int32)) % cc2)), (.int (2 : Int32)), (.ref b10)])) rfl (by rw [hml]; rfl) (Steps.refl _) (argsL := [(.int (2 : Int32)), (.int ((p3 &&& (2147483647 : Int32)) % cc2)), (.int (0 : Int32)), (.int ((p4 &&& (2147483647 : Int32)) % cc0))]) (rest := []) (lenOf pd_4 rfl) rfl (by show 2 * 0 + _ ≤ _; exact Nat.le_of_eq rfl) (dd at_199) (fun _ _ => ⟨rfl, e69, (by decide : 11 + 0 ≤ _), (by decide : 52 + 0 ≤ _)⟩)
      dsimp only [Pt.U, Pt.locs, Pt.cells, Pt.slots, Q_rmX20] at X71 l71 y71 z71 st71 hQ71
      subst l71 y71 z71
      rw [show (fX20 b10 ((p3 &&& (2147483647 : Int32)) % cc2) ((p4 &&& (2147483647 : Int32)) % cc0) so11 r0_11 r1_11 r2_11 r3_11 (0 : Int32) (0 : Int32) ((0 : Int32) + (cc0 * cc1)) (((0 : Int32) + (cc0 * cc1)) + (cc0 * cc2)) ac11 cc0 cc1 cc2 cc3) = ((((0 : Int32) + (cc0 * cc1)) + (((p4 &&& (2147483647 : Int32)) % cc0) * cc2)) + ((p3 &&& (2147483647 : Int32)) % cc2)) from (by unfold fX20; rfl)] at hQ71
      obtain ⟨rfl, N71q, e71⟩ := hQ71
      have N71 := Fr.app N69 N71q
      refine Gz.tr st71 ?_
      refine Gz.iload 204 X71 hx (dd at_202) rfl rfl ?_
      refine Gz.icmpNo 207 X71 hx (dd at_204) (teq ((by simp only [Int32.zero_add]) : ((((0 : Int32) + (cc0 * cc1)) + (((p4 &&& (2147483647 : Int32)) % cc0) * cc2)) + ((p3 &&& (2147483647 : Int32)) % cc2)) = (((cc0 * cc1) + (((p4 &&& (2147483647 : Int32)) % cc0) * cc2)) + ((p3 &&& (2147483647 : Int32)) % cc2)))).2 rfl ?_
      refine Gz.iconst 208 (1 : Int32) X71 hx (dd at_207) rfl rfl ?_
      refine Gz.goto 212 X71 hx (dd at_208) (by decide) (by decide) ?_
      refine Gz.fin X71 (v := some (.int (1 : Int32))) (fun h => by rw [hret] at h; cases h) hlk (by decide) (by decide) (fun fs hr => retN X71 hx (t := .boolean) hret (by simp) (dd at_212) hr) ?_
      exact ⟨rfl, N71⟩
    · rw [hs57]
      refine Gz.iaddV 87 (5 : Int32) X11 hx (dd at_86) rfl rfl ?_
      refine Gz.iconst 88 (3 : Int32) X11 hx (dd at_87) rfl rfl ?_
      refine Gz.iandV 89 (1 : Int32) X11 hx (dd at_88) rfl rfl ?_
      refine Gz.istore 91 #[.val (.int p0), .val (.int p1), .val (.int p2), .val (.int p3), .val (.int p4), .val (.int cc0), .val (.int cc1), .val (.int cc2), .val (.int cc3), .val (.ref b1), .val (.ref b10), .val (.int (2 : Int32)), .val (.int (1 : Int32)), .unset, .unset, .unset, .unset, .unset, .unset, .unset] X11 hx (dd at_89) rfl rfl ?_
      refine Gz.iloadN 92 X11 hx (dd at_91) rfl rfl ?_
      refine Gz.ldcI 94 X11 hx (dd at_92) hown (mvT hZ (ww hw 37 rfl)) rfl ?_
      refine Gz.iand 95 X11 hx (dd at_94) rfl ?_
      refine Gz.aload 97 X11 hx (dd at_95) rfl rfl rfl ?_
      refine Gz.iload 99 X11 hx (dd at_97) rfl rfl ?_
      obtain ⟨c72, A72, q72, S72, N72, H72, G72⟩ := id f11_Vb1
      have hin72 : ¬ ((2 : Int32) < 0 ∨ c72.slots.size ≤ ((2 : Int32)).toNatClampNeg) := inb_of S72 ⟨by decide, by decide⟩
      refine Gz.ldI 100 X11 hx hZ (dd at_99) rfl A72 hin72 (Has.at H72 hin72 (rfl : _ = ((.int cc2) : Value))) rfl ?_
      refine Gz.irem 101 X11 hx (dd at_100) (own_nz h_cc2) rfl ?_
      refine Gz.istore 103 #[.val (.int p0), .val (.int p1), .val (.int p2), .val (.int p3), .val (.int p4), .val (.int cc0), .val (.int cc1), .val (.int cc2), .val (.int cc3), .val (.ref b1), .val (.ref b10), .val (.int (2 : Int32)), .val (.int (1 : Int32)), .val (.int ((p3 &&& (2147483647 : Int32)) % cc2)), .unset, .unset, .unset, .unset, .unset, .unset] X11 hx (dd at_101) rfl rfl ?_
      refine Gz.iload 105 X11 hx (dd at_103) rfl rfl ?_
      refine Gz.ldcI 107 X11 hx (dd at_105) hown (mvT hZ (ww hw 37 rfl)) rfl ?_
      refine Gz.iand 108 X11 hx (dd at_107) rfl ?_
      refine Gz.aload 110 X11 hx (dd at_108) rfl rfl rfl ?_
      refine Gz.iload 112 X11 hx (dd at_110) rfl rfl ?_
      obtain ⟨c73, A73, q73, S73, N73, H73, G73⟩ := id f11_Vb1
      have hin73 : ¬ ((1 : Int32) < 0 ∨ c73.slots.size ≤ ((1 : Int32)).toNatClampNeg) := inb_of S73 ⟨by decide, by decide⟩
      refine Gz.ldI 113 X11 hx hZ (dd at_112) rfl A73 hin73 (Has.at H73 hin73 (rfl : _ = ((.int cc1) : Value))) rfl ?_
      refine Gz.irem 114 X11 hx (dd at_113) (own_nz h_cc1) rfl ?_
      refine Gz.istore 116 #[.val (.int p0), .val (.int p1), .val (.int p2), .val (.int p3), .val (.int p4), .val (.int cc0), .val (.int cc1), .val (.int cc2), .val (.int cc3), .val (.ref b1), .val (.ref b10), .val (.int (2 : Int32)), .val (.int (1 : Int32)), .val (.int ((p3 &&& (2147483647 : Int32)) % cc2)), .val (.int ((p4 &&& (2147483647 : Int32)) % cc1)), .unset, .unset, .unset, .unset, .unset] X11 hx (dd at_114) rfl rfl ?_
      refine Gz.iload 118 X11 hx (dd at_116) rfl rfl ?_
      refine Gz.iload 120 X11 hx (dd at_118) rfl rfl ?_
      obtain ⟨_, _, ⟨T74, L74, k74, n74⟩, -, X74, ⟨Lc74, hQ74, l74, y74, z74⟩, st74⟩ := Jvm.LawKit.callS X11 hx (y := (⟨"java/lang/Math", "min", "(II)I"⟩ : MethodName)) hown (mvT hZ (ww hw 38 rfl)) (mvT hZ (ww hw 39 rfl)) (mvT hZ (ww hw 40 rfl)) (mvT hZ (ww hw 41 rfl)) (by decide) (backOf (W := 0) (rm4 l Z av0 hw [] (2 : Int32) (1 : Int32)  T11.heap n0 SZ11 ) hZ (ww hw 41 rfl) (ww hw 40 rfl) (by decide) (by decide)) (g := (mkF m 120 #[.val (.int p0), .val (.int p1), .val (.int p2), .val (.int p3), .val (.int p4), .val (.int cc0), .val (.int cc1), .val (.int cc2), .val (.int cc3), .val (.ref b1), .val (.ref b10), .val (.int (2 : Int32)), .val (.int (1 : Int32)), .val (.int ((p3 &&& (2147483647 : Int32)) % cc2)), .val (.int ((p4 &&& (2147483647 : Int32)) % cc1)), .unset, .unset, .unset, .unset, .unset] [(.int (1 : Int32)), (.int (2 : Int32))])) rfl (by rw [hml]; rfl) (argsL := [(.int (2 : Int32)), (.int (1 : Int32))]) (rest := []) (lenOf pd_2 rfl) rfl (by show 2 * 0 + _ ≤ _; exact Nat.le_of_eq rfl) (dd at_120) (fun _ _ => ⟨rfl, rfl, (by decide : 11 + 0 ≤ _), (by decide : 52 + 0 ≤ _)⟩)
      dsimp only [Pt.U, Pt.locs, Pt.cells, Pt.slots, Q_rm4] at X74 l74 y74 z74 st74 hQ74
      subst l74 y74 z74
      rw [show (fMin (2 : Int32) (1 : Int32)) = (1 : Int32) from (by unfold fMin; rw [if_pos (by decide : (1 : Int32) < (2 : Int32))]; try decide)] at hQ74
      obtain ⟨rfl, N74q, e74⟩ := hQ74
      have N74 := Fr.app N11 N74q
      refine Gz.st st74 ?_
      refine Gz.istore 125 #[.val (.int p0), .val (.int p1), .val (.int p2), .val (.int p3), .val (.int p4), .val (.int cc0), .val (.int cc1), .val (.int cc2), .val (.int cc3), .val (.ref b1), .val (.ref b10), .val (.int (2 : Int32)), .val (.int (1 : Int32)), .val (.int ((p3 &&& (2147483647 : Int32)) % cc2)), .val (.int ((p4 &&& (2147483647 : Int32)) % cc1)), .val (.int (1 : Int32)), .unset, .unset, .unset, .unset] X74 hx (dd at_123) rfl rfl ?_
      refine Gz.iload 127 X74 hx (dd at_125) rfl rfl ?_
      refine Gz.iload 129 X74 hx (dd at_127) rfl rfl ?_
      obtain ⟨_, _, ⟨T75, L75, k75, n75⟩, -, X75, ⟨Lc75, hQ75, l75, y75, z75⟩, st75⟩ := Jvm.LawKit.callS X74 hx (y := (⟨"java/lang/Math", "max", "(II)I"⟩ : MethodName)) hown (mvT hZ (ww hw 42 rfl)) (mvT hZ (ww hw 43 rfl)) (mvT hZ (ww hw 40 rfl)) (mvT hZ (ww hw 44 rfl)) (by decide) (backOf (W := 0) (rm5 l Z av0 hw [] (2 : Int32) (1 : Int32)  T11.heap n0 SZ11 ) hZ (ww hw 44 rfl) (ww hw 40 rfl) (by decide) (by decide)) (g := (mkF m 129 #[.val (.int p0), .val (.int p1), .val (.int p2), .val (.int p3), .val (.int p4), .val (.int cc0), .val (.int cc1), .val (.int cc2), .val (.int cc3), .val (.ref b1), .val (.ref b10), .val (.int (2 : Int32)), .val (.int (1 : Int32)), .val (.int ((p3 &&& (2147483647 : Int32)) % cc2)), .val (.int ((p4 &&& (2147483647 : Int32)) % cc1)), .val (.int (1 : Int32)), .unset, .unset, .unset, .unset] [(.int (1 : Int32)), (.int (2 : Int32))])) rfl (by rw [hml]; rfl) (argsL := [(.int (2 : Int32)), (.int (1 : Int32))]) (rest := []) (lenOf pd_2 rfl) rfl (by show 2 * 0 + _ ≤ _; exact Nat.le_of_eq rfl) (dd at_129) (fun _ _ => ⟨rfl, e74, (by decide : 11 + 0 ≤ _), (by decide : 52 + 0 ≤ _)⟩)
      dsimp only [Pt.U, Pt.locs, Pt.cells, Pt.slots, Q_rm5] at X75 l75 y75 z75 st75 hQ75
      subst l75 y75 z75
      rw [show (fMax (2 : Int32) (1 : Int32)) = (2 : Int32) from (by unfold fMax; rw [if_neg (by decide : ¬ ((2 : Int32) < (1 : Int32)))]; try decide)] at hQ75
      obtain ⟨rfl, N75q, e75⟩ := hQ75
      have N75 := Fr.app N74 N75q
      refine Gz.st st75 ?_
      refine Gz.istore 134 #[.val (.int p0), .val (.int p1), .val (.int p2), .val (.int p3), .val (.int p4), .val (.int cc0), .val (.int cc1), .val (.int cc2), .val (.int cc3), .val (.ref b1), .val (.ref b10), .val (.int (2 : Int32)), .val (.int (1 : Int32)), .val (.int ((p3 &&& (2147483647 : Int32)) % cc2)), .val (.int ((p4 &&& (2147483647 : Int32)) % cc1)), .val (.int (1 : Int32)), .val (.int (2 : Int32)), .unset, .unset, .unset] X75 hx (dd at_132) rfl rfl ?_
      refine Gz.iload 136 X75 hx (dd at_134) rfl rfl ?_
      refine Gz.iload 138 X75 hx (dd at_136) rfl rfl ?_
      refine Gz.icmpYes 152 X75 hx (dd at_138) (feq (by decide : ¬ ((1 : Int32) = (2 : Int32)))).2 (by decide) (by decide) ?_
      refine Gz.iload 154 X75 hx (dd at_152) rfl rfl ?_
      refine Gz.istore 156 #[.val (.int p0), .val (.int p1), .val (.int p2), .val (.int p3), .val (.int p4), .val (.int cc0), .val (.int cc1), .val (.int cc2), .val (.int cc3), .val (.ref b1), .val (.ref b10), .val (.int (2 : Int32)), .val (.int (1 : Int32)), .val (.int ((p3 &&& (2147483647 : Int32)) % cc2)), .val (.int ((p4 &&& (2147483647 : Int32)) % cc1)), .val (.int (1 : Int32)), .val (.int (2 : Int32)), .val (.int ((p4 &&& (2147483647 : Int32)) % cc1)), .unset, .unset] X75 hx (dd at_154) rfl rfl ?_
      refine Gz.iload 158 X75 hx (dd at_156) rfl rfl ?_
      refine Gz.istore 160 #[.val (.int p0), .val (.int p1), .val (.int p2), .val (.int p3), .val (.int p4), .val (.int cc0), .val (.int cc1), .val (.int cc2), .val (.int cc3), .val (.ref b1), .val (.ref b10), .val (.int (2 : Int32)), .val (.int (1 : Int32)), .val (.int ((p3 &&& (2147483647 : Int32)) % cc2)), .val (.int ((p4 &&& (2147483647 : Int32)) % cc1)), .val (.int (1 : Int32)), .val (.int (2 : Int32)), .val (.int ((p4 &&& (2147483647 : Int32)) % cc1)), .val (.int ((p3 &&& (2147483647 : Int32)) % cc2)), .unset] X75 hx (dd at_158) rfl rfl ?_
      refine Gz.iload 162 X75 hx (dd at_160) rfl rfl ?_
      refine Gz.iload 164 X75 hx (dd at_162) rfl rfl ?_
      refine Gz.iload 166 X75 hx (dd at_164) rfl rfl ?_
      refine Gz.iload 168 X75 hx (dd at_166) rfl rfl ?_
      refine Gz.iload 170 X75 hx (dd at_168) rfl rfl ?_
      refine Gz.iload 172 X75 hx (dd at_170) rfl rfl ?_
      obtain ⟨_, _, ⟨T76, L76, k76, n76⟩, -, X76, ⟨Lc76, hQ76, l76, y76, z76⟩, st76⟩ := Jvm.LawKit.callS X75 hx (y := (⟨"com/example/minsuite/minsuite/ValuePairsIndexPinLaw", "start", "(IIIIII)I"⟩ : MethodName)) hown (mvT hZ (ww hw 45 rfl)) (mvT hZ (ww hw 46 rfl)) (mvT hZ (ww hw 47 rfl)) (mvT hZ (ww hw 48 rfl)) (by decide) (backOf (W := 0) (rm6 l Z av0 hw [] (1 : Int32) (2 : Int32) cc0 cc1 cc2 cc3  T11.heap n0 SZ11 ) hZ (ww hw 48 rfl) (ww hw 47 rfl) (by decide) (by decide)) (g := (mkF m 172 #[.val (.int p0), .val (.int p1), .val (.int p2), .val (.int p3), .val (.int p4), .val (.int cc0), .val (.int cc1), .val (.int cc2), .val (.int cc3), .val (.ref b1), .val (.ref b10), .val (.int (2 : Int32)), .val (.int (1 : Int32)), .val (.int ((p3 &&& (2147483647 : Int32)) % cc2)), .val (.int ((p4 &&& (2147483647 : Int32)) % cc1)), .val (.int (1 : Int32)), .val (.int (2 : Int32)), .val (.int ((p4 &&& (2147483647 : Int32)) % cc1)), .val (.int ((p3 &&& (2147483647 : Int32)) % cc2)), .unset] [(.int cc3), (.int cc2), (.int cc1), (.int cc0), (.int (2 : Int32)), (.int (1 : Int32))])) rfl (by rw [hml]; rfl) (argsL := [(.int (1 : Int32)), (.int (2 : Int32)), (.int cc0), (.int cc1), (.int cc2), (.int cc3)]) (rest := []) (lenOf pd_3 rfl) rfl (by show 2 * 0 + _ ≤ _; exact Nat.le_of_eq rfl) (dd at_172) (fun _ _ => ⟨rfl, e75, (by decide : 11 + 0 ≤ _), (by decide : 52 + 0 ≤ _)⟩)
      dsimp only [Pt.U, Pt.locs, Pt.cells, Pt.slots, Q_rm6] at X76 l76 y76 z76 st76 hQ76
      subst l76 y76 z76
      rw [show (fSt (1 : Int32) (2 : Int32) cc0 cc1 cc2 cc3) = (((cc0 * cc1) + (cc0 * cc2)) + (cc0 * cc3)) from (by unfold fSt; rw [if_neg (by decide : ¬ ((1 : Int32) = (0 : Int32))), if_pos (by decide : (1 : Int32) = (1 : Int32)), if_pos (by decide : (2 : Int32) = (2 : Int32))]; try decide)] at hQ76
      obtain ⟨rfl, N76q, e76⟩ := hQ76
      have N76 := Fr.app N75 N76q
      refine Gz.st st76 ?_
      refine Gz.iload 177 X76 hx (dd at_175) rfl rfl ?_
      refine Gz.aload 179 X76 hx (dd at_177) rfl rfl rfl ?_
      refine Gz.iload 181 X76 hx (dd at_179) rfl rfl ?_
      obtain ⟨c77, A77, q77, S77, N77, H77, G77⟩ := id f11_Vb1
      have hin77 : ¬ ((2 : Int32) < 0 ∨ c77.slots.size ≤ ((2 : Int32)).toNatClampNeg) := inb_of S77 ⟨by decide, by decide⟩
      refine Gz.ldI 182 X76 hx hZ (dd at_181) e76 A77 hin77 (Has.at H77 hin77 (rfl : _ = ((.int cc2) : Value))) rfl ?_
      refine Gz.imul 183 X76 hx (dd at_182) rfl ?_
      refine Gz.iadd 184 X76 hx (dd at_183) rfl ?_
      refine Gz.iload 186 X76 hx (dd at_184) rfl rfl ?_
      refine Gz.iadd 187 X76 hx (dd at_186) rfl ?_
      refine Gz.istore 189 #[.val (.int p0), .val (.int p1), .val (.int p2), .val (.int p3), .val (.int p4), .val (.int cc0), .val (.int cc1), .val (.int cc2), .val (.int cc3), .val (.ref b1), .val (.ref b10), .val (.int (2 : Int32)), .val (.int (1 : Int32)), .val (.int ((p3 &&& (2147483647 : Int32)) % cc2)), .val (.int ((p4 &&& (2147483647 : Int32)) % cc1)), .val (.int (1 : Int32)), .val (.int (2 : Int32)), .val (.int ((p4 &&& (2147483647 : Int32)) % cc1)), .val (.int ((p3 &&& (2147483647 : Int32)) % cc2)), .val (.int (((((cc0 * cc1) + (cc0 * cc2)) + (cc0 * cc3)) + (((p4 &&& (2147483647 : Int32)) % cc1) * cc2)) + ((p3 &&& (2147483647 : Int32)) % cc2)))] X76 hx (dd at_187) rfl rfl ?_
      refine Gz.aload 191 X76 hx (dd at_189) rfl rfl rfl ?_
      refine Gz.iload 193 X76 hx (dd at_191) rfl rfl ?_
      refine Gz.iload 195 X76 hx (dd at_193) rfl rfl ?_
      refine Gz.iload 197 X76 hx (dd at_195) rfl rfl ?_
      refine Gz.iload 199 X76 hx (dd at_197) rfl rfl ?_
      obtain ⟨cq78, kq78, q78a, q78b, q78c⟩ := isOf hZ e76 QE11
      obtain ⟨_, _, ⟨T78, L78, k78, n78⟩, -, X78, ⟨Lc78, hQ78, l78, y78, z78⟩, st78⟩ := X76.virtualBack hx (y := (⟨"com/example/minsuite/minsuite/ValuePairs", "index", "(IIII)I"⟩ : MethodName)) (z := (⟨"com/example/minsuite/minsuite/ValuePairs", "index", "(IIII)I"⟩ : MethodName)) hown (mvT hZ (ww hw 49 rfl)) (mvT hZ (ww hw 50 rfl)) (notFace_of_selects (args := #[]) (mvT hZ (ww hw 52 rfl))) (mvT hZ (ww hw 52 rfl)) (mvT hZ (ww hw 51 rfl)) (by decide) (backOf (W := 0) (rmX21 l Z av0 hw [] b10 ((p3 &&& (2147483647 : Int32)) % cc2) ((p4 &&& (2147483647 : Int32)) % cc1) so11 ks11 r0_11 r1_11 r2_11 r3_11 kr11 (0 : Int32) (0 : Int32) ((((0 : Int32) + (cc0 * cc1)) + (cc0 * cc2)) + (cc0 * cc3)) (((((0 : Int32) + (cc0 * cc1)) + (cc0 * cc2)) + (cc0 * cc3)) + (cc1 * cc2)) ac11 kc11 cc0 cc1 cc2 cc3 T11.heap n0 SZ11 QG11 QS11 QR1_11 QF11 QA11) hZ (ww hw 53 rfl) (ww hw 3 rfl) (by decide) (by decide)) q78a q78c (g := (mkF m 199 #[.val (.int p0), .val (.int p1), .val (.int p2), .val (.int p3), .val (.int p4), .val (.int cc0), .val (.int cc1), .val (.int cc2), .val (.int cc3), .val (.ref b1), .val (.ref b10), .val (.int (2 : Int32)), .val (.int (1 : Int32)), .val (.int ((p3 &&& (2147483647 : Int32)) % cc2)), .val (.int ((p4 &&& (2147483647 : Int32)) % cc1)), .val (.int (1 : Int32)), .val (.int (2 : Int32)), .val (.int ((p4 &&& (2147483647 : Int32)) % cc1)), .val (.int ((p3 &&& (2147483647 : Int32)) % cc2)), .val (.int (((((cc0 * cc1) + (cc0 * cc2)) + (cc0 * cc3)) + (((p4 &&& (2147483647 : Int32)) % cc1) * cc2)) + ((p3 &&& (2147483647 : Int32)) % cc2)))] [(.int ((p4 &&& (2147483647 : Int32)) % cc1)), (.int (1 : Int32)), (.int ((p3 &&& (2147483647 : Int32)) % cc2)), (.int (2 : Int32)), (.ref b10)])) rfl (by rw [hml]; rfl) (Steps.refl _) (argsL := [(.int (2 : Int32)), (.int ((p3 &&& (2147483647 : Int32)) % cc2)), (.int (1 : Int32)), (.int ((p4 &&& (2147483647 : Int32)) % cc1))]) (rest := []) (lenOf pd_4 rfl) rfl (by show 2 * 0 + _ ≤ _; exact Nat.le_of_eq rfl) (dd at_199) (fun _ _ => ⟨rfl, e76, (by decide : 11 + 0 ≤ _), (by decide : 52 + 0 ≤ _)⟩)
      dsimp only [Pt.U, Pt.locs, Pt.cells, Pt.slots, Q_rmX21] at X78 l78 y78 z78 st78 hQ78
      subst l78 y78 z78
      rw [show (fX21 b10 ((p3 &&& (2147483647 : Int32)) % cc2) ((p4 &&& (2147483647 : Int32)) % cc1) so11 r0_11 r1_11 r2_11 r3_11 (0 : Int32) (0 : Int32) ((((0 : Int32) + (cc0 * cc1)) + (cc0 * cc2)) + (cc0 * cc3)) (((((0 : Int32) + (cc0 * cc1)) + (cc0 * cc2)) + (cc0 * cc3)) + (cc1 * cc2)) ac11 cc0 cc1 cc2 cc3) = ((((((0 : Int32) + (cc0 * cc1)) + (cc0 * cc2)) + (cc0 * cc3)) + (((p4 &&& (2147483647 : Int32)) % cc1) * cc2)) + ((p3 &&& (2147483647 : Int32)) % cc2)) from (by unfold fX21; rfl)] at hQ78
      obtain ⟨rfl, N78q, e78⟩ := hQ78
      have N78 := Fr.app N76 N78q
      refine Gz.tr st78 ?_
      refine Gz.iload 204 X78 hx (dd at_202) rfl rfl ?_
      refine Gz.icmpNo 207 X78 hx (dd at_204) (teq ((by simp only [Int32.zero_add]) : ((((((0 : Int32) + (cc0 * cc1)) + (cc0 * cc2)) + (cc0 * cc3)) + (((p4 &&& (2147483647 : Int32)) % cc1) * cc2)) + ((p3 &&& (2147483647 : Int32)) % cc2)) = (((((cc0 * cc1) + (cc0 * cc2)) + (cc0 * cc3)) + (((p4 &&& (2147483647 : Int32)) % cc1) * cc2)) + ((p3 &&& (2147483647 : Int32)) % cc2)))).2 rfl ?_
      refine Gz.iconst 208 (1 : Int32) X78 hx (dd at_207) rfl rfl ?_
      refine Gz.goto 212 X78 hx (dd at_208) (by decide) (by decide) ?_
      refine Gz.fin X78 (v := some (.int (1 : Int32))) (fun h => by rw [hret] at h; cases h) hlk (by decide) (by decide) (fun fs hr => retN X78 hx (t := .boolean) hret (by simp) (dd at_212) hr) ?_
      exact ⟨rfl, N78⟩
  · rw [hs12]
    refine Gz.istore 76 #[.val (.int p0), .val (.int p1), .val (.int p2), .val (.int p3), .val (.int p4), .val (.int cc0), .val (.int cc1), .val (.int cc2), .val (.int cc3), .val (.ref b1), .val (.ref b10), .val (.int (3 : Int32)), .unset, .unset, .unset, .unset, .unset, .unset, .unset, .unset] X11 hx (dd at_74) rfl rfl ?_
    refine Gz.iload 78 X11 hx (dd at_76) rfl rfl ?_
    refine Gz.iconst 79 (1 : Int32) X11 hx (dd at_78) rfl rfl ?_
    refine Gz.iaddV 80 (4 : Int32) X11 hx (dd at_79) rfl rfl ?_
    refine Gz.iloadN 81 X11 hx (dd at_80) rfl rfl ?_
    refine Gz.ldcI 83 X11 hx (dd at_81) hown (mvT hZ (ww hw 37 rfl)) rfl ?_
    refine Gz.iand 84 X11 hx (dd at_83) rfl ?_
    refine Gz.iconst 85 (3 : Int32) X11 hx (dd at_84) rfl rfl ?_
    refine Gz.irem 86 X11 hx (dd at_85) (by decide) rfl ?_
    show Gz p e below s _ _ _ (T11.setTop (mkF m 86 #[.val (.int p0), .val (.int p1), .val (.int p2), .val (.int p3), .val (.int p4), .val (.int cc0), .val (.int cc1), .val (.int cc2), .val (.int cc3), .val (.ref b1), .val (.ref b10), .val (.int (3 : Int32)), .unset, .unset, .unset, .unset, .unset, .unset, .unset, .unset] [(.int ((p2 &&& (2147483647 : Int32)) % (3 : Int32))), (.int (4 : Int32))]))
    rcases own_three p2 with hs79 | hs79 | hs79
    · rw [hs79]
      refine Gz.iaddV 87 (4 : Int32) X11 hx (dd at_86) rfl rfl ?_
      refine Gz.iconst 88 (3 : Int32) X11 hx (dd at_87) rfl rfl ?_
      refine Gz.iandV 89 (0 : Int32) X11 hx (dd at_88) rfl rfl ?_
      refine Gz.istore 91 #[.val (.int p0), .val (.int p1), .val (.int p2), .val (.int p3), .val (.int p4), .val (.int cc0), .val (.int cc1), .val (.int cc2), .val (.int cc3), .val (.ref b1), .val (.ref b10), .val (.int (3 : Int32)), .val (.int (0 : Int32)), .unset, .unset, .unset, .unset, .unset, .unset, .unset] X11 hx (dd at_89) rfl rfl ?_
      refine Gz.iloadN 92 X11 hx (dd at_91) rfl rfl ?_
      refine Gz.ldcI 94 X11 hx (dd at_92) hown (mvT hZ (ww hw 37 rfl)) rfl ?_
      refine Gz.iand 95 X11 hx (dd at_94) rfl ?_
      refine Gz.aload 97 X11 hx (dd at_95) rfl rfl rfl ?_
      refine Gz.iload 99 X11 hx (dd at_97) rfl rfl ?_
      obtain ⟨c80, A80, q80, S80, N80, H80, G80⟩ := id f11_Vb1
      have hin80 : ¬ ((3 : Int32) < 0 ∨ c80.slots.size ≤ ((3 : Int32)).toNatClampNeg) := inb_of S80 ⟨by decide, by decide⟩
      refine Gz.ldI 100 X11 hx hZ (dd at_99) rfl A80 hin80 (Has.at H80 hin80 (rfl : _ = ((.int cc3) : Value))) rfl ?_
      refine Gz.irem 101 X11 hx (dd at_100) (own_nz h_cc3) rfl ?_
      refine Gz.istore 103 #[.val (.int p0), .val (.int p1), .val (.int p2), .val (.int p3), .val (.int p4), .val (.int cc0), .val (.int cc1), .val (.int cc2), .val (.int cc3), .val (.ref b1), .val (.ref b10), .val (.int (3 : Int32)), .val (.int (0 : Int32)), .val (.int ((p3 &&& (2147483647 : Int32)) % cc3)), .unset, .unset, .unset, .unset, .unset, .unset] X11 hx (dd at_101) rfl rfl ?_
      refine Gz.iload 105 X11 hx (dd at_103) rfl rfl ?_
      refine Gz.ldcI 107 X11 hx (dd at_105) hown (mvT hZ (ww hw 37 rfl)) rfl ?_
      refine Gz.iand 108 X11 hx (dd at_107) rfl ?_
      refine Gz.aload 110 X11 hx (dd at_108) rfl rfl rfl ?_
      refine Gz.iload 112 X11 hx (dd at_110) rfl rfl ?_
      obtain ⟨c81, A81, q81, S81, N81, H81, G81⟩ := id f11_Vb1
      have hin81 : ¬ ((0 : Int32) < 0 ∨ c81.slots.size ≤ ((0 : Int32)).toNatClampNeg) := inb_of S81 ⟨by decide, by decide⟩
      refine Gz.ldI 113 X11 hx hZ (dd at_112) rfl A81 hin81 (Has.at H81 hin81 (rfl : _ = ((.int cc0) : Value))) rfl ?_
      refine Gz.irem 114 X11 hx (dd at_113) (own_nz h_cc0) rfl ?_
      refine Gz.istore 116 #[.val (.int p0), .val (.int p1), .val (.int p2), .val (.int p3), .val (.int p4), .val (.int cc0), .val (.int cc1), .val (.int cc2), .val (.int cc3), .val (.ref b1), .val (.ref b10), .val (.int (3 : Int32)), .val (.int (0 : Int32)), .val (.int ((p3 &&& (2147483647 : Int32)) % cc3)), .val (.int ((p4 &&& (2147483647 : Int32)) % cc0)), .unset, .unset, .unset, .unset, .unset] X11 hx (dd at_114) rfl rfl ?_
      refine Gz.iload 118 X11 hx (dd at_116) rfl rfl ?_
      refine Gz.iload 120 X11 hx (dd at_118) rfl rfl ?_
      obtain ⟨_, _, ⟨T82, L82, k82, n82⟩, -, X82, ⟨Lc82, hQ82, l82, y82, z82⟩, st82⟩ := Jvm.LawKit.callS X11 hx (y := (⟨"java/lang/Math", "min", "(II)I"⟩ : MethodName)) hown (mvT hZ (ww hw 38 rfl)) (mvT hZ (ww hw 39 rfl)) (mvT hZ (ww hw 40 rfl)) (mvT hZ (ww hw 41 rfl)) (by decide) (backOf (W := 0) (rm4 l Z av0 hw [] (3 : Int32) (0 : Int32)  T11.heap n0 SZ11 ) hZ (ww hw 41 rfl) (ww hw 40 rfl) (by decide) (by decide)) (g := (mkF m 120 #[.val (.int p0), .val (.int p1), .val (.int p2), .val (.int p3), .val (.int p4), .val (.int cc0), .val (.int cc1), .val (.int cc2), .val (.int cc3), .val (.ref b1), .val (.ref b10), .val (.int (3 : Int32)), .val (.int (0 : Int32)), .val (.int ((p3 &&& (2147483647 : Int32)) % cc3)), .val (.int ((p4 &&& (2147483647 : Int32)) % cc0)), .unset, .unset, .unset, .unset, .unset] [(.int (0 : Int32)), (.int (3 : Int32))])) rfl (by rw [hml]; rfl) (argsL := [(.int (3 : Int32)), (.int (0 : Int32))]) (rest := []) (lenOf pd_2 rfl) rfl (by show 2 * 0 + _ ≤ _; exact Nat.le_of_eq rfl) (dd at_120) (fun _ _ => ⟨rfl, rfl, (by decide : 11 + 0 ≤ _), (by decide : 52 + 0 ≤ _)⟩)
      dsimp only [Pt.U, Pt.locs, Pt.cells, Pt.slots, Q_rm4] at X82 l82 y82 z82 st82 hQ82
      subst l82 y82 z82
      rw [show (fMin (3 : Int32) (0 : Int32)) = (0 : Int32) from (by unfold fMin; rw [if_pos (by decide : (0 : Int32) < (3 : Int32))]; try decide)] at hQ82
      obtain ⟨rfl, N82q, e82⟩ := hQ82
      have N82 := Fr.app N11 N82q
      refine Gz.st st82 ?_
      refine Gz.istore 125 #[.val (.int p0), .val (.int p1), .val (.int p2), .val (.int p3), .val (.int p4), .val (.int cc0), .val (.int cc1), .val (.int cc2), .val (.int cc3), .val (.ref b1), .val (.ref b10), .val (.int (3 : Int32)), .val (.int (0 : Int32)), .val (.int ((p3 &&& (2147483647 : Int32)) % cc3)), .val (.int ((p4 &&& (2147483647 : Int32)) % cc0)), .val (.int (0 : Int32)), .unset, .unset, .unset, .unset] X82 hx (dd at_123) rfl rfl ?_
      refine Gz.iload 127 X82 hx (dd at_125) rfl rfl ?_
      refine Gz.iload 129 X82 hx (dd at_127) rfl rfl ?_
      obtain ⟨_, _, ⟨T83, L83, k83, n83⟩, -, X83, ⟨Lc83, hQ83, l83, y83, z83⟩, st83⟩ := Jvm.LawKit.callS X82 hx (y := (⟨"java/lang/Math", "max", "(II)I"⟩ : MethodName)) hown (mvT hZ (ww hw 42 rfl)) (mvT hZ (ww hw 43 rfl)) (mvT hZ (ww hw 40 rfl)) (mvT hZ (ww hw 44 rfl)) (by decide) (backOf (W := 0) (rm5 l Z av0 hw [] (3 : Int32) (0 : Int32)  T11.heap n0 SZ11 ) hZ (ww hw 44 rfl) (ww hw 40 rfl) (by decide) (by decide)) (g := (mkF m 129 #[.val (.int p0), .val (.int p1), .val (.int p2), .val (.int p3), .val (.int p4), .val (.int cc0), .val (.int cc1), .val (.int cc2), .val (.int cc3), .val (.ref b1), .val (.ref b10), .val (.int (3 : Int32)), .val (.int (0 : Int32)), .val (.int ((p3 &&& (2147483647 : Int32)) % cc3)), .val (.int ((p4 &&& (2147483647 : Int32)) % cc0)), .val (.int (0 : Int32)), .unset, .unset, .unset, .unset] [(.int (0 : Int32)), (.int (3 : Int32))])) rfl (by rw [hml]; rfl) (argsL := [(.int (3 : Int32)), (.int (0 : Int32))]) (rest := []) (lenOf pd_2 rfl) rfl (by show 2 * 0 + _ ≤ _; exact Nat.le_of_eq rfl) (dd at_129) (fun _ _ => ⟨rfl, e82, (by decide : 11 + 0 ≤ _), (by decide : 52 + 0 ≤ _)⟩)
      dsimp only [Pt.U, Pt.locs, Pt.cells, Pt.slots, Q_rm5] at X83 l83 y83 z83 st83 hQ83
      subst l83 y83 z83
      rw [show (fMax (3 : Int32) (0 : Int32)) = (3 : Int32) from (by unfold fMax; rw [if_neg (by decide : ¬ ((3 : Int32) < (0 : Int32)))]; try decide)] at hQ83
      obtain ⟨rfl, N83q, e83⟩ := hQ83
      have N83 := Fr.app N82 N83q
      refine Gz.st st83 ?_
      refine Gz.istore 134 #[.val (.int p0), .val (.int p1), .val (.int p2), .val (.int p3), .val (.int p4), .val (.int cc0), .val (.int cc1), .val (.int cc2), .val (.int cc3), .val (.ref b1), .val (.ref b10), .val (.int (3 : Int32)), .val (.int (0 : Int32)), .val (.int ((p3 &&& (2147483647 : Int32)) % cc3)), .val (.int ((p4 &&& (2147483647 : Int32)) % cc0)), .val (.int (0 : Int32)), .val (.int (3 : Int32)), .unset, .unset, .unset] X83 hx (dd at_132) rfl rfl ?_
      refine Gz.iload 136 X83 hx (dd at_134) rfl rfl ?_
      refine Gz.iload 138 X83 hx (dd at_136) rfl rfl ?_
      refine Gz.icmpYes 152 X83 hx (dd at_138) (feq (by decide : ¬ ((0 : Int32) = (3 : Int32)))).2 (by decide) (by decide) ?_
      refine Gz.iload 154 X83 hx (dd at_152) rfl rfl ?_
      refine Gz.istore 156 #[.val (.int p0), .val (.int p1), .val (.int p2), .val (.int p3), .val (.int p4), .val (.int cc0), .val (.int cc1), .val (.int cc2), .val (.int cc3), .val (.ref b1), .val (.ref b10), .val (.int (3 : Int32)), .val (.int (0 : Int32)), .val (.int ((p3 &&& (2147483647 : Int32)) % cc3)), .val (.int ((p4 &&& (2147483647 : Int32)) % cc0)), .val (.int (0 : Int32)), .val (.int (3 : Int32)), .val (.int ((p4 &&& (2147483647 : Int32)) % cc0)), .unset, .unset] X83 hx (dd at_154) rfl rfl ?_
      refine Gz.iload 158 X83 hx (dd at_156) rfl rfl ?_
      refine Gz.istore 160 #[.val (.int p0), .val (.int p1), .val (.int p2), .val (.int p3), .val (.int p4), .val (.int cc0), .val (.int cc1), .val (.int cc2), .val (.int cc3), .val (.ref b1), .val (.ref b10), .val (.int (3 : Int32)), .val (.int (0 : Int32)), .val (.int ((p3 &&& (2147483647 : Int32)) % cc3)), .val (.int ((p4 &&& (2147483647 : Int32)) % cc0)), .val (.int (0 : Int32)), .val (.int (3 : Int32)), .val (.int ((p4 &&& (2147483647 : Int32)) % cc0)), .val (.int ((p3 &&& (2147483647 : Int32)) % cc3)), .unset] X83 hx (dd at_158) rfl rfl ?_
      refine Gz.iload 162 X83 hx (dd at_160) rfl rfl ?_
      refine Gz.iload 164 X83 hx (dd at_162) rfl rfl ?_
      refine Gz.iload 166 X83 hx (dd at_164) rfl rfl ?_
      refine Gz.iload 168 X83 hx (dd at_166) rfl rfl ?_
      refine Gz.iload 170 X83 hx (dd at_168) rfl rfl ?_
      refine Gz.iload 172 X83 hx (dd at_170) rfl rfl ?_
      obtain ⟨_, _, ⟨T84, L84, k84, n84⟩, -, X84, ⟨Lc84, hQ84, l84, y84, z84⟩, st84⟩ := Jvm.LawKit.callS X83 hx (y := (⟨"com/example/minsuite/minsuite/ValuePairsIndexPinLaw", "start", "(IIIIII)I"⟩ : MethodName)) hown (mvT hZ (ww hw 45 rfl)) (mvT hZ (ww hw 46 rfl)) (mvT hZ (ww hw 47 rfl)) (mvT hZ (ww hw 48 rfl)) (by decide) (backOf (W := 0) (rm6 l Z av0 hw [] (0 : Int32) (3 : Int32) cc0 cc1 cc2 cc3  T11.heap n0 SZ11 ) hZ (ww hw 48 rfl) (ww hw 47 rfl) (by decide) (by decide)) (g := (mkF m 172 #[.val (.int p0), .val (.int p1), .val (.int p2), .val (.int p3), .val (.int p4), .val (.int cc0), .val (.int cc1), .val (.int cc2), .val (.int cc3), .val (.ref b1), .val (.ref b10), .val (.int (3 : Int32)), .val (.int (0 : Int32)), .val (.int ((p3 &&& (2147483647 : Int32)) % cc3)), .val (.int ((p4 &&& (2147483647 : Int32)) % cc0)), .val (.int (0 : Int32)), .val (.int (3 : Int32)), .val (.int ((p4 &&& (2147483647 : Int32)) % cc0)), .val (.int ((p3 &&& (2147483647 : Int32)) % cc3)), .unset] [(.int cc3), (.int cc2), (.int cc1), (.int cc0), (.int (3 : Int32)), (.int (0 : Int32))])) rfl (by rw [hml]; rfl) (argsL := [(.int (0 : Int32)), (.int (3 : Int32)), (.int cc0), (.int cc1), (.int cc2), (.int cc3)]) (rest := []) (lenOf pd_3 rfl) rfl (by show 2 * 0 + _ ≤ _; exact Nat.le_of_eq rfl) (dd at_172) (fun _ _ => ⟨rfl, e83, (by decide : 11 + 0 ≤ _), (by decide : 52 + 0 ≤ _)⟩)
      dsimp only [Pt.U, Pt.locs, Pt.cells, Pt.slots, Q_rm6] at X84 l84 y84 z84 st84 hQ84
      subst l84 y84 z84
      rw [show (fSt (0 : Int32) (3 : Int32) cc0 cc1 cc2 cc3) = ((cc0 * cc1) + (cc0 * cc2)) from (by unfold fSt; rw [if_pos (by decide : (0 : Int32) = (0 : Int32)), if_neg (by decide : ¬ ((3 : Int32) = (1 : Int32))), if_neg (by decide : ¬ ((3 : Int32) = (2 : Int32)))]; try decide)] at hQ84
      obtain ⟨rfl, N84q, e84⟩ := hQ84
      have N84 := Fr.app N83 N84q
      refine Gz.st st84 ?_
      refine Gz.iload 177 X84 hx (dd at_175) rfl rfl ?_
      refine Gz.aload 179 X84 hx (dd at_177) rfl rfl rfl ?_
      refine Gz.iload 181 X84 hx (dd at_179) rfl rfl ?_
      obtain ⟨c85, A85, q85, S85, N85, H85, G85⟩ := id f11_Vb1
      have hin85 : ¬ ((3 : Int32) < 0 ∨ c85.slots.size ≤ ((3 : Int32)).toNatClampNeg) := inb_of S85 ⟨by decide, by decide⟩
      refine Gz.ldI 182 X84 hx hZ (dd at_181) e84 A85 hin85 (Has.at H85 hin85 (rfl : _ = ((.int cc3) : Value))) rfl ?_
      refine Gz.imul 183 X84 hx (dd at_182) rfl ?_
      refine Gz.iadd 184 X84 hx (dd at_183) rfl ?_
      refine Gz.iload 186 X84 hx (dd at_184) rfl rfl ?_
      refine Gz.iadd 187 X84 hx (dd at_186) rfl ?_
      refine Gz.istore 189 #[.val (.int p0), .val (.int p1), .val (.int p2), .val (.int p3), .val (.int p4), .val (.int cc0), .val (.int cc1), .val (.int cc2), .val (.int cc3), .val (.ref b1), .val (.ref b10), .val (.int (3 : Int32)), .val (.int (0 : Int32)), .val (.int ((p3 &&& (2147483647 : Int32)) % cc3)), .val (.int ((p4 &&& (2147483647 : Int32)) % cc0)), .val (.int (0 : Int32)), .val (.int (3 : Int32)), .val (.int ((p4 &&& (2147483647 : Int32)) % cc0)), .val (.int ((p3 &&& (2147483647 : Int32)) % cc3)), .val (.int ((((cc0 * cc1) + (cc0 * cc2)) + (((p4 &&& (2147483647 : Int32)) % cc0) * cc3)) + ((p3 &&& (2147483647 : Int32)) % cc3)))] X84 hx (dd at_187) rfl rfl ?_
      refine Gz.aload 191 X84 hx (dd at_189) rfl rfl rfl ?_
      refine Gz.iload 193 X84 hx (dd at_191) rfl rfl ?_
      refine Gz.iload 195 X84 hx (dd at_193) rfl rfl ?_
      refine Gz.iload 197 X84 hx (dd at_195) rfl rfl ?_
      refine Gz.iload 199 X84 hx (dd at_197) rfl rfl ?_
      obtain ⟨cq86, kq86, q86a, q86b, q86c⟩ := isOf hZ e84 QE11
      obtain ⟨_, _, ⟨T86, L86, k86, n86⟩, -, X86, ⟨Lc86, hQ86, l86, y86, z86⟩, st86⟩ := X84.virtualBack hx (y := (⟨"com/example/minsuite/minsuite/ValuePairs", "index", "(IIII)I"⟩ : MethodName)) (z := (⟨"com/example/minsuite/minsuite/ValuePairs", "index", "(IIII)I"⟩ : MethodName)) hown (mvT hZ (ww hw 49 rfl)) (mvT hZ (ww hw 50 rfl)) (notFace_of_selects (args := #[]) (mvT hZ (ww hw 52 rfl))) (mvT hZ (ww hw 52 rfl)) (mvT hZ (ww hw 51 rfl)) (by decide) (backOf (W := 0) (rmX30 l Z av0 hw [] b10 ((p3 &&& (2147483647 : Int32)) % cc3) ((p4 &&& (2147483647 : Int32)) % cc0) so11 ks11 r0_11 r1_11 r2_11 r3_11 kr11 (0 : Int32) (0 : Int32) ((0 : Int32) + (cc0 * cc1)) (((0 : Int32) + (cc0 * cc1)) + (cc0 * cc2)) ac11 kc11 cc0 cc1 cc2 cc3 T11.heap n0 SZ11 QG11 QS11 QR0_11 QF11 QA11) hZ (ww hw 53 rfl) (ww hw 3 rfl) (by decide) (by decide)) q86a q86c (g := (mkF m 199 #[.val (.int p0), .val (.int p1), .val (.int p2), .val (.int p3), .val (.int p4), .val (.int cc0), .val (.int cc1), .val (.int cc2), .val (.int cc3), .val (.ref b1), .val (.ref b10), .val (.int (3 : Int32)), .val (.int (0 : Int32)), .val (.int ((p3 &&& (2147483647 : Int32)) % cc3)), .val (.int ((p4 &&& (2147483647 : Int32)) % cc0)), .val (.int (0 : Int32)), .val (.int (3 : Int32)), .val (.int ((p4 &&& (2147483647 : Int32)) % cc0)), .val (.int ((p3 &&& (2147483647 : Int32)) % cc3)), .val (.int ((((cc0 * cc1) + (cc0 * cc2)) + (((p4 &&& (2147483647 : Int32)) % cc0) * cc3)) + ((p3 &&& (2147483647 : Int32)) % cc3)))] [(.int ((p4 &&& (2147483647 : Int32)) % cc0)), (.int (0 : Int32)), (.int ((p3 &&& (2147483647 : Int32)) % cc3)), (.int (3 : Int32)), (.ref b10)])) rfl (by rw [hml]; rfl) (Steps.refl _) (argsL := [(.int (3 : Int32)), (.int ((p3 &&& (2147483647 : Int32)) % cc3)), (.int (0 : Int32)), (.int ((p4 &&& (2147483647 : Int32)) % cc0))]) (rest := []) (lenOf pd_4 rfl) rfl (by show 2 * 0 + _ ≤ _; exact Nat.le_of_eq rfl) (dd at_199) (fun _ _ => ⟨rfl, e84, (by decide : 11 + 0 ≤ _), (by decide : 52 + 0 ≤ _)⟩)
      dsimp only [Pt.U, Pt.locs, Pt.cells, Pt.slots, Q_rmX30] at X86 l86 y86 z86 st86 hQ86
      subst l86 y86 z86
      rw [show (fX30 b10 ((p3 &&& (2147483647 : Int32)) % cc3) ((p4 &&& (2147483647 : Int32)) % cc0) so11 r0_11 r1_11 r2_11 r3_11 (0 : Int32) (0 : Int32) ((0 : Int32) + (cc0 * cc1)) (((0 : Int32) + (cc0 * cc1)) + (cc0 * cc2)) ac11 cc0 cc1 cc2 cc3) = (((((0 : Int32) + (cc0 * cc1)) + (cc0 * cc2)) + (((p4 &&& (2147483647 : Int32)) % cc0) * cc3)) + ((p3 &&& (2147483647 : Int32)) % cc3)) from (by unfold fX30; rfl)] at hQ86
      obtain ⟨rfl, N86q, e86⟩ := hQ86
      have N86 := Fr.app N84 N86q
      refine Gz.tr st86 ?_
      refine Gz.iload 204 X86 hx (dd at_202) rfl rfl ?_
      refine Gz.icmpNo 207 X86 hx (dd at_204) (teq ((by simp only [Int32.zero_add]) : (((((0 : Int32) + (cc0 * cc1)) + (cc0 * cc2)) + (((p4 &&& (2147483647 : Int32)) % cc0) * cc3)) + ((p3 &&& (2147483647 : Int32)) % cc3)) = ((((cc0 * cc1) + (cc0 * cc2)) + (((p4 &&& (2147483647 : Int32)) % cc0) * cc3)) + ((p3 &&& (2147483647 : Int32)) % cc3)))).2 rfl ?_
      refine Gz.iconst 208 (1 : Int32) X86 hx (dd at_207) rfl rfl ?_
      refine Gz.goto 212 X86 hx (dd at_208) (by decide) (by decide) ?_
      refine Gz.fin X86 (v := some (.int (1 : Int32))) (fun h => by rw [hret] at h; cases h) hlk (by decide) (by decide) (fun fs hr => retN X86 hx (t := .boolean) hret (by simp) (dd at_212) hr) ?_
      exact ⟨rfl, N86⟩
    · rw [hs79]
      refine Gz.iaddV 87 (5 : Int32) X11 hx (dd at_86) rfl rfl ?_
      refine Gz.iconst 88 (3 : Int32) X11 hx (dd at_87) rfl rfl ?_
      refine Gz.iandV 89 (1 : Int32) X11 hx (dd at_88) rfl rfl ?_
      refine Gz.istore 91 #[.val (.int p0), .val (.int p1), .val (.int p2), .val (.int p3), .val (.int p4), .val (.int cc0), .val (.int cc1), .val (.int cc2), .val (.int cc3), .val (.ref b1), .val (.ref b10), .val (.int (3 : Int32)), .val (.int (1 : Int32)), .unset, .unset, .unset, .unset, .unset, .unset, .unset] X11 hx (dd at_89) rfl rfl ?_
      refine Gz.iloadN 92 X11 hx (dd at_91) rfl rfl ?_
      refine Gz.ldcI 94 X11 hx (dd at_92) hown (mvT hZ (ww hw 37 rfl)) rfl ?_
      refine Gz.iand 95 X11 hx (dd at_94) rfl ?_
      refine Gz.aload 97 X11 hx (dd at_95) rfl rfl rfl ?_
      refine Gz.iload 99 X11 hx (dd at_97) rfl rfl ?_
      obtain ⟨c87, A87, q87, S87, N87, H87, G87⟩ := id f11_Vb1
      have hin87 : ¬ ((3 : Int32) < 0 ∨ c87.slots.size ≤ ((3 : Int32)).toNatClampNeg) := inb_of S87 ⟨by decide, by decide⟩
      refine Gz.ldI 100 X11 hx hZ (dd at_99) rfl A87 hin87 (Has.at H87 hin87 (rfl : _ = ((.int cc3) : Value))) rfl ?_
      refine Gz.irem 101 X11 hx (dd at_100) (own_nz h_cc3) rfl ?_
      refine Gz.istore 103 #[.val (.int p0), .val (.int p1), .val (.int p2), .val (.int p3), .val (.int p4), .val (.int cc0), .val (.int cc1), .val (.int cc2), .val (.int cc3), .val (.ref b1), .val (.ref b10), .val (.int (3 : Int32)), .val (.int (1 : Int32)), .val (.int ((p3 &&& (2147483647 : Int32)) % cc3)), .unset, .unset, .unset, .unset, .unset, .unset] X11 hx (dd at_101) rfl rfl ?_
      refine Gz.iload 105 X11 hx (dd at_103) rfl rfl ?_
      refine Gz.ldcI 107 X11 hx (dd at_105) hown (mvT hZ (ww hw 37 rfl)) rfl ?_
      refine Gz.iand 108 X11 hx (dd at_107) rfl ?_
      refine Gz.aload 110 X11 hx (dd at_108) rfl rfl rfl ?_
      refine Gz.iload 112 X11 hx (dd at_110) rfl rfl ?_
      obtain ⟨c88, A88, q88, S88, N88, H88, G88⟩ := id f11_Vb1
      have hin88 : ¬ ((1 : Int32) < 0 ∨ c88.slots.size ≤ ((1 : Int32)).toNatClampNeg) := inb_of S88 ⟨by decide, by decide⟩
      refine Gz.ldI 113 X11 hx hZ (dd at_112) rfl A88 hin88 (Has.at H88 hin88 (rfl : _ = ((.int cc1) : Value))) rfl ?_
      refine Gz.irem 114 X11 hx (dd at_113) (own_nz h_cc1) rfl ?_
      refine Gz.istore 116 #[.val (.int p0), .val (.int p1), .val (.int p2), .val (.int p3), .val (.int p4), .val (.int cc0), .val (.int cc1), .val (.int cc2), .val (.int cc3), .val (.ref b1), .val (.ref b10), .val (.int (3 : Int32)), .val (.int (1 : Int32)), .val (.int ((p3 &&& (2147483647 : Int32)) % cc3)), .val (.int ((p4 &&& (2147483647 : Int32)) % cc1)), .unset, .unset, .unset, .unset, .unset] X11 hx (dd at_114) rfl rfl ?_
      refine Gz.iload 118 X11 hx (dd at_116) rfl rfl ?_
      refine Gz.iload 120 X11 hx (dd at_118) rfl rfl ?_
      obtain ⟨_, _, ⟨T89, L89, k89, n89⟩, -, X89, ⟨Lc89, hQ89, l89, y89, z89⟩, st89⟩ := Jvm.LawKit.callS X11 hx (y := (⟨"java/lang/Math", "min", "(II)I"⟩ : MethodName)) hown (mvT hZ (ww hw 38 rfl)) (mvT hZ (ww hw 39 rfl)) (mvT hZ (ww hw 40 rfl)) (mvT hZ (ww hw 41 rfl)) (by decide) (backOf (W := 0) (rm4 l Z av0 hw [] (3 : Int32) (1 : Int32)  T11.heap n0 SZ11 ) hZ (ww hw 41 rfl) (ww hw 40 rfl) (by decide) (by decide)) (g := (mkF m 120 #[.val (.int p0), .val (.int p1), .val (.int p2), .val (.int p3), .val (.int p4), .val (.int cc0), .val (.int cc1), .val (.int cc2), .val (.int cc3), .val (.ref b1), .val (.ref b10), .val (.int (3 : Int32)), .val (.int (1 : Int32)), .val (.int ((p3 &&& (2147483647 : Int32)) % cc3)), .val (.int ((p4 &&& (2147483647 : Int32)) % cc1)), .unset, .unset, .unset, .unset, .unset] [(.int (1 : Int32)), (.int (3 : Int32))])) rfl (by rw [hml]; rfl) (argsL := [(.int (3 : Int32)), (.int (1 : Int32))]) (rest := []) (lenOf pd_2 rfl) rfl (by show 2 * 0 + _ ≤ _; exact Nat.le_of_eq rfl) (dd at_120) (fun _ _ => ⟨rfl, rfl, (by decide : 11 + 0 ≤ _), (by decide : 52 + 0 ≤ _)⟩)
      dsimp only [Pt.U, Pt.locs, Pt.cells, Pt.slots, Q_rm4] at X89 l89 y89 z89 st89 hQ89
      subst l89 y89 z89
      rw [show (fMin (3 : Int32) (1 : Int32)) = (1 : Int32) from (by unfold fMin; rw [if_pos (by decide : (1 : Int32) < (3 : Int32))]; try decide)] at hQ89
      obtain ⟨rfl, N89q, e89⟩ := hQ89
      have N89 := Fr.app N11 N89q
      refine Gz.st st89 ?_
      refine Gz.istore 125 #[.val (.int p0), .val (.int p1), .val (.int p2), .val (.int p3), .val (.int p4), .val (.int cc0), .val (.int cc1), .val (.int cc2), .val (.int cc3), .val (.ref b1), .val (.ref b10), .val (.int (3 : Int32)), .val (.int (1 : Int32)), .val (.int ((p3 &&& (2147483647 : Int32)) % cc3)), .val (.int ((p4 &&& (2147483647 : Int32)) % cc1)), .val (.int (1 : Int32)), .unset, .unset, .unset, .unset] X89 hx (dd at_123) rfl rfl ?_
      refine Gz.iload 127 X89 hx (dd at_125) rfl rfl ?_
      refine Gz.iload 129 X89 hx (dd at_127) rfl rfl ?_
      obtain ⟨_, _, ⟨T90, L90, k90, n90⟩, -, X90, ⟨Lc90, hQ90, l90, y90, z90⟩, st90⟩ := Jvm.LawKit.callS X89 hx (y := (⟨"java/lang/Math", "max", "(II)I"⟩ : MethodName)) hown (mvT hZ (ww hw 42 rfl)) (mvT hZ (ww hw 43 rfl)) (mvT hZ (ww hw 40 rfl)) (mvT hZ (ww hw 44 rfl)) (by decide) (backOf (W := 0) (rm5 l Z av0 hw [] (3 : Int32) (1 : Int32)  T11.heap n0 SZ11 ) hZ (ww hw 44 rfl) (ww hw 40 rfl) (by decide) (by decide)) (g := (mkF m 129 #[.val (.int p0), .val (.int p1), .val (.int p2), .val (.int p3), .val (.int p4), .val (.int cc0), .val (.int cc1), .val (.int cc2), .val (.int cc3), .val (.ref b1), .val (.ref b10), .val (.int (3 : Int32)), .val (.int (1 : Int32)), .val (.int ((p3 &&& (2147483647 : Int32)) % cc3)), .val (.int ((p4 &&& (2147483647 : Int32)) % cc1)), .val (.int (1 : Int32)), .unset, .unset, .unset, .unset] [(.int (1 : Int32)), (.int (3 : Int32))])) rfl (by rw [hml]; rfl) (argsL := [(.int (3 : Int32)), (.int (1 : Int32))]) (rest := []) (lenOf pd_2 rfl) rfl (by show 2 * 0 + _ ≤ _; exact Nat.le_of_eq rfl) (dd at_129) (fun _ _ => ⟨rfl, e89, (by decide : 11 + 0 ≤ _), (by decide : 52 + 0 ≤ _)⟩)
      dsimp only [Pt.U, Pt.locs, Pt.cells, Pt.slots, Q_rm5] at X90 l90 y90 z90 st90 hQ90
      subst l90 y90 z90
      rw [show (fMax (3 : Int32) (1 : Int32)) = (3 : Int32) from (by unfold fMax; rw [if_neg (by decide : ¬ ((3 : Int32) < (1 : Int32)))]; try decide)] at hQ90
      obtain ⟨rfl, N90q, e90⟩ := hQ90
      have N90 := Fr.app N89 N90q
      refine Gz.st st90 ?_
      refine Gz.istore 134 #[.val (.int p0), .val (.int p1), .val (.int p2), .val (.int p3), .val (.int p4), .val (.int cc0), .val (.int cc1), .val (.int cc2), .val (.int cc3), .val (.ref b1), .val (.ref b10), .val (.int (3 : Int32)), .val (.int (1 : Int32)), .val (.int ((p3 &&& (2147483647 : Int32)) % cc3)), .val (.int ((p4 &&& (2147483647 : Int32)) % cc1)), .val (.int (1 : Int32)), .val (.int (3 : Int32)), .unset, .unset, .unset] X90 hx (dd at_132) rfl rfl ?_
      refine Gz.iload 136 X90 hx (dd at_134) rfl rfl ?_
      refine Gz.iload 138 X90 hx (dd at_136) rfl rfl ?_
      refine Gz.icmpYes 152 X90 hx (dd at_138) (feq (by decide : ¬ ((1 : Int32) = (3 : Int32)))).2 (by decide) (by decide) ?_
      refine Gz.iload 154 X90 hx (dd at_152) rfl rfl ?_
      refine Gz.istore 156 #[.val (.int p0), .val (.int p1), .val (.int p2), .val (.int p3), .val (.int p4), .val (.int cc0), .val (.int cc1), .val (.int cc2), .val (.int cc3), .val (.ref b1), .val (.ref b10), .val (.int (3 : Int32)), .val (.int (1 : Int32)), .val (.int ((p3 &&& (2147483647 : Int32)) % cc3)), .val (.int ((p4 &&& (2147483647 : Int32)) % cc1)), .val (.int (1 : Int32)), .val (.int (3 : Int32)), .val (.int ((p4 &&& (2147483647 : Int32)) % cc1)), .unset, .unset] X90 hx (dd at_154) rfl rfl ?_
      refine Gz.iload 158 X90 hx (dd at_156) rfl rfl ?_
      refine Gz.istore 160 #[.val (.int p0), .val (.int p1), .val (.int p2), .val (.int p3), .val (.int p4), .val (.int cc0), .val (.int cc1), .val (.int cc2), .val (.int cc3), .val (.ref b1), .val (.ref b10), .val (.int (3 : Int32)), .val (.int (1 : Int32)), .val (.int ((p3 &&& (2147483647 : Int32)) % cc3)), .val (.int ((p4 &&& (2147483647 : Int32)) % cc1)), .val (.int (1 : Int32)), .val (.int (3 : Int32)), .val (.int ((p4 &&& (2147483647 : Int32)) % cc1)), .val (.int ((p3 &&& (2147483647 : Int32)) % cc3)), .unset] X90 hx (dd at_158) rfl rfl ?_
      refine Gz.iload 162 X90 hx (dd at_160) rfl rfl ?_
      refine Gz.iload 164 X90 hx (dd at_162) rfl rfl ?_
      refine Gz.iload 166 X90 hx (dd at_164) rfl rfl ?_
      refine Gz.iload 168 X90 hx (dd at_166) rfl rfl ?_
      refine Gz.iload 170 X90 hx (dd at_168) rfl rfl ?_
      refine Gz.iload 172 X90 hx (dd at_170) rfl rfl ?_
      obtain ⟨_, _, ⟨T91, L91, k91, n91⟩, -, X91, ⟨Lc91, hQ91, l91, y91, z91⟩, st91⟩ := Jvm.LawKit.callS X90 hx (y := (⟨"com/example/minsuite/minsuite/ValuePairsIndexPinLaw", "start", "(IIIIII)I"⟩ : MethodName)) hown (mvT hZ (ww hw 45 rfl)) (mvT hZ (ww hw 46 rfl)) (mvT hZ (ww hw 47 rfl)) (mvT hZ (ww hw 48 rfl)) (by decide) (backOf (W := 0) (rm6 l Z av0 hw [] (1 : Int32) (3 : Int32) cc0 cc1 cc2 cc3  T11.heap n0 SZ11 ) hZ (ww hw 48 rfl) (ww hw 47 rfl) (by decide) (by decide)) (g := (mkF m 172 #[.val (.int p0), .val (.int p1), .val (.int p2), .val (.int p3), .val (.int p4), .val (.int cc0), .val (.int cc1), .val (.int cc2), .val (.int cc3), .val (.ref b1), .val (.ref b10), .val (.int (3 : Int32)), .val (.int (1 : Int32)), .val (.int ((p3 &&& (2147483647 : Int32)) % cc3)), .val (.int ((p4 &&& (2147483647 : Int32)) % cc1)), .val (.int (1 : Int32)), .val (.int (3 : Int32)), .val (.int ((p4 &&& (2147483647 : Int32)) % cc1)), .val (.int ((p3 &&& (2147483647 : Int32)) % cc3)), .unset] [(.int cc3), (.int cc2), (.int cc1), (.int cc0), (.int (3 : Int32)), (.int (1 : Int32))])) rfl (by rw [hml]; rfl) (argsL := [(.int (1 : Int32)), (.int (3 : Int32)), (.int cc0), (.int cc1), (.int cc2), (.int cc3)]) (rest := []) (lenOf pd_3 rfl) rfl (by show 2 * 0 + _ ≤ _; exact Nat.le_of_eq rfl) (dd at_172) (fun _ _ => ⟨rfl, e90, (by decide : 11 + 0 ≤ _), (by decide : 52 + 0 ≤ _)⟩)
      dsimp only [Pt.U, Pt.locs, Pt.cells, Pt.slots, Q_rm6] at X91 l91 y91 z91 st91 hQ91
      subst l91 y91 z91
      rw [show (fSt (1 : Int32) (3 : Int32) cc0 cc1 cc2 cc3) = ((((cc0 * cc1) + (cc0 * cc2)) + (cc0 * cc3)) + (cc1 * cc2)) from (by unfold fSt; rw [if_neg (by decide : ¬ ((1 : Int32) = (0 : Int32))), if_pos (by decide : (1 : Int32) = (1 : Int32)), if_neg (by decide : ¬ ((3 : Int32) = (2 : Int32)))]; try decide)] at hQ91
      obtain ⟨rfl, N91q, e91⟩ := hQ91
      have N91 := Fr.app N90 N91q
      refine Gz.st st91 ?_
      refine Gz.iload 177 X91 hx (dd at_175) rfl rfl ?_
      refine Gz.aload 179 X91 hx (dd at_177) rfl rfl rfl ?_
      refine Gz.iload 181 X91 hx (dd at_179) rfl rfl ?_
      obtain ⟨c92, A92, q92, S92, N92, H92, G92⟩ := id f11_Vb1
      have hin92 : ¬ ((3 : Int32) < 0 ∨ c92.slots.size ≤ ((3 : Int32)).toNatClampNeg) := inb_of S92 ⟨by decide, by decide⟩
      refine Gz.ldI 182 X91 hx hZ (dd at_181) e91 A92 hin92 (Has.at H92 hin92 (rfl : _ = ((.int cc3) : Value))) rfl ?_
      refine Gz.imul 183 X91 hx (dd at_182) rfl ?_
      refine Gz.iadd 184 X91 hx (dd at_183) rfl ?_
      refine Gz.iload 186 X91 hx (dd at_184) rfl rfl ?_
      refine Gz.iadd 187 X91 hx (dd at_186) rfl ?_
      refine Gz.istore 189 #[.val (.int p0), .val (.int p1), .val (.int p2), .val (.int p3), .val (.int p4), .val (.int cc0), .val (.int cc1), .val (.int cc2), .val (.int cc3), .val (.ref b1), .val (.ref b10), .val (.int (3 : Int32)), .val (.int (1 : Int32)), .val (.int ((p3 &&& (2147483647 : Int32)) % cc3)), .val (.int ((p4 &&& (2147483647 : Int32)) % cc1)), .val (.int (1 : Int32)), .val (.int (3 : Int32)), .val (.int ((p4 &&& (2147483647 : Int32)) % cc1)), .val (.int ((p3 &&& (2147483647 : Int32)) % cc3)), .val (.int ((((((cc0 * cc1) + (cc0 * cc2)) + (cc0 * cc3)) + (cc1 * cc2)) + (((p4 &&& (2147483647 : Int32)) % cc1) * cc3)) + ((p3 &&& (2147483647 : Int32)) % cc3)))] X91 hx (dd at_187) rfl rfl ?_
      refine Gz.aload 191 X91 hx (dd at_189) rfl rfl rfl ?_
      refine Gz.iload 193 X91 hx (dd at_191) rfl rfl ?_
      refine Gz.iload 195 X91 hx (dd at_193) rfl rfl ?_
      refine Gz.iload 197 X91 hx (dd at_195) rfl rfl ?_
      refine Gz.iload 199 X91 hx (dd at_197) rfl rfl ?_
      obtain ⟨cq93, kq93, q93a, q93b, q93c⟩ := isOf hZ e91 QE11
      obtain ⟨_, _, ⟨T93, L93, k93, n93⟩, -, X93, ⟨Lc93, hQ93, l93, y93, z93⟩, st93⟩ := X91.virtualBack hx (y := (⟨"com/example/minsuite/minsuite/ValuePairs", "index", "(IIII)I"⟩ : MethodName)) (z := (⟨"com/example/minsuite/minsuite/ValuePairs", "index", "(IIII)I"⟩ : MethodName)) hown (mvT hZ (ww hw 49 rfl)) (mvT hZ (ww hw 50 rfl)) (notFace_of_selects (args := #[]) (mvT hZ (ww hw 52 rfl))) (mvT hZ (ww hw 52 rfl)) (mvT hZ (ww hw 51 rfl)) (by decide) (backOf (W := 0) (rmX31 l Z av0 hw [] b10 ((p3 &&& (2147483647 : Int32)) % cc3) ((p4 &&& (2147483647 : Int32)) % cc1) so11 ks11 r0_11 r1_11 r2_11 r3_11 kr11 (0 : Int32) (0 : Int32) ((((0 : Int32) + (cc0 * cc1)) + (cc0 * cc2)) + (cc0 * cc3)) (((((0 : Int32) + (cc0 * cc1)) + (cc0 * cc2)) + (cc0 * cc3)) + (cc1 * cc2)) ac11 kc11 cc0 cc1 cc2 cc3 T11.heap n0 SZ11 QG11 QS11 QR1_11 QF11 QA11) hZ (ww hw 53 rfl) (ww hw 3 rfl) (by decide) (by decide)) q93a q93c (g := (mkF m 199 #[.val (.int p0), .val (.int p1), .val (.int p2), .val (.int p3), .val (.int p4), .val (.int cc0), .val (.int cc1), .val (.int cc2), .val (.int cc3), .val (.ref b1), .val (.ref b10), .val (.int (3 : Int32)), .val (.int (1 : Int32)), .val (.int ((p3 &&& (2147483647 : Int32)) % cc3)), .val (.int ((p4 &&& (2147483647 : Int32)) % cc1)), .val (.int (1 : Int32)), .val (.int (3 : Int32)), .val (.int ((p4 &&& (2147483647 : Int32)) % cc1)), .val (.int ((p3 &&& (2147483647 : Int32)) % cc3)), .val (.int ((((((cc0 * cc1) + (cc0 * cc2)) + (cc0 * cc3)) + (cc1 * cc2)) + (((p4 &&& (2147483647 : Int32)) % cc1) * cc3)) + ((p3 &&& (2147483647 : Int32)) % cc3)))] [(.int ((p4 &&& (2147483647 : Int32)) % cc1)), (.int (1 : Int32)), (.int ((p3 &&& (2147483647 : Int32)) % cc3)), (.int (3 : Int32)), (.ref b10)])) rfl (by rw [hml]; rfl) (Steps.refl _) (argsL := [(.int (3 : Int32)), (.int ((p3 &&& (2147483647 : Int32)) % cc3)), (.int (1 : Int32)), (.int ((p4 &&& (2147483647 : Int32)) % cc1))]) (rest := []) (lenOf pd_4 rfl) rfl (by show 2 * 0 + _ ≤ _; exact Nat.le_of_eq rfl) (dd at_199) (fun _ _ => ⟨rfl, e91, (by decide : 11 + 0 ≤ _), (by decide : 52 + 0 ≤ _)⟩)
      dsimp only [Pt.U, Pt.locs, Pt.cells, Pt.slots, Q_rmX31] at X93 l93 y93 z93 st93 hQ93
      subst l93 y93 z93
      rw [show (fX31 b10 ((p3 &&& (2147483647 : Int32)) % cc3) ((p4 &&& (2147483647 : Int32)) % cc1) so11 r0_11 r1_11 r2_11 r3_11 (0 : Int32) (0 : Int32) ((((0 : Int32) + (cc0 * cc1)) + (cc0 * cc2)) + (cc0 * cc3)) (((((0 : Int32) + (cc0 * cc1)) + (cc0 * cc2)) + (cc0 * cc3)) + (cc1 * cc2)) ac11 cc0 cc1 cc2 cc3) = (((((((0 : Int32) + (cc0 * cc1)) + (cc0 * cc2)) + (cc0 * cc3)) + (cc1 * cc2)) + (((p4 &&& (2147483647 : Int32)) % cc1) * cc3)) + ((p3 &&& (2147483647 : Int32)) % cc3)) from (by unfold fX31; rfl)] at hQ93
      obtain ⟨rfl, N93q, e93⟩ := hQ93
      have N93 := Fr.app N91 N93q
      refine Gz.tr st93 ?_
      refine Gz.iload 204 X93 hx (dd at_202) rfl rfl ?_
      refine Gz.icmpNo 207 X93 hx (dd at_204) (teq ((by simp only [Int32.zero_add]) : (((((((0 : Int32) + (cc0 * cc1)) + (cc0 * cc2)) + (cc0 * cc3)) + (cc1 * cc2)) + (((p4 &&& (2147483647 : Int32)) % cc1) * cc3)) + ((p3 &&& (2147483647 : Int32)) % cc3)) = ((((((cc0 * cc1) + (cc0 * cc2)) + (cc0 * cc3)) + (cc1 * cc2)) + (((p4 &&& (2147483647 : Int32)) % cc1) * cc3)) + ((p3 &&& (2147483647 : Int32)) % cc3)))).2 rfl ?_
      refine Gz.iconst 208 (1 : Int32) X93 hx (dd at_207) rfl rfl ?_
      refine Gz.goto 212 X93 hx (dd at_208) (by decide) (by decide) ?_
      refine Gz.fin X93 (v := some (.int (1 : Int32))) (fun h => by rw [hret] at h; cases h) hlk (by decide) (by decide) (fun fs hr => retN X93 hx (t := .boolean) hret (by simp) (dd at_212) hr) ?_
      exact ⟨rfl, N93⟩
    · rw [hs79]
      refine Gz.iaddV 87 (6 : Int32) X11 hx (dd at_86) rfl rfl ?_
      refine Gz.iconst 88 (3 : Int32) X11 hx (dd at_87) rfl rfl ?_
      refine Gz.iandV 89 (2 : Int32) X11 hx (dd at_88) rfl rfl ?_
      refine Gz.istore 91 #[.val (.int p0), .val (.int p1), .val (.int p2), .val (.int p3), .val (.int p4), .val (.int cc0), .val (.int cc1), .val (.int cc2), .val (.int cc3), .val (.ref b1), .val (.ref b10), .val (.int (3 : Int32)), .val (.int (2 : Int32)), .unset, .unset, .unset, .unset, .unset, .unset, .unset] X11 hx (dd at_89) rfl rfl ?_
      refine Gz.iloadN 92 X11 hx (dd at_91) rfl rfl ?_
      refine Gz.ldcI 94 X11 hx (dd at_92) hown (mvT hZ (ww hw 37 rfl)) rfl ?_
      refine Gz.iand 95 X11 hx (dd at_94) rfl ?_
      refine Gz.aload 97 X11 hx (dd at_95) rfl rfl rfl ?_
      refine Gz.iload 99 X11 hx (dd at_97) rfl rfl ?_
      obtain ⟨c94, A94, q94, S94, N94, H94, G94⟩ := id f11_Vb1
      have hin94 : ¬ ((3 : Int32) < 0 ∨ c94.slots.size ≤ ((3 : Int32)).toNatClampNeg) := inb_of S94 ⟨by decide, by decide⟩
      refine Gz.ldI 100 X11 hx hZ (dd at_99) rfl A94 hin94 (Has.at H94 hin94 (rfl : _ = ((.int cc3) : Value))) rfl ?_
      refine Gz.irem 101 X11 hx (dd at_100) (own_nz h_cc3) rfl ?_
      refine Gz.istore 103 #[.val (.int p0), .val (.int p1), .val (.int p2), .val (.int p3), .val (.int p4), .val (.int cc0), .val (.int cc1), .val (.int cc2), .val (.int cc3), .val (.ref b1), .val (.ref b10), .val (.int (3 : Int32)), .val (.int (2 : Int32)), .val (.int ((p3 &&& (2147483647 : Int32)) % cc3)), .unset, .unset, .unset, .unset, .unset, .unset] X11 hx (dd at_101) rfl rfl ?_
      refine Gz.iload 105 X11 hx (dd at_103) rfl rfl ?_
      refine Gz.ldcI 107 X11 hx (dd at_105) hown (mvT hZ (ww hw 37 rfl)) rfl ?_
      refine Gz.iand 108 X11 hx (dd at_107) rfl ?_
      refine Gz.aload 110 X11 hx (dd at_108) rfl rfl rfl ?_
      refine Gz.iload 112 X11 hx (dd at_110) rfl rfl ?_
      obtain ⟨c95, A95, q95, S95, N95, H95, G95⟩ := id f11_Vb1
      have hin95 : ¬ ((2 : Int32) < 0 ∨ c95.slots.size ≤ ((2 : Int32)).toNatClampNeg) := inb_of S95 ⟨by decide, by decide⟩
      refine Gz.ldI 113 X11 hx hZ (dd at_112) rfl A95 hin95 (Has.at H95 hin95 (rfl : _ = ((.int cc2) : Value))) rfl ?_
      refine Gz.irem 114 X11 hx (dd at_113) (own_nz h_cc2) rfl ?_
      refine Gz.istore 116 #[.val (.int p0), .val (.int p1), .val (.int p2), .val (.int p3), .val (.int p4), .val (.int cc0), .val (.int cc1), .val (.int cc2), .val (.int cc3), .val (.ref b1), .val (.ref b10), .val (.int (3 : Int32)), .val (.int (2 : Int32)), .val (.int ((p3 &&& (2147483647 : Int32)) % cc3)), .val (.int ((p4 &&& (2147483647 : Int32)) % cc2)), .unset, .unset, .unset, .unset, .unset] X11 hx (dd at_114) rfl rfl ?_
      refine Gz.iload 118 X11 hx (dd at_116) rfl rfl ?_
      refine Gz.iload 120 X11 hx (dd at_118) rfl rfl ?_
      obtain ⟨_, _, ⟨T96, L96, k96, n96⟩, -, X96, ⟨Lc96, hQ96, l96, y96, z96⟩, st96⟩ := Jvm.LawKit.callS X11 hx (y := (⟨"java/lang/Math", "min", "(II)I"⟩ : MethodName)) hown (mvT hZ (ww hw 38 rfl)) (mvT hZ (ww hw 39 rfl)) (mvT hZ (ww hw 40 rfl)) (mvT hZ (ww hw 41 rfl)) (by decide) (backOf (W := 0) (rm4 l Z av0 hw [] (3 : Int32) (2 : Int32)  T11.heap n0 SZ11 ) hZ (ww hw 41 rfl) (ww hw 40 rfl) (by decide) (by decide)) (g := (mkF m 120 #[.val (.int p0), .val (.int p1), .val (.int p2), .val (.int p3), .val (.int p4), .val (.int cc0), .val (.int cc1), .val (.int cc2), .val (.int cc3), .val (.ref b1), .val (.ref b10), .val (.int (3 : Int32)), .val (.int (2 : Int32)), .val (.int ((p3 &&& (2147483647 : Int32)) % cc3)), .val (.int ((p4 &&& (2147483647 : Int32)) % cc2)), .unset, .unset, .unset, .unset, .unset] [(.int (2 : Int32)), (.int (3 : Int32))])) rfl (by rw [hml]; rfl) (argsL := [(.int (3 : Int32)), (.int (2 : Int32))]) (rest := []) (lenOf pd_2 rfl) rfl (by show 2 * 0 + _ ≤ _; exact Nat.le_of_eq rfl) (dd at_120) (fun _ _ => ⟨rfl, rfl, (by decide : 11 + 0 ≤ _), (by decide : 52 + 0 ≤ _)⟩)
      dsimp only [Pt.U, Pt.locs, Pt.cells, Pt.slots, Q_rm4] at X96 l96 y96 z96 st96 hQ96
      subst l96 y96 z96
      rw [show (fMin (3 : Int32) (2 : Int32)) = (2 : Int32) from (by unfold fMin; rw [if_pos (by decide : (2 : Int32) < (3 : Int32))]; try decide)] at hQ96
      obtain ⟨rfl, N96q, e96⟩ := hQ96
      have N96 := Fr.app N11 N96q
      refine Gz.st st96 ?_
      refine Gz.istore 125 #[.val (.int p0), .val (.int p1), .val (.int p2), .val (.int p3), .val (.int p4), .val (.int cc0), .val (.int cc1), .val (.int cc2), .val (.int cc3), .val (.ref b1), .val (.ref b10), .val (.int (3 : Int32)), .val (.int (2 : Int32)), .val (.int ((p3 &&& (2147483647 : Int32)) % cc3)), .val (.int ((p4 &&& (2147483647 : Int32)) % cc2)), .val (.int (2 : Int32)), .unset, .unset, .unset, .unset] X96 hx (dd at_123) rfl rfl ?_
      refine Gz.iload 127 X96 hx (dd at_125) rfl rfl ?_
      refine Gz.iload 129 X96 hx (dd at_127) rfl rfl ?_
      obtain ⟨_, _, ⟨T97, L97, k97, n97⟩, -, X97, ⟨Lc97, hQ97, l97, y97, z97⟩, st97⟩ := Jvm.LawKit.callS X96 hx (y := (⟨"java/lang/Math", "max", "(II)I"⟩ : MethodName)) hown (mvT hZ (ww hw 42 rfl)) (mvT hZ (ww hw 43 rfl)) (mvT hZ (ww hw 40 rfl)) (mvT hZ (ww hw 44 rfl)) (by decide) (backOf (W := 0) (rm5 l Z av0 hw [] (3 : Int32) (2 : Int32)  T11.heap n0 SZ11 ) hZ (ww hw 44 rfl) (ww hw 40 rfl) (by decide) (by decide)) (g := (mkF m 129 #[.val (.int p0), .val (.int p1), .val (.int p2), .val (.int p3), .val (.int p4), .val (.int cc0), .val (.int cc1), .val (.int cc2), .val (.int cc3), .val (.ref b1), .val (.ref b10), .val (.int (3 : Int32)), .val (.int (2 : Int32)), .val (.int ((p3 &&& (2147483647 : Int32)) % cc3)), .val (.int ((p4 &&& (2147483647 : Int32)) % cc2)), .val (.int (2 : Int32)), .unset, .unset, .unset, .unset] [(.int (2 : Int32)), (.int (3 : Int32))])) rfl (by rw [hml]; rfl) (argsL := [(.int (3 : Int32)), (.int (2 : Int32))]) (rest := []) (lenOf pd_2 rfl) rfl (by show 2 * 0 + _ ≤ _; exact Nat.le_of_eq rfl) (dd at_129) (fun _ _ => ⟨rfl, e96, (by decide : 11 + 0 ≤ _), (by decide : 52 + 0 ≤ _)⟩)
      dsimp only [Pt.U, Pt.locs, Pt.cells, Pt.slots, Q_rm5] at X97 l97 y97 z97 st97 hQ97
      subst l97 y97 z97
      rw [show (fMax (3 : Int32) (2 : Int32)) = (3 : Int32) from (by unfold fMax; rw [if_neg (by decide : ¬ ((3 : Int32) < (2 : Int32)))]; try decide)] at hQ97
      obtain ⟨rfl, N97q, e97⟩ := hQ97
      have N97 := Fr.app N96 N97q
      refine Gz.st st97 ?_
      refine Gz.istore 134 #[.val (.int p0), .val (.int p1), .val (.int p2), .val (.int p3), .val (.int p4), .val (.int cc0), .val (.int cc1), .val (.int cc2), .val (.int cc3), .val (.ref b1), .val (.ref b10), .val (.int (3 : Int32)), .val (.int (2 : Int32)), .val (.int ((p3 &&& (2147483647 : Int32)) % cc3)), .val (.int ((p4 &&& (2147483647 : Int32)) % cc2)), .val (.int (2 : Int32)), .val (.int (3 : Int32)), .unset, .unset, .unset] X97 hx (dd at_132) rfl rfl ?_
      refine Gz.iload 136 X97 hx (dd at_134) rfl rfl ?_
      refine Gz.iload 138 X97 hx (dd at_136) rfl rfl ?_
      refine Gz.icmpYes 152 X97 hx (dd at_138) (feq (by decide : ¬ ((2 : Int32) = (3 : Int32)))).2 (by decide) (by decide) ?_
      refine Gz.iload 154 X97 hx (dd at_152) rfl rfl ?_
      refine Gz.istore 156 #[.val (.int p0), .val (.int p1), .val (.int p2), .val (.int p3), .val (.int p4), .val (.int cc0), .val (.int cc1), .val (.int cc2), .val (.int cc3), .val (.ref b1), .val (.ref b10), .val (.int (3 : Int32)), .val (.int (2 : Int32)), .val (.int ((p3 &&& (2147483647 : Int32)) % cc3)), .val (.int ((p4 &&& (2147483647 : Int32)) % cc2)), .val (.int (2 : Int32)), .val (.int (3 : Int32)), .val (.int ((p4 &&& (2147483647 : Int32)) % cc2)), .unset, .unset] X97 hx (dd at_154) rfl rfl ?_
      refine Gz.iload 158 X97 hx (dd at_156) rfl rfl ?_
      refine Gz.istore 160 #[.val (.int p0), .val (.int p1), .val (.int p2), .val (.int p3), .val (.int p4), .val (.int cc0), .val (.int cc1), .val (.int cc2), .val (.int cc3), .val (.ref b1), .val (.ref b10), .val (.int (3 : Int32)), .val (.int (2 : Int32)), .val (.int ((p3 &&& (2147483647 : Int32)) % cc3)), .val (.int ((p4 &&& (2147483647 : Int32)) % cc2)), .val (.int (2 : Int32)), .val (.int (3 : Int32)), .val (.int ((p4 &&& (2147483647 : Int32)) % cc2)), .val (.int ((p3 &&& (2147483647 : Int32)) % cc3)), .unset] X97 hx (dd at_158) rfl rfl ?_
      refine Gz.iload 162 X97 hx (dd at_160) rfl rfl ?_
      refine Gz.iload 164 X97 hx (dd at_162) rfl rfl ?_
      refine Gz.iload 166 X97 hx (dd at_164) rfl rfl ?_
      refine Gz.iload 168 X97 hx (dd at_166) rfl rfl ?_
      refine Gz.iload 170 X97 hx (dd at_168) rfl rfl ?_
      refine Gz.iload 172 X97 hx (dd at_170) rfl rfl ?_
      obtain ⟨_, _, ⟨T98, L98, k98, n98⟩, -, X98, ⟨Lc98, hQ98, l98, y98, z98⟩, st98⟩ := Jvm.LawKit.callS X97 hx (y := (⟨"com/example/minsuite/minsuite/ValuePairsIndexPinLaw", "start", "(IIIIII)I"⟩ : MethodName)) hown (mvT hZ (ww hw 45 rfl)) (mvT hZ (ww hw 46 rfl)) (mvT hZ (ww hw 47 rfl)) (mvT hZ (ww hw 48 rfl)) (by decide) (backOf (W := 0) (rm6 l Z av0 hw [] (2 : Int32) (3 : Int32) cc0 cc1 cc2 cc3  T11.heap n0 SZ11 ) hZ (ww hw 48 rfl) (ww hw 47 rfl) (by decide) (by decide)) (g := (mkF m 172 #[.val (.int p0), .val (.int p1), .val (.int p2), .val (.int p3), .val (.int p4), .val (.int cc0), .val (.int cc1), .val (.int cc2), .val (.int cc3), .val (.ref b1), .val (.ref b10), .val (.int (3 : Int32)), .val (.int (2 : Int32)), .val (.int ((p3 &&& (2147483647 : Int32)) % cc3)), .val (.int ((p4 &&& (2147483647 : Int32)) % cc2)), .val (.int (2 : Int32)), .val (.int (3 : Int32)), .val (.int ((p4 &&& (2147483647 : Int32)) % cc2)), .val (.int ((p3 &&& (2147483647 : Int32)) % cc3)), .unset] [(.int cc3), (.int cc2), (.int cc1), (.int cc0), (.int (3 : Int32)), (.int (2 : Int32))])) rfl (by rw [hml]; rfl) (argsL := [(.int (2 : Int32)), (.int (3 : Int32)), (.int cc0), (.int cc1), (.int cc2), (.int cc3)]) (rest := []) (lenOf pd_3 rfl) rfl (by show 2 * 0 + _ ≤ _; exact Nat.le_of_eq rfl) (dd at_172) (fun _ _ => ⟨rfl, e97, (by decide : 11 + 0 ≤ _), (by decide : 52 + 0 ≤ _)⟩)
      dsimp only [Pt.U, Pt.locs, Pt.cells, Pt.slots, Q_rm6] at X98 l98 y98 z98 st98 hQ98
      subst l98 y98 z98
      rw [show (fSt (2 : Int32) (3 : Int32) cc0 cc1 cc2 cc3) = (((((cc0 * cc1) + (cc0 * cc2)) + (cc0 * cc3)) + (cc1 * cc2)) + (cc1 * cc3)) from (by unfold fSt; rw [if_neg (by decide : ¬ ((2 : Int32) = (0 : Int32))), if_neg (by decide : ¬ ((2 : Int32) = (1 : Int32)))]; try decide)] at hQ98
      obtain ⟨rfl, N98q, e98⟩ := hQ98
      have N98 := Fr.app N97 N98q
      refine Gz.st st98 ?_
      refine Gz.iload 177 X98 hx (dd at_175) rfl rfl ?_
      refine Gz.aload 179 X98 hx (dd at_177) rfl rfl rfl ?_
      refine Gz.iload 181 X98 hx (dd at_179) rfl rfl ?_
      obtain ⟨c99, A99, q99, S99, N99, H99, G99⟩ := id f11_Vb1
      have hin99 : ¬ ((3 : Int32) < 0 ∨ c99.slots.size ≤ ((3 : Int32)).toNatClampNeg) := inb_of S99 ⟨by decide, by decide⟩
      refine Gz.ldI 182 X98 hx hZ (dd at_181) e98 A99 hin99 (Has.at H99 hin99 (rfl : _ = ((.int cc3) : Value))) rfl ?_
      refine Gz.imul 183 X98 hx (dd at_182) rfl ?_
      refine Gz.iadd 184 X98 hx (dd at_183) rfl ?_
      refine Gz.iload 186 X98 hx (dd at_184) rfl rfl ?_
      refine Gz.iadd 187 X98 hx (dd at_186) rfl ?_
      refine Gz.istore 189 #[.val (.int p0), .val (.int p1), .val (.int p2), .val (.int p3), .val (.int p4), .val (.int cc0), .val (.int cc1), .val (.int cc2), .val (.int cc3), .val (.ref b1), .val (.ref b10), .val (.int (3 : Int32)), .val (.int (2 : Int32)), .val (.int ((p3 &&& (2147483647 : Int32)) % cc3)), .val (.int ((p4 &&& (2147483647 : Int32)) % cc2)), .val (.int (2 : Int32)), .val (.int (3 : Int32)), .val (.int ((p4 &&& (2147483647 : Int32)) % cc2)), .val (.int ((p3 &&& (2147483647 : Int32)) % cc3)), .val (.int (((((((cc0 * cc1) + (cc0 * cc2)) + (cc0 * cc3)) + (cc1 * cc2)) + (cc1 * cc3)) + (((p4 &&& (2147483647 : Int32)) % cc2) * cc3)) + ((p3 &&& (2147483647 : Int32)) % cc3)))] X98 hx (dd at_187) rfl rfl ?_
      refine Gz.aload 191 X98 hx (dd at_189) rfl rfl rfl ?_
      refine Gz.iload 193 X98 hx (dd at_191) rfl rfl ?_
      refine Gz.iload 195 X98 hx (dd at_193) rfl rfl ?_
      refine Gz.iload 197 X98 hx (dd at_195) rfl rfl ?_
      refine Gz.iload 199 X98 hx (dd at_197) rfl rfl ?_
      obtain ⟨cq100, kq100, q100a, q100b, q100c⟩ := isOf hZ e98 QE11
      obtain ⟨_, _, ⟨T100, L100, k100, n100⟩, -, X100, ⟨Lc100, hQ100, l100, y100, z100⟩, st100⟩ := X98.virtualBack hx (y := (⟨"com/example/minsuite/minsuite/ValuePairs", "index", "(IIII)I"⟩ : MethodName)) (z := (⟨"com/example/minsuite/minsuite/ValuePairs", "index", "(IIII)I"⟩ : MethodName)) hown (mvT hZ (ww hw 49 rfl)) (mvT hZ (ww hw 50 rfl)) (notFace_of_selects (args := #[]) (mvT hZ (ww hw 52 rfl))) (mvT hZ (ww hw 52 rfl)) (mvT hZ (ww hw 51 rfl)) (by decide) (backOf (W := 0) (rmX32 l Z av0 hw [] b10 ((p3 &&& (2147483647 : Int32)) % cc3) ((p4 &&& (2147483647 : Int32)) % cc2) so11 ks11 r0_11 r1_11 r2_11 r3_11 kr11 (0 : Int32) (0 : Int32) (0 : Int32) ((((((0 : Int32) + (cc0 * cc1)) + (cc0 * cc2)) + (cc0 * cc3)) + (cc1 * cc2)) + (cc1 * cc3)) ac11 kc11 cc0 cc1 cc2 cc3 T11.heap n0 SZ11 QG11 QS11 QR2_11 QF11 QA11) hZ (ww hw 53 rfl) (ww hw 3 rfl) (by decide) (by decide)) q100a q100c (g := (mkF m 199 #[.val (.int p0), .val (.int p1), .val (.int p2), .val (.int p3), .val (.int p4), .val (.int cc0), .val (.int cc1), .val (.int cc2), .val (.int cc3), .val (.ref b1), .val (.ref b10), .val (.int (3 : Int32)), .val (.int (2 : Int32)), .val (.int ((p3 &&& (2147483647 : Int32)) % cc3)), .val (.int ((p4 &&& (2147483647 : Int32)) % cc2)), .val (.int (2 : Int32)), .val (.int (3 : Int32)), .val (.int ((p4 &&& (2147483647 : Int32)) % cc2)), .val (.int ((p3 &&& (2147483647 : Int32)) % cc3)), .val (.int (((((((cc0 * cc1) + (cc0 * cc2)) + (cc0 * cc3)) + (cc1 * cc2)) + (cc1 * cc3)) + (((p4 &&& (2147483647 : Int32)) % cc2) * cc3)) + ((p3 &&& (2147483647 : Int32)) % cc3)))] [(.int ((p4 &&& (2147483647 : Int32)) % cc2)), (.int (2 : Int32)), (.int ((p3 &&& (2147483647 : Int32)) % cc3)), (.int (3 : Int32)), (.ref b10)])) rfl (by rw [hml]; rfl) (Steps.refl _) (argsL := [(.int (3 : Int32)), (.int ((p3 &&& (2147483647 : Int32)) % cc3)), (.int (2 : Int32)), (.int ((p4 &&& (2147483647 : Int32)) % cc2))]) (rest := []) (lenOf pd_4 rfl) rfl (by show 2 * 0 + _ ≤ _; exact Nat.le_of_eq rfl) (dd at_199) (fun _ _ => ⟨rfl, e98, (by decide : 11 + 0 ≤ _), (by decide : 52 + 0 ≤ _)⟩)
      dsimp only [Pt.U, Pt.locs, Pt.cells, Pt.slots, Q_rmX32] at X100 l100 y100 z100 st100 hQ100
      subst l100 y100 z100
      rw [show (fX32 b10 ((p3 &&& (2147483647 : Int32)) % cc3) ((p4 &&& (2147483647 : Int32)) % cc2) so11 r0_11 r1_11 r2_11 r3_11 (0 : Int32) (0 : Int32) (0 : Int32) ((((((0 : Int32) + (cc0 * cc1)) + (cc0 * cc2)) + (cc0 * cc3)) + (cc1 * cc2)) + (cc1 * cc3)) ac11 cc0 cc1 cc2 cc3) = ((((((((0 : Int32) + (cc0 * cc1)) + (cc0 * cc2)) + (cc0 * cc3)) + (cc1 * cc2)) + (cc1 * cc3)) + (((p4 &&& (2147483647 : Int32)) % cc2) * cc3)) + ((p3 &&& (2147483647 : Int32)) % cc3)) from (by unfold fX32; rfl)] at hQ100
      obtain ⟨rfl, N100q, e100⟩ := hQ100
      have N100 := Fr.app N98 N100q
      refine Gz.tr st100 ?_
      refine Gz.iload 204 X100 hx (dd at_202) rfl rfl ?_
      refine Gz.icmpNo 207 X100 hx (dd at_204) (teq ((by simp only [Int32.zero_add]) : ((((((((0 : Int32) + (cc0 * cc1)) + (cc0 * cc2)) + (cc0 * cc3)) + (cc1 * cc2)) + (cc1 * cc3)) + (((p4 &&& (2147483647 : Int32)) % cc2) * cc3)) + ((p3 &&& (2147483647 : Int32)) % cc3)) = (((((((cc0 * cc1) + (cc0 * cc2)) + (cc0 * cc3)) + (cc1 * cc2)) + (cc1 * cc3)) + (((p4 &&& (2147483647 : Int32)) % cc2) * cc3)) + ((p3 &&& (2147483647 : Int32)) % cc3)))).2 rfl ?_
      refine Gz.iconst 208 (1 : Int32) X100 hx (dd at_207) rfl rfl ?_
      refine Gz.goto 212 X100 hx (dd at_208) (by decide) (by decide) ?_
      refine Gz.fin X100 (v := some (.int (1 : Int32))) (fun h => by rw [hret] at h; cases h) hlk (by decide) (by decide) (fun fs hr => retN X100 hx (t := .boolean) hret (by simp) (dd at_212) hr) ?_
      exact ⟨rfl, N100⟩
set_option maxRecDepth 65536 in
set_option maxHeartbeats 40000000 in
theorem comes_1 {Post : Tables → Env → Array Value → State → Outcome → State → Prop} (hpost : ∀ tb e args s v u, (limb_1_1.after args s (.returned v) u = true ∧ limb_1_2.after args s (.returned v) u = true ∧ True) → FrameEnd s (.returned v) u (Jvm.fieldLocs frame_1_writes args s ++ Jvm.arrayLocs frame_1_arrays args s ++ Jvm.staticLocs frame_1_statics s) 32 192 → Post tb e args s (.returned v) u) :
    ArmFor flags0 classFile x code maxLocals ret World_1 tables_1 room_1 Calls_1 rest_1 Pre_1 Post := by
  intro l hfl _ _ p e ha hc hk s m args below hf hA hF happ hP
  obtain ⟨hcalls, hrest, hpre⟩ := hP
  obtain ⟨-, -, -, hnamed, -, -, -, hat⟩ := (Spec.applies_iff hf).mp happ
  obtain ⟨hg, hn⟩ := and_e (Cond.before_iff.mp (show (Jvm.Cond.and given_1 narrow_1).before args s = true from hpre))
  obtain ⟨hcnt, hg0⟩ := and_e hg
  obtain ⟨ha0, hg1⟩ := and_e hg0
  obtain ⟨ha1, hg2⟩ := and_e hg1
  obtain ⟨ha2, hg3⟩ := and_e hg2
  obtain ⟨ha3, hg4⟩ := and_e hg3
  have ha4 := hg4
  obtain ⟨w0, w1, w2, w3, w4, rfl⟩ : ∃ w0 w1 w2 w3 w4 : Value, args = #[w0, w1, w2, w3, w4] := by
    have hs : args.size = 5 := by simpa [Cond.value, given_1] using hcnt
    obtain ⟨L⟩ := args
    match L, hs with
    | [w0, w1, w2, w3, w4], _ => exact ⟨w0, w1, w2, w3, w4, rfl⟩
  have hw := fun d (hd : d ∈ tables_1) => atoms_spec (ws := Jvm.Cond.code x code maxLocals ret :: tables_1) hat d (List.mem_cons_of_mem _ hd)
  have hfit : Fit s := fun {y c} hc i hi => by
    obtain ⟨ha, rfl⟩ := Array.getElem?_eq_some_iff.mp hc
    have q := List.all_eq_true.mp ((Array.all_eq_true_iff_forall_mem.mp hF) _ (Array.getElem_mem ha)) i (List.mem_range.mpr hi)
    simpa [Array.getElem?_eq_getElem hi] using q
  obtain ⟨i0, ei0⟩ := is_v ha0
  obtain rfl : w0 = (.int i0) := Option.some.inj ei0
  obtain ⟨i1, ei1⟩ := is_v ha1
  obtain rfl : w1 = (.int i1) := Option.some.inj ei1
  obtain ⟨i2, ei2⟩ := is_v ha2
  obtain rfl : w2 = (.int i2) := Option.some.inj ei2
  obtain ⟨i3, ei3⟩ := is_v ha3
  obtain rfl : w3 = (.int i3) := Option.some.inj ei3
  obtain ⟨i4, ei4⟩ := is_v ha4
  obtain rfl : w4 = (.int i4) := Option.some.inj ei4
  obtain ⟨n, o, h1, h2, h3, _, L, rfl, ⟨rfl, N⟩, hq⟩ := rm0 l s _ hw tables_1 i0 i1 i2 i3 i4  s.heap s.heap.size (Nat.le_refl _)  p e ha hc hk s m _ below hf ((Spec.applies_iff_loose hf).mp happ).1 ⟨rfl, State.Warmed39.refl s, rfl⟩ trivial
  refine ⟨n, _, h1, h2, h3, hpost _ _ _ _ _ _ ⟨Cond.after_iff.mpr rfl, Cond.after_iff.mpr (eq_i res_at (Term.int_eval (1)) rfl), trivial⟩ ⟨hq.1, hq.2.1, (hq.2.2.sift fun y hy => Or.inr (N y hy)).mono (by decide) (by decide)⟩⟩
theorem main_1_1 : Claimed_1_1 := comes_1 fun _ _ _ _ _ _ h hF => ⟨h.1, hF⟩
theorem main_1_2 : Claimed_1_2 := comes_1 fun _ _ _ _ _ _ h hF => ⟨h.2.1, hF⟩
end Jvm.Pilot.@@N@@
namespace Jvm.Pilot.@@N@@
open Jvm Jvm.ClassFile Sem Op Lib Jvm.Free Jvm.Stand Jvm.Pilot.@@N@@.Jvm.D
/-! MADE BY PROGRAM (witnessworld.py) out of the Statement's table words and the real class files: 10 classes; the members and pool entries that the words name. The judged class is class 1, her method 2. -/
namespace start1
open Jvm.ClassFile
def u (s : String) : CpInfo := .utf8 (stringToUtf16 s)
/-- a pool by its gaps: so many unusable entries, then the entry; so many at the end -/
def gap : Nat → List CpInfo → List CpInfo
  | 0, r => r
  | n + 1, r => .unusable :: gap n r
def poolList (es : List (Nat × CpInfo)) (last : Nat) : List CpInfo := es.foldr (fun e r => gap e.1 (e.2 :: r)) (gap last [])
def pool (es : List (Nat × CpInfo)) (last : Nat) : Array CpInfo := ⟨poolList es last⟩
def fileOf (pool : Array CpInfo) (this : Nat) (attrs : Array Attribute := #[]) (ms : Array MethodInfo := #[]) (fl : Nat := 33) (sup : Nat := 0) (ifs : Array Nat := #[]) (fds : Array FieldInfo := #[]) : ClassFile where
  minorVersion := 0
  majorVersion := 65
  constantPool := pool
  accessFlags := fl
  thisClass := this
  superClass := sup
  interfaces := ifs
  fields := fds
  methods := ms
  attributes := attrs
def plain (name : String) (sup : Option ClassId) : Class where
  name := name
  kind := .ordinary
  loader := none
  accessFlags := 33
  super := sup
  interfaces := #[]
  cf := none
  fields := #[]
  methods := #[]
  instanceTypes := #[]
  staticTypes := #[]
  resolved := #[]
  callSites := []
  init := .initialized
  statics := none
  mirror := none

def pool0 : Array CpInfo := pool [(5, u "<init>"), (0, u "()V"), (1, .class_ 10), (1, u "java/lang/Object"), (85, u "clone"), (0, u "()Ljava/lang/Object;")] 26

def k0c0 : Code := { maxStack := 0, maxLocals := 1, code := object_method_1_code, exceptionTable := #[], attributes := #[] }
def k0m0 : Method := { name := "<init>", desc := "()V", sig := { parameters := [], returnType := none }, accessFlags := 1, code := some k0c0 }
def k0m1 : Method := { name := "clone", desc := "()Ljava/lang/Object;", sig := { parameters := [], returnType := some (.object "java/lang/Object") }, accessFlags := 260, code := none }
/-- java/lang/Object -/
def k0 : Class := { plain "java/lang/Object" none with
  accessFlags := 33
  interfaces := #[]
  cf := some (fileOf pool0 8 #[] #[{ accessFlags := 1, nameIndex := 5, descriptorIndex := 6, attributes := #[] }, { accessFlags := 260, nameIndex := 96, descriptorIndex := 97, attributes := #[] }] 33 0 #[] #[])
  fields := #[]
  methods := #[k0m0, k0m1]
  instanceTypes := #[]
  staticTypes := #[]
  resolved := Array.replicate 124 none
  statics := none }

def pool1 : Array CpInfo := pool [(2, .class_ 4), (1, u "java/lang/Object"), (0, u "<init>"), (0, u "()V"), (0, .class_ 8), (0, u "com/example/minsuite/minsuite/ValuePairs"), (0, .methodref 7 10), (0, .nameAndType 5 11), (0, u "([I)V"), (0, .integer 2147483647), (0, .methodref 14 15), (0, .class_ 16), (0, .nameAndType 17 18), (0, u "java/lang/Math"), (0, u "min"), (0, u "(II)I"), (0, .methodref 14 20), (0, .nameAndType 21 18), (0, u "max"), (0, .methodref 23 24), (0, .class_ 25), (0, .nameAndType 26 27), (0, u "com/example/minsuite/minsuite/ValuePairsIndexPinLaw"), (0, u "start"), (0, u "(IIIIII)I"), (0, .methodref 7 29), (0, .nameAndType 30 31), (0, u "index"), (0, u "(IIII)I"), (3, u "law"), (0, u "(IIIII)Z")] 4

def k1m0 : Method := { name := "<init>", desc := "()V", sig := { parameters := [], returnType := none }, accessFlags := 1, code := none }
def k1c1 : Code := { maxStack := 3, maxLocals := 12, code := method_2_code, exceptionTable := #[], attributes := #[] }
def k1m1 : Method := { name := "start", desc := "(IIIIII)I", sig := { parameters := [.int, .int, .int, .int, .int, .int], returnType := some .int }, accessFlags := 10, code := some k1c1 }
def k1c2 : Code := { maxStack := 6, maxLocals := 20, code := code, exceptionTable := #[], attributes := #[] }
def k1m2 : Method := { name := "law", desc := "(IIIII)Z", sig := { parameters := [.int, .int, .int, .int, .int], returnType := some .boolean }, accessFlags := 9, code := some k1c2 }
/-- com/example/minsuite/minsuite/ValuePairsIndexPinLaw -/
def k1 : Class := { plain "com/example/minsuite/minsuite/ValuePairsIndexPinLaw" (some 0) with
  accessFlags := 49
  interfaces := #[]
  cf := some (fileOf pool1 23 #[] #[{ accessFlags := 1, nameIndex := 5, descriptorIndex := 6, attributes := #[] }, { accessFlags := 10, nameIndex := 26, descriptorIndex := 27, attributes := #[] }, { accessFlags := 9, nameIndex := 35, descriptorIndex := 36, attributes := #[] }] 49 2 #[] #[])
  fields := #[]
  methods := #[k1m0, k1m1, k1m2]
  instanceTypes := #[]
  staticTypes := #[]
  resolved := Array.replicate 41 none
  statics := none }

def pool2 : Array CpInfo := pool [(3, .methodref 4 5), (0, .class_ 6), (0, .nameAndType 7 8), (0, u "java/lang/Object"), (0, u "<init>"), (0, u "()V"), (0, .methodref 10 11), (0, .class_ 12), (0, .nameAndType 13 14), (0, u "com/example/minsuite/minsuite/ValuePairs"), (0, u "count"), (0, u "([I)J"), (0, .long 2147483639), (10, .methodref 27 28), (0, .class_ 29), (0, .nameAndType 30 31), (0, u "[I"), (0, u "clone"), (0, u "()Ljava/lang/Object;"), (0, .fieldref 10 33), (0, .nameAndType 34 29), (0, u "valueCounts"), (0, .class_ 36), (0, u "[[I"), (0, .fieldref 10 38), (0, .nameAndType 39 36), (0, u "start"), (0, .fieldref 10 41), (0, .nameAndType 42 29), (0, u "firstOf"), (0, .fieldref 10 44), (0, .nameAndType 45 29), (0, u "secondOf"), (0, .fieldref 10 47), (0, .nameAndType 48 29), (0, u "startOf"), (0, .fieldref 10 50), (0, .nameAndType 13 51), (0, u "I"), (5, u "([I)V"), (21, u "index"), (0, u "(IIII)I"), (4, u "MAX_COUNT"), (0, u "J")] 36

def k2c0 : Code := { maxStack := 4, maxLocals := 10, code := prog_43_method_1_code, exceptionTable := #[], attributes := #[] }
def k2m0 : Method := { name := "<init>", desc := "([I)V", sig := { parameters := [(.array .int)], returnType := none }, accessFlags := 0, code := some k2c0 }
def k2c1 : Code := { maxStack := 6, maxLocals := 9, code := prog_43_method_2_code, exceptionTable := #[], attributes := #[] }
def k2m1 : Method := { name := "count", desc := "([I)J", sig := { parameters := [(.array .int)], returnType := some .long }, accessFlags := 8, code := some k2c1 }
def k2c2 : Code := { maxStack := 4, maxLocals := 5, code := prog_43_method_8_code, exceptionTable := #[], attributes := #[] }
def k2m2 : Method := { name := "index", desc := "(IIII)I", sig := { parameters := [.int, .int, .int, .int], returnType := some .int }, accessFlags := 0, code := some k2c2 }
/-- com/example/minsuite/minsuite/ValuePairs -/
def k2 : Class := { plain "com/example/minsuite/minsuite/ValuePairs" (some 0) with
  accessFlags := 48
  interfaces := #[]
  cf := some (fileOf pool2 10 #[] #[{ accessFlags := 0, nameIndex := 7, descriptorIndex := 57, attributes := #[] }, { accessFlags := 8, nameIndex := 13, descriptorIndex := 14, attributes := #[] }, { accessFlags := 0, nameIndex := 79, descriptorIndex := 80, attributes := #[] }] 48 4 #[] #[{ accessFlags := 24, nameIndex := 85, descriptorIndex := 86, attributes := #[] }, { accessFlags := 18, nameIndex := 34, descriptorIndex := 29, attributes := #[] }, { accessFlags := 18, nameIndex := 13, descriptorIndex := 51, attributes := #[] }, { accessFlags := 18, nameIndex := 39, descriptorIndex := 36, attributes := #[] }, { accessFlags := 18, nameIndex := 42, descriptorIndex := 29, attributes := #[] }, { accessFlags := 18, nameIndex := 45, descriptorIndex := 29, attributes := #[] }, { accessFlags := 18, nameIndex := 48, descriptorIndex := 29, attributes := #[] }])
  fields := #[{ name := "MAX_COUNT", type := .long, accessFlags := 24, slot := 0, constantValue := 0 }, { name := "valueCounts", type := (.array .int), accessFlags := 18, slot := 0, constantValue := 0 }, { name := "count", type := .int, accessFlags := 18, slot := 1, constantValue := 0 }, { name := "start", type := (.array (.array .int)), accessFlags := 18, slot := 2, constantValue := 0 }, { name := "firstOf", type := (.array .int), accessFlags := 18, slot := 3, constantValue := 0 }, { name := "secondOf", type := (.array .int), accessFlags := 18, slot := 4, constantValue := 0 }, { name := "startOf", type := (.array .int), accessFlags := 18, slot := 5, constantValue := 0 }]
  methods := #[k2m0, k2m1, k2m2]
  instanceTypes := #[(.array .int), .int, (.array (.array .int)), (.array .int), (.array .int), (.array .int)]
  staticTypes := #[.long]
  resolved := Array.replicate 123 none
  statics := none }

def pool3 : Array CpInfo := pool [(1, .class_ 2), (0, u "java/lang/Cloneable"), (0, .class_ 4), (0, u "java/lang/Object")] 2

/-- java/lang/Cloneable -/
def k3 : Class := { plain "java/lang/Cloneable" (some 0) with
  accessFlags := 1537
  interfaces := #[]
  cf := some (fileOf pool3 1 #[] #[] 1537 3 #[] #[])
  fields := #[]
  methods := #[]
  instanceTypes := #[]
  staticTypes := #[]
  resolved := Array.replicate 7 none
  statics := none }

def pool4 : Array CpInfo := pool [(1, .class_ 2), (0, u "java/lang/Math"), (1, .class_ 6), (1, u "java/lang/Object"), (0, u "<init>"), (0, u "()V"), (89, .class_ 100), (1, u "java/lang/Math$RandomNumberGeneratorHolder"), (71, u "negativeZeroFloatBits"), (0, u "J"), (2, u "negativeZeroDoubleBits"), (21, u "max"), (2, u "min"), (43, u "$assertionsDisabled"), (0, u "Z"), (88, u "(II)I"), (2, u "twoToTheDoubleScaleDown"), (0, u "D"), (4, u "twoToTheDoubleScaleUp"), (9, u "E"), (3, u "PI"), (2, u "TAU"), (2, u "DEGREES_TO_RADIANS"), (0, u "RADIANS_TO_DEGREES")] 94

def k4m0 : Method := { name := "<init>", desc := "()V", sig := { parameters := [], returnType := none }, accessFlags := 2, code := none }
def k4c1 : Code := { maxStack := 2, maxLocals := 2, code := jdk_29_method_65_code, exceptionTable := #[], attributes := #[] }
def k4m1 : Method := { name := "max", desc := "(II)I", sig := { parameters := [.int, .int], returnType := some .int }, accessFlags := 9, code := some k4c1 }
def k4c2 : Code := { maxStack := 2, maxLocals := 2, code := jdk_29_method_69_code, exceptionTable := #[], attributes := #[] }
def k4m2 : Method := { name := "min", desc := "(II)I", sig := { parameters := [.int, .int], returnType := some .int }, accessFlags := 9, code := some k4c2 }
/-- java/lang/Math -/
def k4 : Class := { plain "java/lang/Math" (some 0) with
  accessFlags := 49
  interfaces := #[]
  cf := some (fileOf pool4 1 #[.nestMembers #[98]] #[{ accessFlags := 2, nameIndex := 7, descriptorIndex := 8, attributes := #[] }, { accessFlags := 9, nameIndex := 198, descriptorIndex := 335, attributes := #[] }, { accessFlags := 9, nameIndex := 201, descriptorIndex := 335, attributes := #[] }] 49 4 #[] #[{ accessFlags := 25, nameIndex := 354, descriptorIndex := 339, attributes := #[] }, { accessFlags := 25, nameIndex := 358, descriptorIndex := 339, attributes := #[] }, { accessFlags := 25, nameIndex := 361, descriptorIndex := 339, attributes := #[] }, { accessFlags := 26, nameIndex := 364, descriptorIndex := 339, attributes := #[] }, { accessFlags := 26, nameIndex := 365, descriptorIndex := 339, attributes := #[] }, { accessFlags := 26, nameIndex := 172, descriptorIndex := 173, attributes := #[] }, { accessFlags := 26, nameIndex := 176, descriptorIndex := 173, attributes := #[] }, { accessFlags := 8, nameIndex := 344, descriptorIndex := 339, attributes := #[] }, { accessFlags := 8, nameIndex := 338, descriptorIndex := 339, attributes := #[] }, { accessFlags := 4120, nameIndex := 245, descriptorIndex := 246, attributes := #[] }])
  fields := #[{ name := "E", type := .double, accessFlags := 25, slot := 0, constantValue := 0 }, { name := "PI", type := .double, accessFlags := 25, slot := 1, constantValue := 0 }, { name := "TAU", type := .double, accessFlags := 25, slot := 2, constantValue := 0 }, { name := "DEGREES_TO_RADIANS", type := .double, accessFlags := 26, slot := 3, constantValue := 0 }, { name := "RADIANS_TO_DEGREES", type := .double, accessFlags := 26, slot := 4, constantValue := 0 }, { name := "negativeZeroFloatBits", type := .long, accessFlags := 26, slot := 5, constantValue := 0 }, { name := "negativeZeroDoubleBits", type := .long, accessFlags := 26, slot := 6, constantValue := 0 }, { name := "twoToTheDoubleScaleUp", type := .double, accessFlags := 8, slot := 7, constantValue := 0 }, { name := "twoToTheDoubleScaleDown", type := .double, accessFlags := 8, slot := 8, constantValue := 0 }, { name := "$assertionsDisabled", type := .boolean, accessFlags := 4120, slot := 9, constantValue := 0 }]
  methods := #[k4m0, k4m1, k4m2]
  instanceTypes := #[]
  staticTypes := #[.double, .double, .double, .double, .double, .long, .long, .double, .double, .boolean]
  resolved := Array.replicate 460 none
  statics := none }

def pool5 : Array CpInfo := pool [(1, u "java/io/Serializable"), (0, .class_ 1), (0, u "java/lang/Object"), (0, .class_ 3)] 3

/-- java/io/Serializable -/
def k5 : Class := { plain "java/io/Serializable" (some 0) with
  accessFlags := 1537
  interfaces := #[]
  cf := some (fileOf pool5 2 #[] #[] 1537 4 #[] #[])
  fields := #[]
  methods := #[]
  instanceTypes := #[]
  staticTypes := #[]
  resolved := Array.replicate 8 none
  statics := none }

/-- the primitive byte -/
def k6 : Class := { plain "byte" none with kind := .primitive 'B', accessFlags := 0x411 }
/-- [B -/
def k7 : Class := { plain "[B" (some 0) with kind := .array 6 .byte, interfaces := #[3, 5], accessFlags := 1041 }

/-- the primitive int -/
def k8 : Class := { plain "int" none with kind := .primitive 'I', accessFlags := 0x411 }
/-- [I -/
def k9 : Class := { plain "[I" (some 0) with kind := .array 8 .int, interfaces := #[3, 5], accessFlags := 1041 }

/-- [[I -/
def k10 : Class := { plain "[[I" (some 0) with kind := .array 9 (.array .int), interfaces := #[3, 5], accessFlags := 1041 }

def heap : Heap := #[]
def classes : Array Class := #[k0, k1, k2, k3, k4, k5, k6, k7, k8, k9, k10]
def interned : List (Array UInt16 × Addr) := []
def slotsUsed : Nat := 0
def theMethod : MethodId := ⟨1, 2⟩
def args0 : Array Value := #[.int 1, .int 2, .int 3, .int 4, .int 5]
def aboutOver (below : List Frame) : State where
  vm := { classes := classes, interned := interned.toArray }
  heap := heap
  slotsUsed := slotsUsed
  threads := #[{ frames := .invoking theMethod args0 :: below }]
def below0 : List Frame := [.native { method := ⟨0, 0⟩, args := #[] }]
def about1 : State := aboutOver below0
def p0 : Program := .bare "" "" ""
def e0 : Env := launch0.env 0 0 0
theorem w_frames : about1.frames = Frame.invoking theMethod args0 :: below0 := rfl
set_option maxRecDepth 65536 in
theorem w_args : argsFit about1.vm theMethod args0 = true := by decide +kernel
set_option maxRecDepth 65536 in
theorem w_heap : heapFits about1 = true := by decide +kernel
set_option maxRecDepth 65536 in
theorem w_runnable : about1.curStatus? = some .runnable := by decide +kernel
set_option maxRecDepth 65536 in
theorem w_alone : about1.alone = true := by decide +kernel
set_option maxRecDepth 65536 in
theorem w_named : about1.methodNamed? x = some theMethod := by decide +kernel
set_option maxRecDepth 65536 in
theorem w_hears : about1.hears theMethod below0 = true := by decide +kernel
set_option maxRecDepth 65536 in
theorem w_ripe : about1.ripe theMethod args0 below0 = true := by decide +kernel
theorem w_running : about1.status = .running := rfl
set_option maxRecDepth 65536 in
theorem w_room : about1.hasRoom e0.platform room_1 = true :=
  launch0.hasRoom_least _ room_1 (by decide +kernel) (by decide +kernel) (by decide +kernel) (by decide +kernel) (by decide +kernel) (by decide +kernel)
theorem allAtoms_all (ts : List Jvm.Cond) (a : Array Jvm.Value) (st : Jvm.State) : (allAtoms ts).before a st = ts.all (fun c => c.before a st) := by
  induction ts with
  | nil => rfl
  | cons c t ih =>
    show (Jvm.Cond.and c (allAtoms t)).before a st = _
    rw [Jvm.Cond.before_and, ih, List.all_cons]
def words1 : List Jvm.Cond := Jvm.Cond.code x code maxLocals ret :: tables_1
/-- a 'code' word, met by the world's own term for the bytes: nothing is compared byte by byte -/
theorem code_word {y : MethodName} {bytes : ByteArray} {mx : Nat} {rt : Option FieldType} {a : Array Value} {s : State} {m : MethodId} {meth : Method} {c : Code} (h1 : s.methodNamed? y = some m) (h2 : s.vm.method? m = some meth) (h3 : meth.code = some c) (h4 : c.code = bytes)
    (h5 : (c.maxLocals == mx && c.exceptionTable.isEmpty && decide (c.maxStack ≤ mostOperands) && decide (meth.sig.returnType = rt) && !meth.locks && decide (parseMethodDescriptor y.desc = some meth.sig)) = true) : (Jvm.Cond.code y bytes mx rt).before a s = true := by
  simp only [Bool.and_eq_true, beq_iff_eq, Bool.not_eq_true', decide_eq_true_eq] at h5
  obtain ⟨⟨⟨⟨⟨g1, g2⟩, g3⟩, g4⟩, g5⟩, g6⟩ := h5
  simp [Cond.before, Cond.holds, Cond.value, h1, h2, h3, h4, g1, g2, g3, g4, g5, g6]
def isCode : Jvm.Cond → Bool
  | .code _ _ _ _ => true
  | _ => false
theorem all_split {L : List Jvm.Cond} {P : Jvm.Cond → Bool} (h1 : L.all (fun c => isCode c || P c) = true) (h2 : ∀ c ∈ L.filter isCode, P c = true) : L.all P = true := by
  refine List.all_eq_true.mpr fun c hc => ?_
  have h := List.all_eq_true.mp h1 c hc
  rcases Bool.eq_false_or_eq_true (isCode c) with hi | hi
  · exact h2 c (List.mem_filter.mpr ⟨hc, hi⟩)
  · simpa [hi] using h
set_option maxRecDepth 65536 in
theorem w_c0 : (Jvm.Cond.code x code maxLocals ret).before args0 about1 = true := code_word (m := ⟨1, 2⟩) (meth := k1m2) (c := k1c2) (by decide +kernel) rfl rfl rfl (by decide +kernel)
set_option maxRecDepth 65536 in
theorem w_c1 : (Jvm.Cond.code ({ cls := "com/example/minsuite/minsuite/ValuePairs", name := "<init>", desc := "([I)V" } : Jvm.MethodName) prog_43_method_1_code (10 : Nat) (Option.none : Option Jvm.ClassFile.FieldType)).before args0 about1 = true := code_word (m := ⟨2, 0⟩) (meth := k2m0) (c := k2c0) (by decide +kernel) rfl rfl rfl (by decide +kernel)
set_option maxRecDepth 65536 in
theorem w_c2 : (Jvm.Cond.code ({ cls := "java/lang/Object", name := "<init>", desc := "()V" } : Jvm.MethodName) object_method_1_code (1 : Nat) (Option.none : Option Jvm.ClassFile.FieldType)).before args0 about1 = true := code_word (m := ⟨0, 0⟩) (meth := k0m0) (c := k0c0) (by decide +kernel) rfl rfl rfl (by decide +kernel)
set_option maxRecDepth 65536 in
theorem w_c3 : (Jvm.Cond.code ({ cls := "com/example/minsuite/minsuite/ValuePairs", name := "count", desc := "([I)J" } : Jvm.MethodName) prog_43_method_2_code (9 : Nat) (Option.some Jvm.ClassFile.FieldType.long)).before args0 about1 = true := code_word (m := ⟨2, 1⟩) (meth := k2m1) (c := k2c1) (by decide +kernel) rfl rfl rfl (by decide +kernel)
set_option maxRecDepth 65536 in
theorem w_c4 : (Jvm.Cond.code ({ cls := "java/lang/Math", name := "min", desc := "(II)I" } : Jvm.MethodName) jdk_29_method_69_code (2 : Nat) (Option.some Jvm.ClassFile.FieldType.int)).before args0 about1 = true := code_word (m := ⟨4, 2⟩) (meth := k4m2) (c := k4c2) (by decide +kernel) rfl rfl rfl (by decide +kernel)
set_option maxRecDepth 65536 in
theorem w_c5 : (Jvm.Cond.code ({ cls := "java/lang/Math", name := "max", desc := "(II)I" } : Jvm.MethodName) jdk_29_method_65_code (2 : Nat) (Option.some Jvm.ClassFile.FieldType.int)).before args0 about1 = true := code_word (m := ⟨4, 1⟩) (meth := k4m1) (c := k4c1) (by decide +kernel) rfl rfl rfl (by decide +kernel)
set_option maxRecDepth 65536 in
theorem w_c6 : (Jvm.Cond.code ({ cls := "com/example/minsuite/minsuite/ValuePairsIndexPinLaw", name := "start", desc := "(IIIIII)I" } : Jvm.MethodName) method_2_code (12 : Nat) (Option.some Jvm.ClassFile.FieldType.int)).before args0 about1 = true := code_word (m := ⟨1, 1⟩) (meth := k1m1) (c := k1c1) (by decide +kernel) rfl rfl rfl (by decide +kernel)
set_option maxRecDepth 65536 in
theorem w_c7 : (Jvm.Cond.code ({ cls := "com/example/minsuite/minsuite/ValuePairs", name := "index", desc := "(IIII)I" } : Jvm.MethodName) prog_43_method_8_code (5 : Nat) (Option.some Jvm.ClassFile.FieldType.int)).before args0 about1 = true := code_word (m := ⟨2, 2⟩) (meth := k2m2) (c := k2c2) (by decide +kernel) rfl rfl rfl (by decide +kernel)
def codes1 : List Jvm.Cond := [Jvm.Cond.code x code maxLocals ret, Jvm.Cond.code ({ cls := "com/example/minsuite/minsuite/ValuePairs", name := "<init>", desc := "([I)V" } : Jvm.MethodName) prog_43_method_1_code (10 : Nat) (Option.none : Option Jvm.ClassFile.FieldType), Jvm.Cond.code ({ cls := "java/lang/Object", name := "<init>", desc := "()V" } : Jvm.MethodName) object_method_1_code (1 : Nat) (Option.none : Option Jvm.ClassFile.FieldType), Jvm.Cond.code ({ cls := "com/example/minsuite/minsuite/ValuePairs", name := "count", desc := "([I)J" } : Jvm.MethodName) prog_43_method_2_code (9 : Nat) (Option.some Jvm.ClassFile.FieldType.long), Jvm.Cond.code ({ cls := "java/lang/Math", name := "min", desc := "(II)I" } : Jvm.MethodName) jdk_29_method_69_code (2 : Nat) (Option.some Jvm.ClassFile.FieldType.int), Jvm.Cond.code ({ cls := "java/lang/Math", name := "max", desc := "(II)I" } : Jvm.MethodName) jdk_29_method_65_code (2 : Nat) (Option.some Jvm.ClassFile.FieldType.int), Jvm.Cond.code ({ cls := "com/example/minsuite/minsuite/ValuePairsIndexPinLaw", name := "start", desc := "(IIIIII)I" } : Jvm.MethodName) method_2_code (12 : Nat) (Option.some Jvm.ClassFile.FieldType.int), Jvm.Cond.code ({ cls := "com/example/minsuite/minsuite/ValuePairs", name := "index", desc := "(IIII)I" } : Jvm.MethodName) prog_43_method_8_code (5 : Nat) (Option.some Jvm.ClassFile.FieldType.int)]
set_option maxRecDepth 65536 in
theorem codes_eq : words1.filter isCode = codes1 := rfl
theorem w_codes : ∀ c ∈ words1.filter isCode, c.before args0 about1 = true := by
  rw [codes_eq]
  intro c hc
  simp only [codes1, List.mem_cons, List.not_mem_nil, or_false] at hc
  rcases hc with rfl | rfl | rfl | rfl | rfl | rfl | rfl | rfl
  · exact w_c0
  · exact w_c1
  · exact w_c2
  · exact w_c3
  · exact w_c4
  · exact w_c5
  · exact w_c6
  · exact w_c7
set_option maxRecDepth 65536 in
theorem w_t1 : (words1.take 24).all (fun c => isCode c || c.before args0 about1) = true := by decide +kernel
set_option maxRecDepth 65536 in
theorem w_t2 : ((words1.drop 24).take 24).all (fun c => isCode c || c.before args0 about1) = true := by decide +kernel
set_option maxRecDepth 65536 in
theorem w_t3 : ((words1.drop 24).drop 24).all (fun c => isCode c || c.before args0 about1) = true := by decide +kernel
theorem w_tables : (allAtoms (Jvm.Cond.code x code maxLocals ret :: tables_1)).before args0 about1 = true := by
  rw [allAtoms_all]
  show words1.all (fun c => c.before args0 about1) = true
  refine all_split ?_ w_codes
  rw [← List.take_append_drop 24 words1, List.all_append, w_t1, ← List.take_append_drop 24 (words1.drop 24), List.all_append, w_t2, w_t3]
  rfl
set_option maxRecDepth 65536 in
theorem w_case : (Jvm.Cond.and given_1 narrow_1).before args0 about1 = true := by decide +kernel
theorem w_applies : (headSpec (Jvm.Cond.code x code maxLocals ret :: tables_1) room_1).applies x e0.platform about1 = true :=
  (Spec.applies_iff w_frames).mpr ⟨w_running, w_runnable, w_alone, w_named, w_hears, w_ripe, w_room, w_tables⟩
theorem atStart : AtStart classFile x code maxLocals ret World_1 tables_1 room_1 Calls_1 rest_1 Pre_1 launch0 p0 e0 about1 theMethod args0 below0 :=
  ⟨lists_1, trivial, launch0.admits_env _ _ _, launch0.least_env, fairChoices_fair.cas, fairChoices_fair.clock, w_frames, w_args, w_heap, w_applies, trivial, trivial, w_case⟩
end start1
theorem witness_1 : WitnessClaimed_1 := ⟨start1.p0, start1.e0, start1.about1, start1.theMethod, start1.args0, start1.below0, start1.atStart⟩
end Jvm.Pilot.@@N@@
