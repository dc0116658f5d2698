import JvmDerived
import JvmDerived.Pilot.@@N@@Statement
import JvmDerived.Pilot.@@N@@Code
set_option linter.unusedVariables false
set_option linter.unusedSimpArgs false
namespace Jvm.RoadKit
open Sem ClassFile Op Lib Jvm.Stand Jvm.Free Jvm.LawKit
section New
variable {p : Program} {l : Launch} {e : Env} {R : Room} {s : State} {m : MethodId} {args : Array Value} {below : List Frame} {meth : Method} {c : Code} {T : State} {locs : List Loc} {cells slots : Nat}
theorem retI (X : Stand p l e R s m args below meth c T locs cells slots) (hx : p.tables.exec = Jvm.exec) {pc : Nat} {Ls : Array Slot} {z : Int32} {rest : List Value} (hret : meth.sig.returnType = some .int) (hd : decode c.code pc = .ok (.ireturn, 1)) {fs : List Frame}
    (hl : ∀ (f : JFrame) (acts : List Action), f.method = m → f.locked = none → f.entered = [] → (doReturn e (T.setTop f) acts (some (.int z))).1 = T.setFrames fs) : Steps p.tables e below (T.setTop (mkF m pc Ls (.int z :: rest))) (T.setFrames fs) :=
  retOut X hx hret rfl (Or.inl ⟨rfl, Or.inl rfl, z, rfl⟩) hd hl
theorem retJ (X : Stand p l e R s m args below meth c T locs cells slots) (hx : p.tables.exec = Jvm.exec) {pc : Nat} {Ls : Array Slot} {z : Int64} {rest : List Value} (hret : meth.sig.returnType = some .long) (hd : decode c.code pc = .ok (.lreturn, 1)) {fs : List Frame}
    (hl : ∀ (f : JFrame) (acts : List Action), f.method = m → f.locked = none → f.entered = [] → (doReturn e (T.setTop f) acts (some (.long z))).1 = T.setFrames fs) : Steps p.tables e below (T.setTop (mkF m pc Ls (.long z :: rest))) (T.setFrames fs) :=
  retOut X hx hret rfl (Or.inr (Or.inl ⟨rfl, rfl, z, rfl⟩)) hd hl
theorem retA (X : Stand p l e R s m args below meth c T locs cells slots) (hx : p.tables.exec = Jvm.exec) {pc : Nat} {Ls : Array Slot} {w : Value} {t : FieldType} {rest : List Value} (hret : meth.sig.returnType = some t) (hd : decode c.code pc = .ok (.areturn, 1)) {fs : List Frame}
    (hl : ∀ (f : JFrame) (acts : List Action), f.method = m → f.locked = none → f.entered = [] → (doReturn e (T.setTop f) acts (some w)).1 = T.setFrames fs) (ht : t.isReference = true) (hw : w.isRef = true) : Steps p.tables e below (T.setTop (mkF m pc Ls (w :: rest))) (T.setFrames fs) :=
  retOut X hx hret (by cases t <;> first | rfl | (cases ht; done)) (Or.inr (Or.inr (Or.inr (Or.inr ⟨rfl, ht, hw⟩)))) hd hl
/-- from the state S on, the body runs to its end and leaves what Q says -/
def Gz (p : Program) (e : Env) (below : List Frame) (s : State) (C N : Nat) (Q : Option Value → Heap → List Loc → Prop) (S : State) : Prop :=
  ∃ s₂ o, Steps p.tables e below S s₂ ∧ s₂.status = .running ∧ Ended s₂ below o ∧ ∃ v L, o = .returned v ∧ Q v s₂.heap L ∧ FrameEnd s o s₂ L C N
variable {C N : Nat} {Q : Option Value → Heap → List Loc → Prop} {S S' : State}
theorem Gz.st (k : ∀ t, Steps p.tables e below S' t → Steps p.tables e below S t) (h : Gz p e below s C N Q S') : Gz p e below s C N Q S := by
  obtain ⟨s₂, o, h1, h2⟩ := h
  exact ⟨s₂, o, k _ h1, h2⟩
theorem Gz.tr (k : Steps p.tables e below S S') (h : Gz p e below s C N Q S') : Gz p e below s C N Q S := by
  obtain ⟨s₂, o, h1, h2⟩ := h
  exact ⟨s₂, o, k.trans h1, h2⟩
variable {pc : Nat} {Ls : Array Slot} {st : List Value} {Z : State} {a0 : Array Value} {hh : Heap}
theorem Gz.iloadN (n : Nat) {k : Fin 4} {v : Int32} (X : Stand p l e R s m args below meth c T locs cells slots) (hx : p.tables.exec = Jvm.exec) (hd : decode c.code pc = .ok (.iload_n k, 1)) (hl : Ls[k.val]? = some (.val (.int v))) (q : pc + 1 = n) (h : Gz p e below s C N Q (T.setTop (mkF m n Ls (.int v :: st)))) : Gz p e below s C N Q (T.setTop (mkF m pc Ls st)) := by subst q; exact Gz.st (fun t k => XS.iloadN X.here hx rfl hd hl k) h
theorem Gz.iload (n : Nat) {k : Nat} {v : Int32} (X : Stand p l e R s m args below meth c T locs cells slots) (hx : p.tables.exec = Jvm.exec) (hd : decode c.code pc = .ok (.iload k, 2)) (hl : Ls[k]? = some (.val (.int v))) (q : pc + 2 = n) (h : Gz p e below s C N Q (T.setTop (mkF m n Ls (.int v :: st)))) : Gz p e below s C N Q (T.setTop (mkF m pc Ls st)) := by subst q; exact Gz.st (fun t k => XS.iload X.here hx rfl hd hl k) h
theorem Gz.istoreN (n : Nat) (l' : Array Slot) {k : Fin 4} {v : Int32} (X : Stand p l e R s m args below meth c T locs cells slots) (hx : p.tables.exec = Jvm.exec) (hd : decode c.code pc = .ok (.istore_n k, 1)) (hl : storeLocals Ls k.val (.int v) = some l') (q : pc + 1 = n) (h : Gz p e below s C N Q (T.setTop (mkF m n l' st))) : Gz p e below s C N Q (T.setTop (mkF m pc Ls (.int v :: st))) := by subst q; exact Gz.st (fun t k => XS.istoreN X.here hx rfl hd rfl hl k) h
theorem Gz.istore (n : Nat) (l' : Array Slot) {k : Nat} {v : Int32} (X : Stand p l e R s m args below meth c T locs cells slots) (hx : p.tables.exec = Jvm.exec) (hd : decode c.code pc = .ok (.istore k, 2)) (hl : storeLocals Ls k (.int v) = some l') (q : pc + 2 = n) (h : Gz p e below s C N Q (T.setTop (mkF m n l' st))) : Gz p e below s C N Q (T.setTop (mkF m pc Ls (.int v :: st))) := by subst q; exact Gz.st (fun t k => XS.istore X.here hx rfl hd rfl hl k) h
theorem Gz.lloadN (n : Nat) {k : Fin 4} {v : Int64} (X : Stand p l e R s m args below meth c T locs cells slots) (hx : p.tables.exec = Jvm.exec) (hd : decode c.code pc = .ok (.lload_n k, 1)) (hl : Ls[k.val]? = some (.val (.long v))) (q : pc + 1 = n) (h : Gz p e below s C N Q (T.setTop (mkF m n Ls (.long v :: st)))) : Gz p e below s C N Q (T.setTop (mkF m pc Ls st)) := by subst q; exact Gz.st (fun t k => XS.lloadN X.here hx rfl hd hl k) h
theorem Gz.lstoreN (n : Nat) (l' : Array Slot) {k : Fin 4} {v : Int64} (X : Stand p l e R s m args below meth c T locs cells slots) (hx : p.tables.exec = Jvm.exec) (hd : decode c.code pc = .ok (.lstore_n k, 1)) (hl : storeLocals Ls k.val (.long v) = some l') (q : pc + 1 = n) (h : Gz p e below s C N Q (T.setTop (mkF m n l' st))) : Gz p e below s C N Q (T.setTop (mkF m pc Ls (.long v :: st))) := by subst q; exact Gz.st (fun t k => XS.lstoreN X.here hx rfl hd rfl hl k) h
theorem Gz.aloadN (n : Nat) {k : Fin 4} {v : Value} (X : Stand p l e R s m args below meth c T locs cells slots) (hx : p.tables.exec = Jvm.exec) (hd : decode c.code pc = .ok (.aload_n k, 1)) (hl : Ls[k.val]? = some (.val v)) (hv : v.isRef = true) (q : pc + 1 = n) (h : Gz p e below s C N Q (T.setTop (mkF m n Ls (v :: st)))) : Gz p e below s C N Q (T.setTop (mkF m pc Ls st)) := by subst q; exact Gz.st (fun t k => XS.aloadN X.here hx rfl hd hl hv k) h
theorem Gz.aload (n : Nat) {k : Nat} {v : Value} (X : Stand p l e R s m args below meth c T locs cells slots) (hx : p.tables.exec = Jvm.exec) (hd : decode c.code pc = .ok (.aload k, 2)) (hl : Ls[k]? = some (.val v)) (hv : v.isRef = true) (q : pc + 2 = n) (h : Gz p e below s C N Q (T.setTop (mkF m n Ls (v :: st)))) : Gz p e below s C N Q (T.setTop (mkF m pc Ls st)) := by subst q; exact Gz.st (fun t k => XS.aload X.here hx rfl hd hl hv k) h
theorem Gz.astoreN (n : Nat) (l' : Array Slot) {k : Fin 4} {v : Value} (X : Stand p l e R s m args below meth c T locs cells slots) (hx : p.tables.exec = Jvm.exec) (hd : decode c.code pc = .ok (.astore_n k, 1)) (hl : storeLocals Ls k.val v = some l') (hv : v.isRef = true) (q : pc + 1 = n) (h : Gz p e below s C N Q (T.setTop (mkF m n l' st))) : Gz p e below s C N Q (T.setTop (mkF m pc Ls (v :: st))) := by subst q; exact Gz.st (fun t k => XS.astoreN X.here hx rfl hd rfl hv hl k) h
theorem Gz.astore (n : Nat) (l' : Array Slot) {k : Nat} {v : Value} (X : Stand p l e R s m args below meth c T locs cells slots) (hx : p.tables.exec = Jvm.exec) (hd : decode c.code pc = .ok (.astore k, 2)) (hl : storeLocals Ls k v = some l') (hv : v.isRef = true) (q : pc + 2 = n) (h : Gz p e below s C N Q (T.setTop (mkF m n l' st))) : Gz p e below s C N Q (T.setTop (mkF m pc Ls (v :: st))) := by subst q; exact Gz.st (fun t k => XS.astore X.here hx rfl hd rfl hv hl k) h
theorem Gz.iconst (n : Nat) (v : Int32) (X : Stand p l e R s m args below meth c T locs cells slots) (hx : p.tables.exec = Jvm.exec) {i : Int} (hd : decode c.code pc = .ok (.iconst i, 1)) (hv : Int32.ofInt i = v) (q : pc + 1 = n) (h : Gz p e below s C N Q (T.setTop (mkF m n Ls (.int v :: st)))) : Gz p e below s C N Q (T.setTop (mkF m pc Ls st)) := by subst q hv; exact Gz.st (fun t k => XS.iconst X.here hx rfl hd k) h
theorem Gz.bipush (n : Nat) (v : Int32) (X : Stand p l e R s m args below meth c T locs cells slots) (hx : p.tables.exec = Jvm.exec) {i : Int} (hd : decode c.code pc = .ok (.bipush i, 2)) (hv : (Int8.ofInt i).toInt32 = v) (q : pc + 2 = n) (h : Gz p e below s C N Q (T.setTop (mkF m n Ls (.int v :: st)))) : Gz p e below s C N Q (T.setTop (mkF m pc Ls st)) := by subst q hv; exact Gz.st (fun t k => XS.bipush X.here hx rfl hd k) h
theorem Gz.lconst (n : Nat) (v : Int64) (X : Stand p l e R s m args below meth c T locs cells slots) (hx : p.tables.exec = Jvm.exec) {i : Fin 2} (hd : decode c.code pc = .ok (.lconst i, 1)) (hv : Int64.ofNat i = v) (q : pc + 1 = n) (h : Gz p e below s C N Q (T.setTop (mkF m n Ls (.long v :: st)))) : Gz p e below s C N Q (T.setTop (mkF m pc Ls st)) := by subst q hv; exact Gz.st (fun t k => XS.lconst X.here hx rfl hd k) h
theorem Gz.aconstNull (n : Nat) (X : Stand p l e R s m args below meth c T locs cells slots) (hx : p.tables.exec = Jvm.exec) (hd : decode c.code pc = .ok (.aconst_null, 1))  (q : pc + 1 = n) (h : Gz p e below s C N Q (T.setTop (mkF m n Ls (.null :: st)))) : Gz p e below s C N Q (T.setTop (mkF m pc Ls st)) := by subst q; exact Gz.st (fun t k => XS.aconstNull X.here hx rfl hd k) h
theorem Gz.iadd (n : Nat) {x y : Int32} (X : Stand p l e R s m args below meth c T locs cells slots) (hx : p.tables.exec = Jvm.exec) (hd : decode c.code pc = .ok (.iadd, 1))  (q : pc + 1 = n) (h : Gz p e below s C N Q (T.setTop (mkF m n Ls (.int (x + y) :: st)))) : Gz p e below s C N Q (T.setTop (mkF m pc Ls (.int y :: .int x :: st))) := by subst q; exact Gz.st (fun t k => XS.iadd X.here hx rfl hd rfl k) h
theorem Gz.iaddV (n : Nat) (z : Int32) (X : Stand p l e R s m args below meth c T locs cells slots) (hx : p.tables.exec = Jvm.exec) {x y : Int32} (hd : decode c.code pc = .ok (.iadd, 1)) (hz : x + y = z) (q : pc + 1 = n) (h : Gz p e below s C N Q (T.setTop (mkF m n Ls (.int z :: st)))) : Gz p e below s C N Q (T.setTop (mkF m pc Ls (.int y :: .int x :: st))) := by subst hz; exact Gz.iadd n X hx hd q h
theorem Gz.isub (n : Nat) {x y : Int32} (X : Stand p l e R s m args below meth c T locs cells slots) (hx : p.tables.exec = Jvm.exec) (hd : decode c.code pc = .ok (.isub, 1))  (q : pc + 1 = n) (h : Gz p e below s C N Q (T.setTop (mkF m n Ls (.int (x - y) :: st)))) : Gz p e below s C N Q (T.setTop (mkF m pc Ls (.int y :: .int x :: st))) := by subst q; exact Gz.st (fun t k => XS.isub X.here hx rfl hd rfl k) h
theorem Gz.isubV (n : Nat) (z : Int32) (X : Stand p l e R s m args below meth c T locs cells slots) (hx : p.tables.exec = Jvm.exec) {x y : Int32} (hd : decode c.code pc = .ok (.isub, 1)) (hz : x - y = z) (q : pc + 1 = n) (h : Gz p e below s C N Q (T.setTop (mkF m n Ls (.int z :: st)))) : Gz p e below s C N Q (T.setTop (mkF m pc Ls (.int y :: .int x :: st))) := by subst hz; exact Gz.isub n X hx hd q h
theorem Gz.iand (n : Nat) {x y : Int32} (X : Stand p l e R s m args below meth c T locs cells slots) (hx : p.tables.exec = Jvm.exec) (hd : decode c.code pc = .ok (.iand, 1))  (q : pc + 1 = n) (h : Gz p e below s C N Q (T.setTop (mkF m n Ls (.int (x &&& y) :: st)))) : Gz p e below s C N Q (T.setTop (mkF m pc Ls (.int y :: .int x :: st))) := by subst q; exact Gz.st (fun t k => XS.iand X.here hx rfl hd rfl k) h
theorem Gz.lor (n : Nat) {x y : Int64} (X : Stand p l e R s m args below meth c T locs cells slots) (hx : p.tables.exec = Jvm.exec) (hd : decode c.code pc = .ok (.lor, 1))  (q : pc + 1 = n) (h : Gz p e below s C N Q (T.setTop (mkF m n Ls (.long (x ||| y) :: st)))) : Gz p e below s C N Q (T.setTop (mkF m pc Ls (.long y :: .long x :: st))) := by subst q; exact Gz.st (fun t k => XS.lor X.here hx rfl hd rfl k) h
theorem Gz.iushr (n : Nat) {x : Int32} {y : Int32} (X : Stand p l e R s m args below meth c T locs cells slots) (hx : p.tables.exec = Jvm.exec) (hd : decode c.code pc = .ok (.iushr, 1))  (q : pc + 1 = n) (h : Gz p e below s C N Q (T.setTop (mkF m n Ls (.int ((x.toUInt32 >>> (y &&& 31).toUInt32).toInt32) :: st)))) : Gz p e below s C N Q (T.setTop (mkF m pc Ls (.int y :: .int x :: st))) := by subst q; exact Gz.st (fun t k => XS.iushr X.here hx rfl hd rfl k) h
theorem Gz.lshl (n : Nat) {x : Int64} {y : Int32} (X : Stand p l e R s m args below meth c T locs cells slots) (hx : p.tables.exec = Jvm.exec) (hd : decode c.code pc = .ok (.lshl, 1))  (q : pc + 1 = n) (h : Gz p e below s C N Q (T.setTop (mkF m n Ls (.long (x <<< (y &&& 0x3f).toInt64) :: st)))) : Gz p e below s C N Q (T.setTop (mkF m pc Ls (.int y :: .long x :: st))) := by subst q; exact Gz.st (fun t k => XS.lshl X.here hx rfl hd rfl k) h
theorem Gz.i2l (n : Nat) {x : Int32} (X : Stand p l e R s m args below meth c T locs cells slots) (hx : p.tables.exec = Jvm.exec) (hd : decode c.code pc = .ok (.i2l, 1))  (q : pc + 1 = n) (h : Gz p e below s C N Q (T.setTop (mkF m n Ls (.long (x.toInt64) :: st)))) : Gz p e below s C N Q (T.setTop (mkF m pc Ls (.int x :: st))) := by subst q; exact Gz.st (fun t k => XS.i2l X.here hx rfl hd rfl k) h
theorem Gz.i2lV (n : Nat) (z : Int64) (X : Stand p l e R s m args below meth c T locs cells slots) (hx : p.tables.exec = Jvm.exec) {x : Int32} (hd : decode c.code pc = .ok (.i2l, 1)) (hz : (x.toInt64) = z) (q : pc + 1 = n) (h : Gz p e below s C N Q (T.setTop (mkF m n Ls (.long z :: st)))) : Gz p e below s C N Q (T.setTop (mkF m pc Ls (.int x :: st))) := by subst hz; exact Gz.i2l n X hx hd q h
theorem Gz.l2i (n : Nat) {x : Int64} (X : Stand p l e R s m args below meth c T locs cells slots) (hx : p.tables.exec = Jvm.exec) (hd : decode c.code pc = .ok (.l2i, 1))  (q : pc + 1 = n) (h : Gz p e below s C N Q (T.setTop (mkF m n Ls (.int (x.toInt32) :: st)))) : Gz p e below s C N Q (T.setTop (mkF m pc Ls (.long x :: st))) := by subst q; exact Gz.st (fun t k => XS.l2i X.here hx rfl hd rfl k) h
theorem Gz.i2b (n : Nat) {x : Int32} (X : Stand p l e R s m args below meth c T locs cells slots) (hx : p.tables.exec = Jvm.exec) (hd : decode c.code pc = .ok (.i2b, 1))  (q : pc + 1 = n) (h : Gz p e below s C N Q (T.setTop (mkF m n Ls (.int (x.toInt8.toInt32) :: st)))) : Gz p e below s C N Q (T.setTop (mkF m pc Ls (.int x :: st))) := by subst q; exact Gz.st (fun t k => XS.i2b X.here hx rfl hd rfl k) h
theorem Gz.i2bV (n : Nat) (z : Int32) (X : Stand p l e R s m args below meth c T locs cells slots) (hx : p.tables.exec = Jvm.exec) {x : Int32} (hd : decode c.code pc = .ok (.i2b, 1)) (hz : (x.toInt8.toInt32) = z) (q : pc + 1 = n) (h : Gz p e below s C N Q (T.setTop (mkF m n Ls (.int z :: st)))) : Gz p e below s C N Q (T.setTop (mkF m pc Ls (.int x :: st))) := by subst hz; exact Gz.i2b n X hx hd q h
theorem Gz.lcmp (n : Nat) {x y : Int64} (X : Stand p l e R s m args below meth c T locs cells slots) (hx : p.tables.exec = Jvm.exec) (hd : decode c.code pc = .ok (.lcmp, 1))  (q : pc + 1 = n) (h : Gz p e below s C N Q (T.setTop (mkF m n Ls (.int (lcmpW x y) :: st)))) : Gz p e below s C N Q (T.setTop (mkF m pc Ls (.long y :: .long x :: st))) := by subst q; exact Gz.st (fun t k => XS.lcmp X.here hx rfl hd rfl k) h
theorem Gz.irem (n : Nat) {x y : Int32} (X : Stand p l e R s m args below meth c T locs cells slots) (hx : p.tables.exec = Jvm.exec) (hd : decode c.code pc = .ok (.irem, 1)) (hy : y ≠ 0) (q : pc + 1 = n) (h : Gz p e below s C N Q (T.setTop (mkF m n Ls (.int (x % y) :: st)))) : Gz p e below s C N Q (T.setTop (mkF m pc Ls (.int y :: .int x :: st))) := by subst q; exact Gz.st (fun t k => iremM X hx rfl hd rfl hy k) h
theorem Gz.iinc (n : Nat) (l' : Array Slot) (X : Stand p l e R s m args below meth c T locs cells slots) (hx : p.tables.exec = Jvm.exec) {k : Nat} {i : Int} {x : Int32} (hd : decode c.code pc = .ok (.iinc k i, 3)) (hl : Ls[k]? = some (.val (.int x))) (hl' : storeLocals Ls k (.int (x + Int32.ofInt i)) = some l') (q : pc + 3 = n) (h : Gz p e below s C N Q (T.setTop (mkF m n l' st))) : Gz p e below s C N Q (T.setTop (mkF m pc Ls st)) := by subst q; exact Gz.st (fun t k => XS.iinc X.here hx rfl hd hl hl' k) h
theorem Gz.dup (n : Nat) {x : Value} (X : Stand p l e R s m args below meth c T locs cells slots) (hx : p.tables.exec = Jvm.exec) (hd : decode c.code pc = .ok (.dup, 1)) (hc : x.category = 1) (q : pc + 1 = n) (h : Gz p e below s C N Q (T.setTop (mkF m n Ls (x :: x :: st)))) : Gz p e below s C N Q (T.setTop (mkF m pc Ls (x :: st))) := by subst q; exact Gz.st (fun t k => XS.dup X.here hx rfl hd rfl hc k) h
theorem Gz.dupX1 (n : Nat) {x y : Value} (X : Stand p l e R s m args below meth c T locs cells slots) (hx : p.tables.exec = Jvm.exec) (hd : decode c.code pc = .ok (.dup_x1, 1)) (hc : x.category = 1) (hc2 : y.category = 1) (q : pc + 1 = n) (h : Gz p e below s C N Q (T.setTop (mkF m n Ls (x :: y :: x :: st)))) : Gz p e below s C N Q (T.setTop (mkF m pc Ls (x :: y :: st))) := by subst q; exact Gz.st (fun t k => XS.dupX1 X.here hx rfl hd rfl hc hc2 k) h
theorem Gz.goto (n : Nat) (X : Stand p l e R s m args below meth c T locs cells slots) (hx : p.tables.exec = Jvm.exec) {o : Int} (hd : decode c.code pc = .ok (.goto o, 3)) (ho : 0 ≤ (pc : Int) + o) (q : ((pc : Int) + o).toNat = n) (h : Gz p e below s C N Q (T.setTop (mkF m n Ls st))) : Gz p e below s C N Q (T.setTop (mkF m pc Ls st)) := Gz.st (fun t k => XS.goto X.here hx rfl (pc0 := pc) (pc' := n) rfl hd ho q k) h
theorem Gz.ifYes (n : Nat) (X : Stand p l e R s m args below meth c T locs cells slots) (hx : p.tables.exec = Jvm.exec) {cd : ClassFile.Cond} {x : Int32} {o : Int} (hd : decode c.code pc = .ok (.ifCond cd o, 3)) (hc : ifCond.holds cd x = true) (ho : 0 ≤ (pc : Int) + o) (q : ((pc : Int) + o).toNat = n) (h : Gz p e below s C N Q (T.setTop (mkF m n Ls st))) : Gz p e below s C N Q (T.setTop (mkF m pc Ls (.int x :: st))) := Gz.st (fun t k => XS.ifYes X.here hx rfl (pc0 := pc) (pc' := n) rfl hd rfl hc ho q k) h
theorem Gz.ifNo (n : Nat) (X : Stand p l e R s m args below meth c T locs cells slots) (hx : p.tables.exec = Jvm.exec) {cd : ClassFile.Cond} {x : Int32} {o : Int} (hd : decode c.code pc = .ok (.ifCond cd o, 3)) (hc : ifCond.holds cd x = false) (q : pc + 3 = n) (h : Gz p e below s C N Q (T.setTop (mkF m n Ls st))) : Gz p e below s C N Q (T.setTop (mkF m pc Ls (.int x :: st))) := by subst q; exact Gz.st (fun t k => XS.ifNo X.here hx rfl hd rfl hc k) h
theorem Gz.icmpYes (n : Nat) (X : Stand p l e R s m args below meth c T locs cells slots) (hx : p.tables.exec = Jvm.exec) {cd : ClassFile.Cond} {x y : Int32} {o : Int} (hd : decode c.code pc = .ok (.if_icmp cd o, 3)) (hc : if_icmp.holds cd x y = true) (ho : 0 ≤ (pc : Int) + o) (q : ((pc : Int) + o).toNat = n) (h : Gz p e below s C N Q (T.setTop (mkF m n Ls st))) : Gz p e below s C N Q (T.setTop (mkF m pc Ls (.int y :: .int x :: st))) := Gz.st (fun t k => XS.icmpYes X.here hx rfl (pc0 := pc) (pc' := n) rfl hd rfl hc ho q k) h
theorem Gz.icmpNo (n : Nat) (X : Stand p l e R s m args below meth c T locs cells slots) (hx : p.tables.exec = Jvm.exec) {cd : ClassFile.Cond} {x y : Int32} {o : Int} (hd : decode c.code pc = .ok (.if_icmp cd o, 3)) (hc : if_icmp.holds cd x y = false) (q : pc + 3 = n) (h : Gz p e below s C N Q (T.setTop (mkF m n Ls st))) : Gz p e below s C N Q (T.setTop (mkF m pc Ls (.int y :: .int x :: st))) := by subst q; exact Gz.st (fun t k => XS.icmpNo X.here hx rfl hd rfl hc k) h
theorem Gz.ldcI (n : Nat) (X : Stand p l e R s m args below meth c T locs cells slots) (hx : p.tables.exec = Jvm.exec) {own : String} {ix : Nat} {v : Int32} (hd : decode c.code pc = .ok (.ldc ix, 2)) (hown : s.vm.findClass own = some m.cls) (w : (Cond.constant own ix v).before args s = true) (q : pc + 2 = n) (h : Gz p e below s C N Q (T.setTop (mkF m n Ls (.int v :: st)))) : Gz p e below s C N Q (T.setTop (mkF m pc Ls st)) := by subst q; exact Gz.st (X.ldcInt hx hown w (g := mkF m pc Ls st) rfl hd) h
theorem Gz.getF (n : Nat) (X : Stand p l e R s m args below meth c T locs cells slots) (hx : p.tables.exec = Jvm.exec) (hZ : Z.Warmed39 s.vm) {own : String} (hown : s.vm.findClass own = some m.cls) {R0 O nm d host : String} {ix : Nat} (hd : decode c.code pc = .ok (.getfield ix, 3)) (w : (Cond.fieldLink own ix R0 nm d).before a0 Z = true ∨ (Cond.fieldLinkNest own ix R0 nm d host).before a0 Z = true) (via : Via Z R0 O nm d) (eT : T.heap = hh) {a : Addr} {v : Value} (F : Fld Z hh a O nm d v) (q : pc + 3 = n) (h : ∀ T', Stand p l e R s m args below meth c T' (locs) (cells) (slots) → T'.heap = hh → Gz p e below s C N Q (T'.setTop (mkF m n Ls (v :: st)))) : Gz p e below s C N Q (T.setTop (mkF m pc Ls (.ref a :: st))) := by
  subst q
  obtain ⟨T', X', e', st'⟩ := Jvm.RoadKit.getF X hx hZ hown w via eT F (g := mkF m pc Ls (.ref a :: st)) rfl rfl hd
  exact Gz.st st' (h T' X' e')
theorem Gz.getS (n : Nat) (X : Stand p l e R s m args below meth c T locs cells slots) (hx : p.tables.exec = Jvm.exec) (hZ : Z.Warmed39 s.vm) {own : String} (hown : s.vm.findClass own = some m.cls) {R0 O nm d host : String} {ix : Nat} (hd : decode c.code pc = .ok (.getstatic ix, 3)) (w : (Cond.fieldLink own ix R0 nm d).before a0 Z = true ∨ (Cond.fieldLinkNest own ix R0 nm d host).before a0 Z = true) (via : Via Z R0 O nm d) (eT : T.heap = hh) {v : Value} (F : Sta Z hh O nm d v) (q : pc + 3 = n) (h : ∀ T', Stand p l e R s m args below meth c T' (locs) (cells) (slots) → T'.heap = hh → Gz p e below s C N Q (T'.setTop (mkF m n Ls (v :: st)))) : Gz p e below s C N Q (T.setTop (mkF m pc Ls st)) := by
  subst q
  obtain ⟨T', X', e', st'⟩ := getS2 X hx hZ hown w via eT F (g := mkF m pc Ls st) rfl hd
  exact Gz.st st' (h T' X' e')
theorem Gz.putF (n : Nat) (X : Stand p l e R s m args below meth c T locs cells slots) (hx : p.tables.exec = Jvm.exec) (hZ : Z.Warmed39 s.vm) {own : String} (hown : s.vm.findClass own = some m.cls) {R0 O nm d host K : String} {ix kk : Nat} (ty : FieldType) (hd : decode c.code pc = .ok (.putfield ix, 3)) (w : (Cond.fieldLink own ix R0 nm d).before a0 Z = true ∨ (Cond.fieldLinkNest own ix R0 nm d host).before a0 Z = true) (via : Via Z R0 O nm d) (eT : T.heap = hh) {a : Addr} {v old : Value} (F : Fld Z hh a O nm d old) (E : Exa Z hh a K) (L : (Cond.lays K O nm d).before a0 Z = true ∨ ((Cond.laysFinal K O nm d).before a0 Z = true ∧ own = O ∧ meth.name = "<init>")) (wi : (Cond.instantiable K kk).before a0 Z = true) (hty : parseFieldDescriptor d = some ty) (hn : narrow ty v = v) (hf : fits ty v = true) (q : pc + 3 = n) (h : ∀ T' h', Stand p l e R s m args below meth c T' (locs ++ [⟨a, slotOf Z O nm d⟩]) (cells) (slots) → T'.heap = h' → Wr hh h' a (slotOf Z O nm d) v → Gz p e below s C N Q (T'.setTop (mkF m n Ls st))) : Gz p e below s C N Q (T.setTop (mkF m pc Ls (v :: .ref a :: st))) := by
  subst q
  obtain ⟨T', h', X', e', W, st'⟩ := Jvm.RoadKit.putF X hx hZ hown w via eT F E L wi hty hn hf (g := mkF m pc Ls (v :: .ref a :: st)) rfl rfl hd
  exact Gz.st st' (h T' h' X' e' W)
theorem Gz.stB (n : Nat) (X : Stand p l e R s m args below meth c T locs cells slots) (hx : p.tables.exec = Jvm.exec) (hZ : Z.Warmed39 s.vm) {a : Addr} {cl : Cell} {j : Int32} {x : Int32} (hd : decode c.code pc = .ok (.bastore, 1)) (eT : T.heap = hh) (A : Arr Z hh a cl .byte) (hj : ¬ (j < 0 ∨ cl.slots.size ≤ j.toNatClampNeg)) (q : pc + 1 = n) (h : ∀ T' h', Stand p l e R s m args below meth c T' (locs ++ [⟨a, j.toNatClampNeg⟩]) (cells) (slots) → T'.heap = h' → Wr hh h' a j.toNatClampNeg (.int (nar .byte x)) → Gz p e below s C N Q (T'.setTop (mkF m n Ls st))) : Gz p e below s C N Q (T.setTop (mkF m pc Ls (.int x :: .int j :: .ref a :: st))) := by
  subst q
  obtain ⟨T', h', X', e', W, st'⟩ := Jvm.RoadKit.stB X hx hZ eT A (j := j) hj (g := mkF m pc Ls (.int x :: .int j :: .ref a :: st)) rfl rfl hd
  exact Gz.st st' (h T' h' X' e' W)
theorem Gz.ldB (n : Nat) (X : Stand p l e R s m args below meth c T locs cells slots) (hx : p.tables.exec = Jvm.exec) (hZ : Z.Warmed39 s.vm) {a : Addr} {cl : Cell} {j : Int32} {v : Value} (hd : decode c.code pc = .ok (.baload, 1)) (eT : T.heap = hh) (A : Arr Z hh a cl .byte) (hj : ¬ (j < 0 ∨ cl.slots.size ≤ j.toNatClampNeg)) (hv : cl.slots[j.toNatClampNeg]? = some v) (q : pc + 1 = n) (h : Gz p e below s C N Q (T.setTop (mkF m n Ls (v :: st)))) : Gz p e below s C N Q (T.setTop (mkF m pc Ls (.int j :: .ref a :: st))) := by
  subst q
  exact Gz.st (X.baloadBytes hx (j := j) (v := v) (by rw [eT]; exact A.1) (State.isArrayOf_alike hZ.alike A.2.1) A.2.2 hj hv (g := mkF m pc Ls (.int j :: .ref a :: st)) rfl rfl hd) h
theorem Gz.alen (n : Nat) (X : Stand p l e R s m args below meth c T locs cells slots) (hx : p.tables.exec = Jvm.exec) (hZ : Z.Warmed39 s.vm) {a : Addr} {cl : Cell} {z : Int32} {ty : FieldType} (hd : decode c.code pc = .ok (.arraylength, 1)) (eT : T.heap = hh) (A : Arr Z hh a cl ty) (hs : cl.slots.size = z.toNatClampNeg) (hz : ¬ z < 0) (q : pc + 1 = n) (h : Gz p e below s C N Q (T.setTop (mkF m n Ls (.int z :: st)))) : Gz p e below s C N Q (T.setTop (mkF m pc Ls (.ref a :: st))) := by
  subst q
  refine Gz.st (X.arraylength hx (by rw [eT]; exact A.1) (State.isArrayOf_alike hZ.alike A.2.1) (g := mkF m pc Ls (.ref a :: st)) rfl rfl hd) ?_
  rw [len_of hs hz]
  exact h
theorem Gz.enter {g g' : JFrame} (q : g = g') (h : Gz p e below s C N Q (T.setTop g')) : Gz p e below s C N Q (T.setTop g) := q ▸ h
theorem Gz.fin (X : Stand p l e R s m args below meth c T locs cells slots) {v : Option Value} (hv : meth.sig.returnType = none → v = none) (hlocks : meth.locks = false) (hc : cells ≤ C) (hn : slots ≤ N)
    (hst : ∀ fs, (∀ (f : JFrame) (acts : List Action), f.method = m → f.locked = none → f.entered = [] → (doReturn e (T.setTop f) acts v).1 = T.setFrames fs) → Steps p.tables e below S (T.setFrames fs)) (hq : Q v T.heap locs) : Gz p e below s C N Q S := by
  obtain ⟨fs, hr, hrun, hended, hW, hsame⟩ := X.leave hv hlocks
  exact ⟨_, _, hst fs hr, hrun, hended, _, _, rfl, hq, ⟨_, rfl⟩, hW, hsame.mono hc hn⟩
theorem retNV (X : Stand p l e R s m args below meth c T locs cells slots) (hx : p.tables.exec = Jvm.exec) {pc : Nat} {Ls : Array Slot} {z w : Int32} {t : FieldType} {rest : List Value} (hret : meth.sig.returnType = some t) (ht : t = .boolean ∨ t = .byte ∨ t = .char ∨ t = .short)
    (hd : decode c.code pc = .ok (.ireturn, 1)) {fs : List Frame} (hl : ∀ (f : JFrame) (acts : List Action), f.method = m → f.locked = none → f.entered = [] → (doReturn e (T.setTop f) acts (some (.int w))).1 = T.setFrames fs) (hw : nar t z = w) :
    Steps p.tables e below (T.setTop (mkF m pc Ls (.int z :: rest))) (T.setFrames fs) := by subst hw; exact retN X hx hret ht hd hl
theorem own_nb (x : Int32) : nar .byte (x.toInt8.toInt32) = x.toInt8.toInt32 := by show (x.toInt8.toInt32).toInt8.toInt32 = _; simp
theorem lt_irr (x : Int32) : ¬ x < x := Int32.lt_irrefl
theorem own_rl {a z r j : Nat} (h : a < z) (q : r = z + 1 + j) : a ≠ r := by omega
theorem own_ro {x z r j : Nat} (h : x = z) (q : r = z + 1 + j) : x ≠ r := by omega
theorem own_rr {z a b i j : Nat} (h : a = z + 1 + i) (q : b = z + 1 + j) (w : i ≠ j) : a ≠ b := by omega
theorem own_rg {n z r j : Nat} (h : n ≤ z) (q : r = z + 1 + j) : n ≤ r := by omega
theorem own_selp {a0 : Array Value} {y y' : MethodName} (hsame : y'.cls = y.cls) (hsel : (Cond.selects y'.cls y' y').before a0 s = true) (hi' : (Cond.instanceMethod y').before a0 s = true) (hi : (Cond.instanceMethod y).before a0 s = true) (hp : s.PrivateAt y) (hy : y.cls ≠ "java/lang/invoke/MethodHandle" ∧ y.cls ≠ "java/lang/invoke/VarHandle") : (Cond.selects y.cls y y).before a0 s = true := by
  obtain ⟨mk, methM, hn, hm, -, -⟩ := Cond.instanceMethod_spec hi'
  obtain ⟨kr, hkr, hni⟩ := notFace_of_selects hsel mk hn
  exact selects_self_of_private (hsame ▸ findClass_of_methodNamed hn) hkr hni hp hi hy
def NSt (h : Heap) (w : Addr) : Prop := ∀ cell : Cell, h[w]? = some cell → cell.vm.isStatics = false
theorem nst_of {Z : State} {h : Heap} {w : Addr} {K : String} (E : Exa Z h w K) : NSt h w := fun cell hc => by
  obtain ⟨c', k, h1, h2, h3, h4, -⟩ := E
  cases hc.symm.trans h1
  exact h4
theorem own_staK {Z : State} {h h' : Heap} {ws : List Addr} {K n d : String} {v : Value} (F : Sta Z h K n d v) (KK : Keep h h' ws) (q : ∀ w ∈ ws, NSt h w) : Sta Z h' K n d v := by
  obtain ⟨cf, i, k, f, a, cell, h1, h2, h3, h4, h5, h6, h7⟩ := F
  refine ⟨cf, i, k, f, a, cell, h1, h2, h3, h4, KK.2.1 a cell h5 fun hm => ?_, h6, h7⟩
  have := q a hm cell h5
  rw [h6] at this
  cases this
theorem own_fldI {a0 : Array Value} {Z : State} {t : Term} {a : Addr} {C n d : String} {k : Int32} (ev : t.eval a0 Z none [] Z = some (.ref a)) (h : (Cond.eq (.field t C n d) (.int k)).value a0 Z none Z [] = some true) : Fld Z Z.heap a C n d (.int k) := by
  obtain ⟨x, y, e1, e2, k1, k2⟩ := cmp_v (Or.inl h)
  cases Option.some.inj (e2.symm.trans (Term.int_eval k))
  obtain ⟨z, rfl⟩ := k2
  have q := gotT (Cond.eq_ints e1 (Term.int_eval k)) h
  subst q
  rw [fld_at ev] at e1
  exact Fld.start e1
theorem own_len {a0 : Array Value} {Z : State} {t : Term} {a : Addr} {cl : Cell} {ty : FieldType} {z : Int32} (ev : t.eval a0 Z none [] Z = some (.ref a)) (A : Arr Z Z.heap a cl ty) (h : (Cond.eq (.length t) (.int z)).value a0 Z none Z [] = some true) : cl.slots.size < 2 ^ 31 ∧ cl.slots.size.toInt32 = z := by
  obtain ⟨x, y, e1, e2, k1, k2⟩ := cmp_v (Or.inl h)
  obtain ⟨b, cell, f1, f2, f3, f4⟩ := Jvm.Lib.length_spec e1
  cases Option.some.inj (ev.symm.trans f1)
  cases f2.symm.trans (Arr.fin (U := Z) (Vm.Alike.refl _) A)
  subst f4
  exact ⟨f3, gotT (Cond.eq_ints e1 (Term.int_eval z)) h⟩
theorem own_el {a0 : Array Value} {Z : State} {t : Term} {a : Addr} {cl : Cell} {ty : FieldType} {j v : Int32} (ev : t.eval a0 Z none [] Z = some (.ref a)) (A : Arr Z Z.heap a cl ty) (h : (Cond.eq (.elem t (.int j)) (.int v)).value a0 Z none Z [] = some true) : cl.slots[j.toNatClampNeg]? = some (.int v) := by
  obtain ⟨x, y, e1, e2, k1, k2⟩ := cmp_v (Or.inl h)
  cases Option.some.inj (e2.symm.trans (Term.int_eval v))
  obtain ⟨z, rfl⟩ := k2
  have q := gotT (Cond.eq_ints e1 (Term.int_eval v)) h
  subst q
  exact (elem_in e1 ev (Term.int_eval j) A.1).2
end New
end Jvm.RoadKit
namespace Jvm.Pilot.@@N@@
open Jvm Jvm.ClassFile Sem Op Lib Jvm.Free Jvm.Stand Jvm.LawKit Jvm.RoadKit Bundle Jvm.Pilot.@@N@@.Jvm.D
theorem ww {av : Array Value} {Z : State} (hw : ∀ d ∈ tables_1, d.before av Z = true) (i : Nat) {d : Jvm.Cond} (h : tables_1[i]? = some d) : d.before av Z = true := hw _ (List.mem_of_getElem? h)
theorem own_nat (z : Int32) (n : Nat) (hn : n ≤ 2147483648) (h0 : 0 ≤ z.toInt) (h1 : z.toInt < n) : ∃ k : Nat, k < n ∧ z = Int32.ofNat k := by
  refine ⟨z.toInt.toNat, by omega, ?_⟩
  apply Int32.toInt_inj.mp
  rw [Int32.toInt_ofNat_of_lt (by omega)]
  omega
theorem own_i2c (z : Int32) (h0 : 0 ≤ z.toInt) (h1 : z.toInt < 65536) : z.toUInt32.toUInt16.toUInt32.toInt32 = z := by
  apply Int32.toInt_inj.mp
  have := c_i2c z
  omega
theorem own_asym32 {x y : Int32} (h : y < x) : ¬ x < y := fun q => by rw [Int32.lt_iff_toInt_lt] at *; omega
theorem own_asym64 {x y : Int64} (h : y < x) : ¬ x < y := fun q => by rw [Int64.lt_iff_toInt_lt] at *; omega
theorem own_irr32 {x y : Int32} (h : x = y) : ¬ x < y := fun q => by rw [Int32.lt_iff_toInt_lt] at *; subst h; omega
theorem own_irr64 {x y : Int64} (h : x = y) : ¬ x < y := fun q => by rw [Int64.lt_iff_toInt_lt] at *; subst h; omega
theorem own_tri32 {x y : Int32} (h : ¬ y < x) (g : ¬ x = y) : x < y := by
  rw [← Int32.toInt_inj] at g; rw [Int32.lt_iff_toInt_lt] at *; omega
theorem own_tri64 {x y : Int64} (h : ¬ y < x) (g : ¬ x = y) : x < y := by
  rw [← Int64.toInt_inj] at g; rw [Int64.lt_iff_toInt_lt] at *; omega
theorem own_nlt32 {x y : Int32} (h : x < y) : ¬ x = y := fun q => own_irr32 q h
theorem own_nlt64 {x y : Int64} (h : x < y) : ¬ x = y := fun q => own_irr64 q h
theorem own_ngt32 {x y : Int32} (h : y < x) : ¬ x = y := fun q => own_irr32 q.symm h
theorem own_ngt64 {x y : Int64} (h : y < x) : ¬ x = y := fun q => own_irr64 q.symm h
theorem own_both32 {x y : Int32} (h : ¬ x < y) (g : ¬ y < x) : x = y := by
  rw [← Int32.toInt_inj]; rw [Int32.lt_iff_toInt_lt] at *; omega
theorem own_both64 {x y : Int64} (h : ¬ x < y) (g : ¬ y < x) : x = y := by
  rw [← Int64.toInt_inj]; rw [Int64.lt_iff_toInt_lt] at *; omega
theorem own_rem (z d : Int32) (hd : d ≠ 0) (h0 : 0 ≤ z.toInt) (n : Nat) (hn : d.toInt = n) (hn2 : n ≤ 2147483648) : ∃ k : Nat, k < n ∧ z % d = Int32.ofNat k := by
  have hr := c_irem z d n hn
  have hn0 : n ≠ 0 := fun q => hd (Int32.toInt_inj.mp (by rw [hn, q]; rfl))
  have h1 := hr.1 h0
  have h2 : 0 ≤ z.toInt % (n : Int) := Int.emod_nonneg _ (by omega)
  have h3 : z.toInt % (n : Int) < n := Int.emod_lt_of_pos _ (by omega)
  exact own_nat _ n hn2 (by omega) (by omega)
theorem own_ALt32 {e j k : Int32} (h : e < j) (q : j.toInt ≤ k.toInt) : e < k := by
  rw [Int32.lt_iff_toInt_lt] at *; omega
theorem own_AGf32 {e j k : Int32} (h : e < j) (q : j.toInt ≤ k.toInt + 1) : ¬ k < e := by
  rw [Int32.lt_iff_toInt_lt] at *; omega
theorem own_AEf32 {e j k : Int32} (h : e < j) (q : j.toInt ≤ k.toInt) : ¬ e = k := by
  intro z; subst z; rw [Int32.lt_iff_toInt_lt] at h; omega
theorem own_BLf32 {e j k : Int32} (h : ¬ e < j) (q : k.toInt ≤ j.toInt) : ¬ e < k := by
  rw [Int32.lt_iff_toInt_lt] at *; omega
theorem own_BGt32 {e j k : Int32} (h : ¬ e < j) (q : k.toInt < j.toInt) : k < e := by
  rw [Int32.lt_iff_toInt_lt] at *; omega
theorem own_BEf32 {e j k : Int32} (h : ¬ e < j) (q : k.toInt < j.toInt) : ¬ e = k := by
  intro z; subst z; rw [Int32.lt_iff_toInt_lt] at h; omega
theorem own_CLf32 {e j k : Int32} (h : j < e) (q : k.toInt ≤ j.toInt + 1) : ¬ e < k := by
  rw [Int32.lt_iff_toInt_lt] at *; omega
theorem own_CGt32 {e j k : Int32} (h : j < e) (q : k.toInt ≤ j.toInt) : k < e := by
  rw [Int32.lt_iff_toInt_lt] at *; omega
theorem own_CEf32 {e j k : Int32} (h : j < e) (q : k.toInt ≤ j.toInt) : ¬ e = k := by
  intro z; subst z; rw [Int32.lt_iff_toInt_lt] at h; omega
theorem own_DLt32 {e j k : Int32} (h : ¬ j < e) (q : j.toInt < k.toInt) : e < k := by
  rw [Int32.lt_iff_toInt_lt] at *; omega
theorem own_DGf32 {e j k : Int32} (h : ¬ j < e) (q : j.toInt ≤ k.toInt) : ¬ k < e := by
  rw [Int32.lt_iff_toInt_lt] at *; omega
theorem own_DEf32 {e j k : Int32} (h : ¬ j < e) (q : j.toInt < k.toInt) : ¬ e = k := by
  intro z; subst z; rw [Int32.lt_iff_toInt_lt] at h; omega
theorem own_eqEt32 {e j k : Int32} (h : e = j) (q : j = k) : e = k := by rw [h]; exact q
theorem own_eqEf32 {e j k : Int32} (h : e = j) (q : ¬ j = k) : ¬ e = k := by rw [h]; exact q
theorem own_eqLt32 {e j k : Int32} (h : e = j) (q : j < k) : e < k := by rw [h]; exact q
theorem own_eqLf32 {e j k : Int32} (h : e = j) (q : ¬ j < k) : ¬ e < k := by rw [h]; exact q
theorem own_eqGt32 {e j k : Int32} (h : e = j) (q : k < j) : k < e := by rw [h]; exact q
theorem own_eqGf32 {e j k : Int32} (h : e = j) (q : ¬ k < j) : ¬ k < e := by rw [h]; exact q
theorem own_ALt64 {e j k : Int64} (h : e < j) (q : j.toInt ≤ k.toInt) : e < k := by
  rw [Int64.lt_iff_toInt_lt] at *; omega
theorem own_AGf64 {e j k : Int64} (h : e < j) (q : j.toInt ≤ k.toInt + 1) : ¬ k < e := by
  rw [Int64.lt_iff_toInt_lt] at *; omega
theorem own_AEf64 {e j k : Int64} (h : e < j) (q : j.toInt ≤ k.toInt) : ¬ e = k := by
  intro z; subst z; rw [Int64.lt_iff_toInt_lt] at h; omega
theorem own_BLf64 {e j k : Int64} (h : ¬ e < j) (q : k.toInt ≤ j.toInt) : ¬ e < k := by
  rw [Int64.lt_iff_toInt_lt] at *; omega
theorem own_BGt64 {e j k : Int64} (h : ¬ e < j) (q : k.toInt < j.toInt) : k < e := by
  rw [Int64.lt_iff_toInt_lt] at *; omega
theorem own_BEf64 {e j k : Int64} (h : ¬ e < j) (q : k.toInt < j.toInt) : ¬ e = k := by
  intro z; subst z; rw [Int64.lt_iff_toInt_lt] at h; omega
theorem own_CLf64 {e j k : Int64} (h : j < e) (q : k.toInt ≤ j.toInt + 1) : ¬ e < k := by
  rw [Int64.lt_iff_toInt_lt] at *; omega
theorem own_CGt64 {e j k : Int64} (h : j < e) (q : k.toInt ≤ j.toInt) : k < e := by
  rw [Int64.lt_iff_toInt_lt] at *; omega
theorem own_CEf64 {e j k : Int64} (h : j < e) (q : k.toInt ≤ j.toInt) : ¬ e = k := by
  intro z; subst z; rw [Int64.lt_iff_toInt_lt] at h; omega
theorem own_DLt64 {e j k : Int64} (h : ¬ j < e) (q : j.toInt < k.toInt) : e < k := by
  rw [Int64.lt_iff_toInt_lt] at *; omega
theorem own_DGf64 {e j k : Int64} (h : ¬ j < e) (q : j.toInt ≤ k.toInt) : ¬ k < e := by
  rw [Int64.lt_iff_toInt_lt] at *; omega
theorem own_DEf64 {e j k : Int64} (h : ¬ j < e) (q : j.toInt < k.toInt) : ¬ e = k := by
  intro z; subst z; rw [Int64.lt_iff_toInt_lt] at h; omega
theorem own_eqEt64 {e j k : Int64} (h : e = j) (q : j = k) : e = k := by rw [h]; exact q
theorem own_eqEf64 {e j k : Int64} (h : e = j) (q : ¬ j = k) : ¬ e = k := by rw [h]; exact q
theorem own_eqLt64 {e j k : Int64} (h : e = j) (q : j < k) : e < k := by rw [h]; exact q
theorem own_eqLf64 {e j k : Int64} (h : e = j) (q : ¬ j < k) : ¬ e < k := by rw [h]; exact q
theorem own_eqGt64 {e j k : Int64} (h : e = j) (q : k < j) : k < e := by rw [h]; exact q
theorem own_eqGf64 {e j k : Int64} (h : e = j) (q : ¬ k < j) : ¬ k < e := by rw [h]; exact q
theorem own_five (x : Int32) : let z := (x &&& (2147483647 : Int32)) % (5 : Int32); z = (0 : Int32) ∨ z = (1 : Int32) ∨ z = (2 : Int32) ∨ z = (3 : Int32) ∨ z = (4 : Int32) := by
  intro z
  have hm := c_mask x 2147483647 31 (by decide) (by decide)
  obtain ⟨k, hk, e⟩ := own_rem (x &&& (2147483647 : Int32)) 5 (by decide) (by rw [hm]; omega) 5 (by decide) (by decide)
  have e' : z = Int32.ofNat k := e
  rw [e']
  have : k = 0 ∨ k = 1 ∨ k = 2 ∨ k = 3 ∨ k = 4 := by omega
  rcases this with rfl | rfl | rfl | rfl | rfl <;> decide
theorem own_r1 (x : Int32) : ((x &&& (2147483647 : Int32)) % (1 : Int32)) = (0 : Int32) := by
  have hm := c_mask x 2147483647 31 (by decide) (by decide)
  obtain ⟨k, hk, e⟩ := own_rem (x &&& (2147483647 : Int32)) 1 (by decide) (by rw [hm]; omega) 1 (by decide) (by decide)
  rw [e]
  have : k = 0 := by omega
  subst this; decide
theorem own_r2 (x : Int32) : ((x &&& (2147483647 : Int32)) % (2 : Int32)) = (0 : Int32) ∨ ((x &&& (2147483647 : Int32)) % (2 : Int32)) = (1 : Int32) := by
  have hm := c_mask x 2147483647 31 (by decide) (by decide)
  obtain ⟨k, hk, e⟩ := own_rem (x &&& (2147483647 : Int32)) 2 (by decide) (by rw [hm]; omega) 2 (by decide) (by decide)
  rw [e]
  have : k = 0 ∨ k = 1 := by omega
  rcases this with rfl | rfl <;> decide
theorem own_r3 (x : Int32) : ((x &&& (2147483647 : Int32)) % (3 : Int32)) = (0 : Int32) ∨ ((x &&& (2147483647 : Int32)) % (3 : Int32)) = (1 : Int32) ∨ ((x &&& (2147483647 : Int32)) % (3 : Int32)) = (2 : Int32) := by
  have hm := c_mask x 2147483647 31 (by decide) (by decide)
  obtain ⟨k, hk, e⟩ := own_rem (x &&& (2147483647 : Int32)) 3 (by decide) (by rw [hm]; omega) 3 (by decide) (by decide)
  rw [e]
  have : k = 0 ∨ k = 1 ∨ k = 2 := by omega
  rcases this with rfl | rfl | rfl <;> decide
theorem own_r4 (x : Int32) : ((x &&& (2147483647 : Int32)) % (4 : Int32)) = (0 : Int32) ∨ ((x &&& (2147483647 : Int32)) % (4 : Int32)) = (1 : Int32) ∨ ((x &&& (2147483647 : Int32)) % (4 : Int32)) = (2 : Int32) ∨ ((x &&& (2147483647 : Int32)) % (4 : Int32)) = (3 : Int32) := by
  have hm := c_mask x 2147483647 31 (by decide) (by decide)
  obtain ⟨k, hk, e⟩ := own_rem (x &&& (2147483647 : Int32)) 4 (by decide) (by rw [hm]; omega) 4 (by decide) (by decide)
  rw [e]
  have : k = 0 ∨ k = 1 ∨ k = 2 ∨ k = 3 := by omega
  rcases this with rfl | rfl | rfl | rfl <;> decide
theorem own_7 (x : Int32) : ¬ ((x &&& (127 : Int32)).toInt8.toInt32) < 0 := by
  have hm := c_mask x 127 7 (by decide) (by decide)
  have hb := c_i2b (x &&& (127 : Int32))
  rw [Int32.lt_iff_toInt_lt, show (0 : Int32).toInt = 0 from rfl]
  omega
theorem d2_0 : decode prog_17_method_2_code 0 = .ok (.aload_n 0, 1) := by decide +kernel
theorem d2_1 : decode prog_17_method_2_code 1 = .ok (.invokespecial 7, 3) := by decide +kernel
theorem d2_4 : decode prog_17_method_2_code 4 = .ok (.aload_n 0, 1) := by decide +kernel
theorem d2_5 : decode prog_17_method_2_code 5 = .ok (.aload_n 1, 1) := by decide +kernel
theorem d2_6 : decode prog_17_method_2_code 6 = .ok (.putfield 12, 3) := by decide +kernel
theorem d2_9 : decode prog_17_method_2_code 9 = .ok (.aload_n 0, 1) := by decide +kernel
theorem d2_10 : decode prog_17_method_2_code 10 = .ok (.iload_n 2, 1) := by decide +kernel
theorem d2_11 : decode prog_17_method_2_code 11 = .ok (.putfield 16, 3) := by decide +kernel
theorem d2_14 : decode prog_17_method_2_code 14 = .ok (.aload_n 0, 1) := by decide +kernel
theorem d2_15 : decode prog_17_method_2_code 15 = .ok (.iload_n 3, 1) := by decide +kernel
theorem d2_16 : decode prog_17_method_2_code 16 = .ok (.putfield 20, 3) := by decide +kernel
theorem d2_19 : decode prog_17_method_2_code 19 = .ok (.aload_n 0, 1) := by decide +kernel
theorem d2_20 : decode prog_17_method_2_code 20 = .ok (.aload 4, 2) := by decide +kernel
theorem d2_22 : decode prog_17_method_2_code 22 = .ok (.putfield 23, 3) := by decide +kernel
theorem d2_25 : decode prog_17_method_2_code 25 = .ok (.return_, 1) := by decide +kernel
theorem pn_0 : plainName "com/example/bad_status/badstatus/model/ProtoReader" = true := by first | (simp [plainName, overriddenIn]; done) | decide +kernel
theorem ef_rmI2n (m : MethodId) (a0 : Addr) (a1 : Addr) (p2 : Int32) (p3 : Int32) : entryFrame m #[(.ref a0), (.ref a1), (.int p2), (.int p3), .null] 5 = mkF m 0 #[.val (.ref a0), .val (.ref a1), .val (.int p2), .val (.int p3), .val .null] [] := by first | (simp [entryFrame, mkF, argsToLocals, Value.category]; done) | rfl
def Q_rmI2n (Z : State) (a0 : Addr) (a1 : Addr) (p2 : Int32) (p3 : Int32) (h0 : Heap) (n0 : Nat) (v : Option Value) (h : Heap) (L : List Loc) : Prop := v = none ∧ Fr n0 L ∧ Keep h0 h [a0] ∧ Exa Z h a0 "com/example/bad_status/badstatus/model/ProtoReader" ∧ Fld Z h a0 "com/example/bad_status/badstatus/model/ProtoReader" "bytes" "[B" (.ref a1) ∧ Fld Z h a0 "com/example/bad_status/badstatus/model/ProtoReader" "position" "I" (.int p2) ∧ Fld Z h a0 "com/example/bad_status/badstatus/model/ProtoReader" "end" "I" (.int p3) ∧ Fld Z h a0 "com/example/bad_status/badstatus/model/ProtoReader" "place" "Lcom/example/bad_status/badstatus/model/Place;" .null
set_option maxRecDepth 65536 in
set_option maxHeartbeats 40000000 in
theorem rmI2n (l : Launch) (Z : State) (av0 : Array Value) (hw : ∀ d ∈ tables_1, d.before av0 Z = true) (ws : List Jvm.Cond) (a0 : Addr) (a1 : Addr) (p2 : Int32) (p3 : Int32) (h0 : Heap) (n0 : Nat) (Z0 : n0 ≤ h0.size) (E_a0 : Exa Z h0 a0 "com/example/bad_status/badstatus/model/ProtoReader") (F_bytes_a0 : Fld Z h0 a0 "com/example/bad_status/badstatus/model/ProtoReader" "bytes" "[B" .null) (F_position_a0 : Fld Z h0 a0 "com/example/bad_status/badstatus/model/ProtoReader" "position" "I" (.int (0 : Int32))) (F_end_a0 : Fld Z h0 a0 "com/example/bad_status/badstatus/model/ProtoReader" "end" "I" (.int (0 : Int32))) (F_place_a0 : Fld Z h0 a0 "com/example/bad_status/badstatus/model/ProtoReader" "place" "Lcom/example/bad_status/badstatus/model/Place;" .null) (g_a0 : n0 ≤ a0) :
    MetFree l (⟨"com/example/bad_status/badstatus/model/ProtoReader", "<init>", "([BIILcom/example/bad_status/badstatus/model/Place;)V"⟩ : MethodName) (head1 (Jvm.Cond.code (⟨"com/example/bad_status/badstatus/model/ProtoReader", "<init>", "([BIILcom/example/bad_status/badstatus/model/Place;)V"⟩ : MethodName) prog_17_method_2_code 5 none :: ws) ({ frames := 1, cells := 0, slots := 0, locals := 12 } : Room)) (fun a U => a = #[(.ref a0), (.ref a1), (.int p2), (.int p3), .null] ∧ Z.Warmed39 U.vm ∧ U.heap = h0) (fun _ _ _ _ _ => True) (fun _ U o U' => ∃ v L, o = .returned v ∧ Q_rmI2n Z a0 a1 p2 p3 h0 n0 v U'.heap L ∧ FrameEnd U o U' L ({ frames := 1, cells := 0, slots := 0, locals := 12 } : Room).cells ({ frames := 1, cells := 0, slots := 0, locals := 12 } : Room).slots) := by
  refine MetFree.of_bodySF (plainFor_of_name pn_0) hisR ?_
  intro p e s m args below meth c s₁ Bd hml0 hP hK
  obtain ⟨rfl, hZ, hh⟩ := hP
  have hx := Bd.exec
  have hby := Bd.bytes
  have hml : c.maxLocals = 5 := hml0
  have dd : ∀ {pc : Nat} {r : Except DecodeError (Instr × Nat)}, decode prog_17_method_2_code pc = r → decode c.code pc = r := fun q => hb hby q
  have hown : s.vm.findClass "com/example/bad_status/badstatus/model/ProtoReader" = some m.cls := findClass_of_methodNamed Bd.named
  have hnm := (name_of_methodNamed Bd.named Bd.method).1
  have X0 : Stand p l e ({ frames := 1, cells := 0, slots := 0, locals := 12 } : Room) s m #[(.ref a0), (.ref a1), (.int p2), (.int p3), .null] below meth c s₁ [] 0 0 := Stand.of_body Bd
  have e0 : s₁.heap = h0 := by rw [← hh, Bd.state]; rfl
  have N0 := Fr.nil n0
  have hret := Bd.returns
  have hlk := Bd.notSynchronized
  show Gz p e below s ({ frames := 1, cells := 0, slots := 0, locals := 12 } : Room).cells ({ frames := 1, cells := 0, slots := 0, locals := 12 } : Room).slots (Q_rmI2n Z a0 a1 p2 p3 h0 n0) (s₁.setTop (entryFrame m #[(.ref a0), (.ref a1), (.int p2), (.int p3), .null] 5))
  refine Gz.enter (ef_rmI2n m a0 a1 p2 p3) ?_
  refine Gz.aloadN 1 X0 hx (dd d2_0) rfl rfl rfl ?_
  obtain ⟨T1, X1, e1, st1⟩ := initO X0 hx hZ hown (ww hw 11 rfl) (ww hw 12 rfl) (ww hw 13 rfl) e0 (g := (mkF m 1 #[.val (.ref a0), .val (.ref a1), .val (.int p2), .val (.int p3), .val .null] [(.ref a0)])) rfl (by rw [hml]; rfl) rfl (dd d2_1) (by decide) (W := 0) (Nat.le_refl _) (by decide)
  refine Gz.st st1 ?_
  refine Gz.aloadN 5 X1 hx (dd d2_4) rfl rfl rfl ?_
  refine Gz.aloadN 6 X1 hx (dd d2_5) rfl rfl rfl ?_
  refine Gz.putF 9 X1 hx hZ hown (.array .byte) (dd d2_6) (host := "") (Or.inl (ww hw 14 rfl)) Via.refl e1 F_bytes_a0 E_a0 (Or.inr ⟨(ww hw 15 rfl), rfl, hnm⟩) (ww hw 3 rfl) (by decide) rfl rfl rfl fun T2 h2 X2 e2 W2 => ?_
  have f2_E_a0 := Exa.wr W2 E_a0
  have f2_F_position_a0 := Fld.other W2 F_position_a0 (Or.inr (slot_ne (Or.inl (ww hw 17 rfl)) (Or.inr (ww hw 15 rfl)) (by decide) (t := .int) (t' := (.array .byte)) (by decide) (by decide)))
  have f2_F_end_a0 := Fld.other W2 F_end_a0 (Or.inr (slot_ne (Or.inr (ww hw 19 rfl)) (Or.inr (ww hw 15 rfl)) (by decide) (t := .int) (t' := (.array .byte)) (by decide) (by decide)))
  have f2_F_place_a0 := Fld.other W2 F_place_a0 (Or.inr (slot_ne (Or.inr (ww hw 21 rfl)) (Or.inr (ww hw 15 rfl)) (by decide) (t := (.object "com/example/bad_status/badstatus/model/Place")) (t' := (.array .byte)) (by decide) (by decide)))
  have f2_F_bytes_a0 := Fld.same W2 F_bytes_a0
  have N2 := Fr.snoc X2 N0 g_a0
  have SZ2 : n0 ≤ h2.size := Nat.le_trans Z0 (Keep.of_wr W2).1
  have K2 := Keep.wr (Keep.refl h0 [a0]) W2 (Or.inl (List.mem_of_getElem? (i := 0) rfl))
  refine Gz.aloadN 10 X2 hx (dd d2_9) rfl rfl rfl ?_
  refine Gz.iloadN 11 X2 hx (dd d2_10) rfl rfl ?_
  refine Gz.putF 14 X2 hx hZ hown .int (dd d2_11) (host := "") (Or.inl (ww hw 16 rfl)) Via.refl e2 f2_F_position_a0 f2_E_a0 (Or.inl (ww hw 17 rfl)) (ww hw 3 rfl) (by decide) rfl rfl rfl fun T3 h3 X3 e3 W3 => ?_
  have f3_E_a0 := Exa.wr W3 f2_E_a0
  have f3_F_bytes_a0 := Fld.other W3 f2_F_bytes_a0 (Or.inr (slot_ne (Or.inr (ww hw 15 rfl)) (Or.inl (ww hw 17 rfl)) (by decide) (t := (.array .byte)) (t' := .int) (by decide) (by decide)))
  have f3_F_end_a0 := Fld.other W3 f2_F_end_a0 (Or.inr (slot_ne (Or.inr (ww hw 19 rfl)) (Or.inl (ww hw 17 rfl)) (by decide) (t := .int) (t' := .int) (by decide) (by decide)))
  have f3_F_place_a0 := Fld.other W3 f2_F_place_a0 (Or.inr (slot_ne (Or.inr (ww hw 21 rfl)) (Or.inl (ww hw 17 rfl)) (by decide) (t := (.object "com/example/bad_status/badstatus/model/Place")) (t' := .int) (by decide) (by decide)))
  have f3_F_position_a0 := Fld.same W3 f2_F_position_a0
  have N3 := Fr.snoc X3 N2 g_a0
  have SZ3 : n0 ≤ h3.size := Nat.le_trans SZ2 (Keep.of_wr W3).1
  have K3 := Keep.wr K2 W3 (Or.inl (List.mem_of_getElem? (i := 0) rfl))
  refine Gz.aloadN 15 X3 hx (dd d2_14) rfl rfl rfl ?_
  refine Gz.iloadN 16 X3 hx (dd d2_15) rfl rfl ?_
  refine Gz.putF 19 X3 hx hZ hown .int (dd d2_16) (host := "") (Or.inl (ww hw 18 rfl)) Via.refl e3 f3_F_end_a0 f3_E_a0 (Or.inr ⟨(ww hw 19 rfl), rfl, hnm⟩) (ww hw 3 rfl) (by decide) rfl rfl rfl fun T4 h4 X4 e4 W4 => ?_
  have f4_E_a0 := Exa.wr W4 f3_E_a0
  have f4_F_bytes_a0 := Fld.other W4 f3_F_bytes_a0 (Or.inr (slot_ne (Or.inr (ww hw 15 rfl)) (Or.inr (ww hw 19 rfl)) (by decide) (t := (.array .byte)) (t' := .int) (by decide) (by decide)))
  have f4_F_position_a0 := Fld.other W4 f3_F_position_a0 (Or.inr (slot_ne (Or.inl (ww hw 17 rfl)) (Or.inr (ww hw 19 rfl)) (by decide) (t := .int) (t' := .int) (by decide) (by decide)))
  have f4_F_place_a0 := Fld.other W4 f3_F_place_a0 (Or.inr (slot_ne (Or.inr (ww hw 21 rfl)) (Or.inr (ww hw 19 rfl)) (by decide) (t := (.object "com/example/bad_status/badstatus/model/Place")) (t' := .int) (by decide) (by decide)))
  have f4_F_end_a0 := Fld.same W4 f3_F_end_a0
  have N4 := Fr.snoc X4 N3 g_a0
  have SZ4 : n0 ≤ h4.size := Nat.le_trans SZ3 (Keep.of_wr W4).1
  have K4 := Keep.wr K3 W4 (Or.inl (List.mem_of_getElem? (i := 0) rfl))
  refine Gz.aloadN 20 X4 hx (dd d2_19) rfl rfl rfl ?_
  refine Gz.aload 22 X4 hx (dd d2_20) rfl rfl rfl ?_
  refine Gz.putF 25 X4 hx hZ hown (.object "com/example/bad_status/badstatus/model/Place") (dd d2_22) (host := "") (Or.inl (ww hw 20 rfl)) Via.refl e4 f4_F_place_a0 f4_E_a0 (Or.inr ⟨(ww hw 21 rfl), rfl, hnm⟩) (ww hw 3 rfl) (by decide) rfl rfl rfl fun T5 h5 X5 e5 W5 => ?_
  have f5_E_a0 := Exa.wr W5 f4_E_a0
  have f5_F_bytes_a0 := Fld.other W5 f4_F_bytes_a0 (Or.inr (slot_ne (Or.inr (ww hw 15 rfl)) (Or.inr (ww hw 21 rfl)) (by decide) (t := (.array .byte)) (t' := (.object "com/example/bad_status/badstatus/model/Place")) (by decide) (by decide)))
  have f5_F_position_a0 := Fld.other W5 f4_F_position_a0 (Or.inr (slot_ne (Or.inl (ww hw 17 rfl)) (Or.inr (ww hw 21 rfl)) (by decide) (t := .int) (t' := (.object "com/example/bad_status/badstatus/model/Place")) (by decide) (by decide)))
  have f5_F_end_a0 := Fld.other W5 f4_F_end_a0 (Or.inr (slot_ne (Or.inr (ww hw 19 rfl)) (Or.inr (ww hw 21 rfl)) (by decide) (t := .int) (t' := (.object "com/example/bad_status/badstatus/model/Place")) (by decide) (by decide)))
  have f5_F_place_a0 := Fld.same W5 f4_F_place_a0
  have N5 := Fr.snoc X5 N4 g_a0
  have SZ5 : n0 ≤ h5.size := Nat.le_trans SZ4 (Keep.of_wr W5).1
  have K5 := Keep.wr K4 W5 (Or.inl (List.mem_of_getElem? (i := 0) rfl))
  refine Gz.fin X5 (v := none) (fun _ => rfl) hlk (by decide) (by decide) (fun fs hr => X5.returnOut hx hret (dd d2_25) hr) ?_
  rw [e5]
  exact ⟨rfl, N5, K5, f5_E_a0, f5_F_bytes_a0, f5_F_position_a0, f5_F_end_a0, f5_F_place_a0⟩
theorem ef_rmI2 (m : MethodId) (a0 : Addr) (a1 : Addr) (p2 : Int32) (p3 : Int32) (a4 : Addr) : entryFrame m #[(.ref a0), (.ref a1), (.int p2), (.int p3), (.ref a4)] 5 = mkF m 0 #[.val (.ref a0), .val (.ref a1), .val (.int p2), .val (.int p3), .val (.ref a4)] [] := by first | (simp [entryFrame, mkF, argsToLocals, Value.category]; done) | rfl
def Q_rmI2 (Z : State) (a0 : Addr) (a1 : Addr) (p2 : Int32) (p3 : Int32) (a4 : Addr) (h0 : Heap) (n0 : Nat) (v : Option Value) (h : Heap) (L : List Loc) : Prop := v = none ∧ Fr n0 L ∧ Keep h0 h [a0] ∧ Exa Z h a0 "com/example/bad_status/badstatus/model/ProtoReader" ∧ Fld Z h a0 "com/example/bad_status/badstatus/model/ProtoReader" "bytes" "[B" (.ref a1) ∧ Fld Z h a0 "com/example/bad_status/badstatus/model/ProtoReader" "position" "I" (.int p2) ∧ Fld Z h a0 "com/example/bad_status/badstatus/model/ProtoReader" "end" "I" (.int p3) ∧ Fld Z h a0 "com/example/bad_status/badstatus/model/ProtoReader" "place" "Lcom/example/bad_status/badstatus/model/Place;" (.ref a4)
set_option maxRecDepth 65536 in
set_option maxHeartbeats 40000000 in
theorem rmI2 (l : Launch) (Z : State) (av0 : Array Value) (hw : ∀ d ∈ tables_1, d.before av0 Z = true) (ws : List Jvm.Cond) (a0 : Addr) (a1 : Addr) (p2 : Int32) (p3 : Int32) (a4 : Addr) (h0 : Heap) (n0 : Nat) (Z0 : n0 ≤ h0.size) (E_a0 : Exa Z h0 a0 "com/example/bad_status/badstatus/model/ProtoReader") (F_bytes_a0 : Fld Z h0 a0 "com/example/bad_status/badstatus/model/ProtoReader" "bytes" "[B" .null) (F_position_a0 : Fld Z h0 a0 "com/example/bad_status/badstatus/model/ProtoReader" "position" "I" (.int (0 : Int32))) (F_end_a0 : Fld Z h0 a0 "com/example/bad_status/badstatus/model/ProtoReader" "end" "I" (.int (0 : Int32))) (F_place_a0 : Fld Z h0 a0 "com/example/bad_status/badstatus/model/ProtoReader" "place" "Lcom/example/bad_status/badstatus/model/Place;" .null) (g_a0 : n0 ≤ a0) :
    MetFree l (⟨"com/example/bad_status/badstatus/model/ProtoReader", "<init>", "([BIILcom/example/bad_status/badstatus/model/Place;)V"⟩ : MethodName) (head1 (Jvm.Cond.code (⟨"com/example/bad_status/badstatus/model/ProtoReader", "<init>", "([BIILcom/example/bad_status/badstatus/model/Place;)V"⟩ : MethodName) prog_17_method_2_code 5 none :: ws) ({ frames := 1, cells := 0, slots := 0, locals := 12 } : Room)) (fun a U => a = #[(.ref a0), (.ref a1), (.int p2), (.int p3), (.ref a4)] ∧ Z.Warmed39 U.vm ∧ U.heap = h0) (fun _ _ _ _ _ => True) (fun _ U o U' => ∃ v L, o = .returned v ∧ Q_rmI2 Z a0 a1 p2 p3 a4 h0 n0 v U'.heap L ∧ FrameEnd U o U' L ({ frames := 1, cells := 0, slots := 0, locals := 12 } : Room).cells ({ frames := 1, cells := 0, slots := 0, locals := 12 } : Room).slots) := by
  refine MetFree.of_bodySF (plainFor_of_name pn_0) hisR ?_
  intro p e s m args below meth c s₁ Bd hml0 hP hK
  obtain ⟨rfl, hZ, hh⟩ := hP
  have hx := Bd.exec
  have hby := Bd.bytes
  have hml : c.maxLocals = 5 := hml0
  have dd : ∀ {pc : Nat} {r : Except DecodeError (Instr × Nat)}, decode prog_17_method_2_code pc = r → decode c.code pc = r := fun q => hb hby q
  have hown : s.vm.findClass "com/example/bad_status/badstatus/model/ProtoReader" = some m.cls := findClass_of_methodNamed Bd.named
  have hnm := (name_of_methodNamed Bd.named Bd.method).1
  have X0 : Stand p l e ({ frames := 1, cells := 0, slots := 0, locals := 12 } : Room) s m #[(.ref a0), (.ref a1), (.int p2), (.int p3), (.ref a4)] below meth c s₁ [] 0 0 := Stand.of_body Bd
  have e0 : s₁.heap = h0 := by rw [← hh, Bd.state]; rfl
  have N0 := Fr.nil n0
  have hret := Bd.returns
  have hlk := Bd.notSynchronized
  show Gz p e below s ({ frames := 1, cells := 0, slots := 0, locals := 12 } : Room).cells ({ frames := 1, cells := 0, slots := 0, locals := 12 } : Room).slots (Q_rmI2 Z a0 a1 p2 p3 a4 h0 n0) (s₁.setTop (entryFrame m #[(.ref a0), (.ref a1), (.int p2), (.int p3), (.ref a4)] 5))
  refine Gz.enter (ef_rmI2 m a0 a1 p2 p3 a4) ?_
  refine Gz.aloadN 1 X0 hx (dd d2_0) rfl rfl rfl ?_
  obtain ⟨T1, X1, e1, st1⟩ := initO X0 hx hZ hown (ww hw 11 rfl) (ww hw 12 rfl) (ww hw 13 rfl) e0 (g := (mkF m 1 #[.val (.ref a0), .val (.ref a1), .val (.int p2), .val (.int p3), .val (.ref a4)] [(.ref a0)])) rfl (by rw [hml]; rfl) rfl (dd d2_1) (by decide) (W := 0) (Nat.le_refl _) (by decide)
  refine Gz.st st1 ?_
  refine Gz.aloadN 5 X1 hx (dd d2_4) rfl rfl rfl ?_
  refine Gz.aloadN 6 X1 hx (dd d2_5) rfl rfl rfl ?_
  refine Gz.putF 9 X1 hx hZ hown (.array .byte) (dd d2_6) (host := "") (Or.inl (ww hw 14 rfl)) Via.refl e1 F_bytes_a0 E_a0 (Or.inr ⟨(ww hw 15 rfl), rfl, hnm⟩) (ww hw 3 rfl) (by decide) rfl rfl rfl fun T2 h2 X2 e2 W2 => ?_
  have f2_E_a0 := Exa.wr W2 E_a0
  have f2_F_position_a0 := Fld.other W2 F_position_a0 (Or.inr (slot_ne (Or.inl (ww hw 17 rfl)) (Or.inr (ww hw 15 rfl)) (by decide) (t := .int) (t' := (.array .byte)) (by decide) (by decide)))
  have f2_F_end_a0 := Fld.other W2 F_end_a0 (Or.inr (slot_ne (Or.inr (ww hw 19 rfl)) (Or.inr (ww hw 15 rfl)) (by decide) (t := .int) (t' := (.array .byte)) (by decide) (by decide)))
  have f2_F_place_a0 := Fld.other W2 F_place_a0 (Or.inr (slot_ne (Or.inr (ww hw 21 rfl)) (Or.inr (ww hw 15 rfl)) (by decide) (t := (.object "com/example/bad_status/badstatus/model/Place")) (t' := (.array .byte)) (by decide) (by decide)))
  have f2_F_bytes_a0 := Fld.same W2 F_bytes_a0
  have N2 := Fr.snoc X2 N0 g_a0
  have SZ2 : n0 ≤ h2.size := Nat.le_trans Z0 (Keep.of_wr W2).1
  have K2 := Keep.wr (Keep.refl h0 [a0]) W2 (Or.inl (List.mem_of_getElem? (i := 0) rfl))
  refine Gz.aloadN 10 X2 hx (dd d2_9) rfl rfl rfl ?_
  refine Gz.iloadN 11 X2 hx (dd d2_10) rfl rfl ?_
  refine Gz.putF 14 X2 hx hZ hown .int (dd d2_11) (host := "") (Or.inl (ww hw 16 rfl)) Via.refl e2 f2_F_position_a0 f2_E_a0 (Or.inl (ww hw 17 rfl)) (ww hw 3 rfl) (by decide) rfl rfl rfl fun T3 h3 X3 e3 W3 => ?_
  have f3_E_a0 := Exa.wr W3 f2_E_a0
  have f3_F_bytes_a0 := Fld.other W3 f2_F_bytes_a0 (Or.inr (slot_ne (Or.inr (ww hw 15 rfl)) (Or.inl (ww hw 17 rfl)) (by decide) (t := (.array .byte)) (t' := .int) (by decide) (by decide)))
  have f3_F_end_a0 := Fld.other W3 f2_F_end_a0 (Or.inr (slot_ne (Or.inr (ww hw 19 rfl)) (Or.inl (ww hw 17 rfl)) (by decide) (t := .int) (t' := .int) (by decide) (by decide)))
  have f3_F_place_a0 := Fld.other W3 f2_F_place_a0 (Or.inr (slot_ne (Or.inr (ww hw 21 rfl)) (Or.inl (ww hw 17 rfl)) (by decide) (t := (.object "com/example/bad_status/badstatus/model/Place")) (t' := .int) (by decide) (by decide)))
  have f3_F_position_a0 := Fld.same W3 f2_F_position_a0
  have N3 := Fr.snoc X3 N2 g_a0
  have SZ3 : n0 ≤ h3.size := Nat.le_trans SZ2 (Keep.of_wr W3).1
  have K3 := Keep.wr K2 W3 (Or.inl (List.mem_of_getElem? (i := 0) rfl))
  refine Gz.aloadN 15 X3 hx (dd d2_14) rfl rfl rfl ?_
  refine Gz.iloadN 16 X3 hx (dd d2_15) rfl rfl ?_
  refine Gz.putF 19 X3 hx hZ hown .int (dd d2_16) (host := "") (Or.inl (ww hw 18 rfl)) Via.refl e3 f3_F_end_a0 f3_E_a0 (Or.inr ⟨(ww hw 19 rfl), rfl, hnm⟩) (ww hw 3 rfl) (by decide) rfl rfl rfl fun T4 h4 X4 e4 W4 => ?_
  have f4_E_a0 := Exa.wr W4 f3_E_a0
  have f4_F_bytes_a0 := Fld.other W4 f3_F_bytes_a0 (Or.inr (slot_ne (Or.inr (ww hw 15 rfl)) (Or.inr (ww hw 19 rfl)) (by decide) (t := (.array .byte)) (t' := .int) (by decide) (by decide)))
  have f4_F_position_a0 := Fld.other W4 f3_F_position_a0 (Or.inr (slot_ne (Or.inl (ww hw 17 rfl)) (Or.inr (ww hw 19 rfl)) (by decide) (t := .int) (t' := .int) (by decide) (by decide)))
  have f4_F_place_a0 := Fld.other W4 f3_F_place_a0 (Or.inr (slot_ne (Or.inr (ww hw 21 rfl)) (Or.inr (ww hw 19 rfl)) (by decide) (t := (.object "com/example/bad_status/badstatus/model/Place")) (t' := .int) (by decide) (by decide)))
  have f4_F_end_a0 := Fld.same W4 f3_F_end_a0
  have N4 := Fr.snoc X4 N3 g_a0
  have SZ4 : n0 ≤ h4.size := Nat.le_trans SZ3 (Keep.of_wr W4).1
  have K4 := Keep.wr K3 W4 (Or.inl (List.mem_of_getElem? (i := 0) rfl))
  refine Gz.aloadN 20 X4 hx (dd d2_19) rfl rfl rfl ?_
  refine Gz.aload 22 X4 hx (dd d2_20) rfl rfl rfl ?_
  refine Gz.putF 25 X4 hx hZ hown (.object "com/example/bad_status/badstatus/model/Place") (dd d2_22) (host := "") (Or.inl (ww hw 20 rfl)) Via.refl e4 f4_F_place_a0 f4_E_a0 (Or.inr ⟨(ww hw 21 rfl), rfl, hnm⟩) (ww hw 3 rfl) (by decide) rfl rfl rfl fun T5 h5 X5 e5 W5 => ?_
  have f5_E_a0 := Exa.wr W5 f4_E_a0
  have f5_F_bytes_a0 := Fld.other W5 f4_F_bytes_a0 (Or.inr (slot_ne (Or.inr (ww hw 15 rfl)) (Or.inr (ww hw 21 rfl)) (by decide) (t := (.array .byte)) (t' := (.object "com/example/bad_status/badstatus/model/Place")) (by decide) (by decide)))
  have f5_F_position_a0 := Fld.other W5 f4_F_position_a0 (Or.inr (slot_ne (Or.inl (ww hw 17 rfl)) (Or.inr (ww hw 21 rfl)) (by decide) (t := .int) (t' := (.object "com/example/bad_status/badstatus/model/Place")) (by decide) (by decide)))
  have f5_F_end_a0 := Fld.other W5 f4_F_end_a0 (Or.inr (slot_ne (Or.inr (ww hw 19 rfl)) (Or.inr (ww hw 21 rfl)) (by decide) (t := .int) (t' := (.object "com/example/bad_status/badstatus/model/Place")) (by decide) (by decide)))
  have f5_F_place_a0 := Fld.same W5 f4_F_place_a0
  have N5 := Fr.snoc X5 N4 g_a0
  have SZ5 : n0 ≤ h5.size := Nat.le_trans SZ4 (Keep.of_wr W5).1
  have K5 := Keep.wr K4 W5 (Or.inl (List.mem_of_getElem? (i := 0) rfl))
  refine Gz.fin X5 (v := none) (fun _ => rfl) hlk (by decide) (by decide) (fun fs hr => X5.returnOut hx hret (dd d2_25) hr) ?_
  rw [e5]
  exact ⟨rfl, N5, K5, f5_E_a0, f5_F_bytes_a0, f5_F_position_a0, f5_F_end_a0, f5_F_place_a0⟩
theorem pd_0 : parseMethodDescriptor "([BIILcom/example/bad_status/badstatus/model/Place;)V" = some ⟨[(.array .byte), .int, .int, (.object "com/example/bad_status/badstatus/model/Place")], none⟩ := by decide +kernel
abbrev ym0 : MethodName := ⟨"com/example/bad_status/badstatus/model/ProtoReader", "<init>", "([BIILcom/example/bad_status/badstatus/model/Place;)V"⟩
theorem d1_0 : decode prog_17_method_1_code 0 = .ok (.aload_n 0, 1) := by decide +kernel
theorem d1_1 : decode prog_17_method_1_code 1 = .ok (.aload_n 1, 1) := by decide +kernel
theorem d1_2 : decode prog_17_method_1_code 2 = .ok (.iconst 0, 1) := by decide +kernel
theorem d1_3 : decode prog_17_method_1_code 3 = .ok (.aload_n 1, 1) := by decide +kernel
theorem d1_4 : decode prog_17_method_1_code 4 = .ok (.arraylength, 1) := by decide +kernel
theorem d1_5 : decode prog_17_method_1_code 5 = .ok (.aconst_null, 1) := by decide +kernel
theorem d1_6 : decode prog_17_method_1_code 6 = .ok (.invokespecial 3, 3) := by decide +kernel
theorem d1_9 : decode prog_17_method_1_code 9 = .ok (.return_, 1) := by decide +kernel
theorem ef_rmI1_0 (m : MethodId) (a0 : Addr) (a1 : Addr) : entryFrame m #[(.ref a0), (.ref a1)] 2 = mkF m 0 #[.val (.ref a0), .val (.ref a1)] [] := by first | (simp [entryFrame, mkF, argsToLocals, Value.category]; done) | rfl
def Q_rmI1_0 (Z : State) (a0 : Addr) (a1 : Addr) (k_a1 : ClassId) (h0 : Heap) (n0 : Nat) (v : Option Value) (h : Heap) (L : List Loc) : Prop := v = none ∧ Fr n0 L ∧ Keep h0 h [a0] ∧ Exa Z h a0 "com/example/bad_status/badstatus/model/ProtoReader" ∧ Fld Z h a0 "com/example/bad_status/badstatus/model/ProtoReader" "bytes" "[B" (.ref a1) ∧ Fld Z h a0 "com/example/bad_status/badstatus/model/ProtoReader" "position" "I" (.int (0 : Int32)) ∧ Fld Z h a0 "com/example/bad_status/badstatus/model/ProtoReader" "end" "I" (.int (0 : Int32)) ∧ Fld Z h a0 "com/example/bad_status/badstatus/model/ProtoReader" "place" "Lcom/example/bad_status/badstatus/model/Place;" .null
set_option maxRecDepth 65536 in
set_option maxHeartbeats 40000000 in
theorem rmI1_0 (l : Launch) (Z : State) (av0 : Array Value) (hw : ∀ d ∈ tables_1, d.before av0 Z = true) (ws : List Jvm.Cond) (a0 : Addr) (a1 : Addr) (k_a1 : ClassId) (h0 : Heap) (n0 : Nat) (Z0 : n0 ≤ h0.size) (E_a0 : Exa Z h0 a0 "com/example/bad_status/badstatus/model/ProtoReader") (F_bytes_a0 : Fld Z h0 a0 "com/example/bad_status/badstatus/model/ProtoReader" "bytes" "[B" .null) (F_position_a0 : Fld Z h0 a0 "com/example/bad_status/badstatus/model/ProtoReader" "position" "I" (.int (0 : Int32))) (F_end_a0 : Fld Z h0 a0 "com/example/bad_status/badstatus/model/ProtoReader" "end" "I" (.int (0 : Int32))) (F_place_a0 : Fld Z h0 a0 "com/example/bad_status/badstatus/model/ProtoReader" "place" "Lcom/example/bad_status/badstatus/model/Place;" .null) (g_a0 : n0 ≤ a0) (V_a1 : Arv Z h0 a1 k_a1 .byte (0 : Int32) [] (.int (0 : Int32))) (ne_a1_a0 : a1 ≠ a0) :
    MetFree l (⟨"com/example/bad_status/badstatus/model/ProtoReader", "<init>", "([B)V"⟩ : MethodName) (head1 (Jvm.Cond.code (⟨"com/example/bad_status/badstatus/model/ProtoReader", "<init>", "([B)V"⟩ : MethodName) prog_17_method_1_code 2 none :: ws) ({ frames := 2, cells := 0, slots := 0, locals := 28 } : Room)) (fun a U => a = #[(.ref a0), (.ref a1)] ∧ Z.Warmed39 U.vm ∧ U.heap = h0) (fun _ _ _ _ _ => True) (fun _ U o U' => ∃ v L, o = .returned v ∧ Q_rmI1_0 Z a0 a1 k_a1 h0 n0 v U'.heap L ∧ FrameEnd U o U' L ({ frames := 2, cells := 0, slots := 0, locals := 28 } : Room).cells ({ frames := 2, cells := 0, slots := 0, locals := 28 } : Room).slots) := by
  refine MetFree.of_bodySF (plainFor_of_name pn_0) hisR ?_
  intro p e s m args below meth c s₁ Bd hml0 hP hK
  obtain ⟨rfl, hZ, hh⟩ := hP
  have hx := Bd.exec
  have hby := Bd.bytes
  have hml : c.maxLocals = 2 := hml0
  have dd : ∀ {pc : Nat} {r : Except DecodeError (Instr × Nat)}, decode prog_17_method_1_code pc = r → decode c.code pc = r := fun q => hb hby q
  have hown : s.vm.findClass "com/example/bad_status/badstatus/model/ProtoReader" = some m.cls := findClass_of_methodNamed Bd.named
  have hnm := (name_of_methodNamed Bd.named Bd.method).1
  have X0 : Stand p l e ({ frames := 2, cells := 0, slots := 0, locals := 28 } : Room) s m #[(.ref a0), (.ref a1)] below meth c s₁ [] 0 0 := Stand.of_body Bd
  have e0 : s₁.heap = h0 := by rw [← hh, Bd.state]; rfl
  have N0 := Fr.nil n0
  have hret := Bd.returns
  have hlk := Bd.notSynchronized
  show Gz p e below s ({ frames := 2, cells := 0, slots := 0, locals := 28 } : Room).cells ({ frames := 2, cells := 0, slots := 0, locals := 28 } : Room).slots (Q_rmI1_0 Z a0 a1 k_a1 h0 n0) (s₁.setTop (entryFrame m #[(.ref a0), (.ref a1)] 2))
  refine Gz.enter (ef_rmI1_0 m a0 a1) ?_
  refine Gz.aloadN 1 X0 hx (dd d1_0) rfl rfl rfl ?_
  refine Gz.aloadN 2 X0 hx (dd d1_1) rfl rfl rfl ?_
  refine Gz.iconst 3 (0 : Int32) X0 hx (dd d1_2) rfl rfl ?_
  refine Gz.aloadN 4 X0 hx (dd d1_3) rfl rfl rfl ?_
  obtain ⟨c1, A1, -, S1, N1, -, -⟩ := id V_a1
  refine Gz.alen 5 X0 hx hZ (dd d1_4) e0 A1 S1 N1 rfl ?_
  refine Gz.aconstNull 6 X0 hx (dd d1_5) rfl ?_
  obtain ⟨_, _, ⟨T2, L2, k2, n2⟩, -, X2, ⟨Lc2, hQ2, l2, y2, z2⟩, st2⟩ := X0.specialBack hx (y := ym0) rfl hown (mvT hZ (ww hw 8 rfl)) (mvT hZ (ww hw 9 rfl)) (mvT hZ (ww hw 10 rfl)) (by decide) (backOf (W := 0) (rmI2n l Z av0 hw [] a0 a1 (0 : Int32) (0 : Int32)  h0 n0 Z0 E_a0 F_bytes_a0 F_position_a0 F_end_a0 F_place_a0 g_a0) hZ (ww hw 10 rfl) (ww hw 4 rfl) (by decide) (by decide)) (g := (mkF m 6 #[.val (.ref a0), .val (.ref a1)] [.null, (.int (0 : Int32)), (.int (0 : Int32)), (.ref a1), (.ref a0)])) rfl (by rw [hml]; rfl) (Steps.refl _) (a := a0) (argsL := [(.ref a1), (.int (0 : Int32)), (.int (0 : Int32)), .null]) (rest := []) (lenOf pd_0 rfl) rfl (Nat.le_refl _) (dd d1_6) (fun _ _ => ⟨rfl, e0, (by decide : 0 + 0 ≤ _), (by decide : 0 + 0 ≤ _)⟩)
  dsimp only [Pt.U, Pt.locs, Pt.cells, Pt.slots, Q_rmI2n] at X2 l2 y2 z2 st2 hQ2
  subst l2 y2 z2
  obtain ⟨rfl, N2q, K2q, QE2_0, QF2_0, QF2_1, QF2_2, QF2_3⟩ := hQ2
  have N2 := Fr.app N0 N2q
  have f2_E_a0 := Exa.keep E_a0 K2q
  have f2_V_a1 := Arv.keep V_a1 K2q (ninS ne_a1_a0 nin0)
  have SZ2 := Nat.le_trans Z0 K2q.1
  have K2 := Keep.trans (Keep.refl h0 [a0]) K2q (allS (Or.inl (List.mem_of_getElem? (i := 0) rfl)) all0)
  refine Gz.tr st2 ?_
  refine Gz.fin X2 (v := none) (fun _ => rfl) hlk (by decide) (by decide) (fun fs hr => X2.returnOut hx hret (dd d1_9) hr) ?_
  exact ⟨rfl, N2, K2, QE2_0, QF2_0, QF2_1, QF2_2, QF2_3⟩
theorem ef_rmI1_1 (m : MethodId) (a0 : Addr) (a1 : Addr) : entryFrame m #[(.ref a0), (.ref a1)] 2 = mkF m 0 #[.val (.ref a0), .val (.ref a1)] [] := by first | (simp [entryFrame, mkF, argsToLocals, Value.category]; done) | rfl
def Q_rmI1_1 (Z : State) (a0 : Addr) (a1 : Addr) (k_a1 : ClassId) (v0 : Int32) (h0 : Heap) (n0 : Nat) (v : Option Value) (h : Heap) (L : List Loc) : Prop := v = none ∧ Fr n0 L ∧ Keep h0 h [a0] ∧ Exa Z h a0 "com/example/bad_status/badstatus/model/ProtoReader" ∧ Fld Z h a0 "com/example/bad_status/badstatus/model/ProtoReader" "bytes" "[B" (.ref a1) ∧ Fld Z h a0 "com/example/bad_status/badstatus/model/ProtoReader" "position" "I" (.int (0 : Int32)) ∧ Fld Z h a0 "com/example/bad_status/badstatus/model/ProtoReader" "end" "I" (.int (1 : Int32)) ∧ Fld Z h a0 "com/example/bad_status/badstatus/model/ProtoReader" "place" "Lcom/example/bad_status/badstatus/model/Place;" .null
set_option maxRecDepth 65536 in
set_option maxHeartbeats 40000000 in
theorem rmI1_1 (l : Launch) (Z : State) (av0 : Array Value) (hw : ∀ d ∈ tables_1, d.before av0 Z = true) (ws : List Jvm.Cond) (a0 : Addr) (a1 : Addr) (k_a1 : ClassId) (v0 : Int32) (h0 : Heap) (n0 : Nat) (Z0 : n0 ≤ h0.size) (E_a0 : Exa Z h0 a0 "com/example/bad_status/badstatus/model/ProtoReader") (F_bytes_a0 : Fld Z h0 a0 "com/example/bad_status/badstatus/model/ProtoReader" "bytes" "[B" .null) (F_position_a0 : Fld Z h0 a0 "com/example/bad_status/badstatus/model/ProtoReader" "position" "I" (.int (0 : Int32))) (F_end_a0 : Fld Z h0 a0 "com/example/bad_status/badstatus/model/ProtoReader" "end" "I" (.int (0 : Int32))) (F_place_a0 : Fld Z h0 a0 "com/example/bad_status/badstatus/model/ProtoReader" "place" "Lcom/example/bad_status/badstatus/model/Place;" .null) (g_a0 : n0 ≤ a0) (V_a1 : Arv Z h0 a1 k_a1 .byte (1 : Int32) [(.int v0)] (.int (0 : Int32))) (ne_a1_a0 : a1 ≠ a0) :
    MetFree l (⟨"com/example/bad_status/badstatus/model/ProtoReader", "<init>", "([B)V"⟩ : MethodName) (head1 (Jvm.Cond.code (⟨"com/example/bad_status/badstatus/model/ProtoReader", "<init>", "([B)V"⟩ : MethodName) prog_17_method_1_code 2 none :: ws) ({ frames := 2, cells := 0, slots := 0, locals := 28 } : Room)) (fun a U => a = #[(.ref a0), (.ref a1)] ∧ Z.Warmed39 U.vm ∧ U.heap = h0) (fun _ _ _ _ _ => True) (fun _ U o U' => ∃ v L, o = .returned v ∧ Q_rmI1_1 Z a0 a1 k_a1 v0 h0 n0 v U'.heap L ∧ FrameEnd U o U' L ({ frames := 2, cells := 0, slots := 0, locals := 28 } : Room).cells ({ frames := 2, cells := 0, slots := 0, locals := 28 } : Room).slots) := by
  refine MetFree.of_bodySF (plainFor_of_name pn_0) hisR ?_
  intro p e s m args below meth c s₁ Bd hml0 hP hK
  obtain ⟨rfl, hZ, hh⟩ := hP
  have hx := Bd.exec
  have hby := Bd.bytes
  have hml : c.maxLocals = 2 := hml0
  have dd : ∀ {pc : Nat} {r : Except DecodeError (Instr × Nat)}, decode prog_17_method_1_code pc = r → decode c.code pc = r := fun q => hb hby q
  have hown : s.vm.findClass "com/example/bad_status/badstatus/model/ProtoReader" = some m.cls := findClass_of_methodNamed Bd.named
  have hnm := (name_of_methodNamed Bd.named Bd.method).1
  have X0 : Stand p l e ({ frames := 2, cells := 0, slots := 0, locals := 28 } : Room) s m #[(.ref a0), (.ref a1)] below meth c s₁ [] 0 0 := Stand.of_body Bd
  have e0 : s₁.heap = h0 := by rw [← hh, Bd.state]; rfl
  have N0 := Fr.nil n0
  have hret := Bd.returns
  have hlk := Bd.notSynchronized
  show Gz p e below s ({ frames := 2, cells := 0, slots := 0, locals := 28 } : Room).cells ({ frames := 2, cells := 0, slots := 0, locals := 28 } : Room).slots (Q_rmI1_1 Z a0 a1 k_a1 v0 h0 n0) (s₁.setTop (entryFrame m #[(.ref a0), (.ref a1)] 2))
  refine Gz.enter (ef_rmI1_1 m a0 a1) ?_
  refine Gz.aloadN 1 X0 hx (dd d1_0) rfl rfl rfl ?_
  refine Gz.aloadN 2 X0 hx (dd d1_1) rfl rfl rfl ?_
  refine Gz.iconst 3 (0 : Int32) X0 hx (dd d1_2) rfl rfl ?_
  refine Gz.aloadN 4 X0 hx (dd d1_3) rfl rfl rfl ?_
  obtain ⟨c1, A1, -, S1, N1, -, -⟩ := id V_a1
  refine Gz.alen 5 X0 hx hZ (dd d1_4) e0 A1 S1 N1 rfl ?_
  refine Gz.aconstNull 6 X0 hx (dd d1_5) rfl ?_
  obtain ⟨_, _, ⟨T2, L2, k2, n2⟩, -, X2, ⟨Lc2, hQ2, l2, y2, z2⟩, st2⟩ := X0.specialBack hx (y := ym0) rfl hown (mvT hZ (ww hw 8 rfl)) (mvT hZ (ww hw 9 rfl)) (mvT hZ (ww hw 10 rfl)) (by decide) (backOf (W := 0) (rmI2n l Z av0 hw [] a0 a1 (0 : Int32) (1 : Int32)  h0 n0 Z0 E_a0 F_bytes_a0 F_position_a0 F_end_a0 F_place_a0 g_a0) hZ (ww hw 10 rfl) (ww hw 4 rfl) (by decide) (by decide)) (g := (mkF m 6 #[.val (.ref a0), .val (.ref a1)] [.null, (.int (1 : Int32)), (.int (0 : Int32)), (.ref a1), (.ref a0)])) rfl (by rw [hml]; rfl) (Steps.refl _) (a := a0) (argsL := [(.ref a1), (.int (0 : Int32)), (.int (1 : Int32)), .null]) (rest := []) (lenOf pd_0 rfl) rfl (Nat.le_refl _) (dd d1_6) (fun _ _ => ⟨rfl, e0, (by decide : 0 + 0 ≤ _), (by decide : 0 + 0 ≤ _)⟩)
  dsimp only [Pt.U, Pt.locs, Pt.cells, Pt.slots, Q_rmI2n] at X2 l2 y2 z2 st2 hQ2
  subst l2 y2 z2
  obtain ⟨rfl, N2q, K2q, QE2_0, QF2_0, QF2_1, QF2_2, QF2_3⟩ := hQ2
  have N2 := Fr.app N0 N2q
  have f2_E_a0 := Exa.keep E_a0 K2q
  have f2_V_a1 := Arv.keep V_a1 K2q (ninS ne_a1_a0 nin0)
  have SZ2 := Nat.le_trans Z0 K2q.1
  have K2 := Keep.trans (Keep.refl h0 [a0]) K2q (allS (Or.inl (List.mem_of_getElem? (i := 0) rfl)) all0)
  refine Gz.tr st2 ?_
  refine Gz.fin X2 (v := none) (fun _ => rfl) hlk (by decide) (by decide) (fun fs hr => X2.returnOut hx hret (dd d1_9) hr) ?_
  exact ⟨rfl, N2, K2, QE2_0, QF2_0, QF2_1, QF2_2, QF2_3⟩
theorem ef_rmI1_2 (m : MethodId) (a0 : Addr) (a1 : Addr) : entryFrame m #[(.ref a0), (.ref a1)] 2 = mkF m 0 #[.val (.ref a0), .val (.ref a1)] [] := by first | (simp [entryFrame, mkF, argsToLocals, Value.category]; done) | rfl
def Q_rmI1_2 (Z : State) (a0 : Addr) (a1 : Addr) (k_a1 : ClassId) (v0 : Int32) (v1 : Int32) (h0 : Heap) (n0 : Nat) (v : Option Value) (h : Heap) (L : List Loc) : Prop := v = none ∧ Fr n0 L ∧ Keep h0 h [a0] ∧ Exa Z h a0 "com/example/bad_status/badstatus/model/ProtoReader" ∧ Fld Z h a0 "com/example/bad_status/badstatus/model/ProtoReader" "bytes" "[B" (.ref a1) ∧ Fld Z h a0 "com/example/bad_status/badstatus/model/ProtoReader" "position" "I" (.int (0 : Int32)) ∧ Fld Z h a0 "com/example/bad_status/badstatus/model/ProtoReader" "end" "I" (.int (2 : Int32)) ∧ Fld Z h a0 "com/example/bad_status/badstatus/model/ProtoReader" "place" "Lcom/example/bad_status/badstatus/model/Place;" .null
set_option maxRecDepth 65536 in
set_option maxHeartbeats 40000000 in
theorem rmI1_2 (l : Launch) (Z : State) (av0 : Array Value) (hw : ∀ d ∈ tables_1, d.before av0 Z = true) (ws : List Jvm.Cond) (a0 : Addr) (a1 : Addr) (k_a1 : ClassId) (v0 : Int32) (v1 : Int32) (h0 : Heap) (n0 : Nat) (Z0 : n0 ≤ h0.size) (E_a0 : Exa Z h0 a0 "com/example/bad_status/badstatus/model/ProtoReader") (F_bytes_a0 : Fld Z h0 a0 "com/example/bad_status/badstatus/model/ProtoReader" "bytes" "[B" .null) (F_position_a0 : Fld Z h0 a0 "com/example/bad_status/badstatus/model/ProtoReader" "position" "I" (.int (0 : Int32))) (F_end_a0 : Fld Z h0 a0 "com/example/bad_status/badstatus/model/ProtoReader" "end" "I" (.int (0 : Int32))) (F_place_a0 : Fld Z h0 a0 "com/example/bad_status/badstatus/model/ProtoReader" "place" "Lcom/example/bad_status/badstatus/model/Place;" .null) (g_a0 : n0 ≤ a0) (V_a1 : Arv Z h0 a1 k_a1 .byte (2 : Int32) [(.int v0), (.int v1)] (.int (0 : Int32))) (ne_a1_a0 : a1 ≠ a0) :
    MetFree l (⟨"com/example/bad_status/badstatus/model/ProtoReader", "<init>", "([B)V"⟩ : MethodName) (head1 (Jvm.Cond.code (⟨"com/example/bad_status/badstatus/model/ProtoReader", "<init>", "([B)V"⟩ : MethodName) prog_17_method_1_code 2 none :: ws) ({ frames := 2, cells := 0, slots := 0, locals := 28 } : Room)) (fun a U => a = #[(.ref a0), (.ref a1)] ∧ Z.Warmed39 U.vm ∧ U.heap = h0) (fun _ _ _ _ _ => True) (fun _ U o U' => ∃ v L, o = .returned v ∧ Q_rmI1_2 Z a0 a1 k_a1 v0 v1 h0 n0 v U'.heap L ∧ FrameEnd U o U' L ({ frames := 2, cells := 0, slots := 0, locals := 28 } : Room).cells ({ frames := 2, cells := 0, slots := 0, locals := 28 } : Room).slots) := by
  refine MetFree.of_bodySF (plainFor_of_name pn_0) hisR ?_
  intro p e s m args below meth c s₁ Bd hml0 hP hK
  obtain ⟨rfl, hZ, hh⟩ := hP
  have hx := Bd.exec
  have hby := Bd.bytes
  have hml : c.maxLocals = 2 := hml0
  have dd : ∀ {pc : Nat} {r : Except DecodeError (Instr × Nat)}, decode prog_17_method_1_code pc = r → decode c.code pc = r := fun q => hb hby q
  have hown : s.vm.findClass "com/example/bad_status/badstatus/model/ProtoReader" = some m.cls := findClass_of_methodNamed Bd.named
  have hnm := (name_of_methodNamed Bd.named Bd.method).1
  have X0 : Stand p l e ({ frames := 2, cells := 0, slots := 0, locals := 28 } : Room) s m #[(.ref a0), (.ref a1)] below meth c s₁ [] 0 0 := Stand.of_body Bd
  have e0 : s₁.heap = h0 := by rw [← hh, Bd.state]; rfl
  have N0 := Fr.nil n0
  have hret := Bd.returns
  have hlk := Bd.notSynchronized
  show Gz p e below s ({ frames := 2, cells := 0, slots := 0, locals := 28 } : Room).cells ({ frames := 2, cells := 0, slots := 0, locals := 28 } : Room).slots (Q_rmI1_2 Z a0 a1 k_a1 v0 v1 h0 n0) (s₁.setTop (entryFrame m #[(.ref a0), (.ref a1)] 2))
  refine Gz.enter (ef_rmI1_2 m a0 a1) ?_
  refine Gz.aloadN 1 X0 hx (dd d1_0) rfl rfl rfl ?_
  refine Gz.aloadN 2 X0 hx (dd d1_1) rfl rfl rfl ?_
  refine Gz.iconst 3 (0 : Int32) X0 hx (dd d1_2) rfl rfl ?_
  refine Gz.aloadN 4 X0 hx (dd d1_3) rfl rfl rfl ?_
  obtain ⟨c1, A1, -, S1, N1, -, -⟩ := id V_a1
  refine Gz.alen 5 X0 hx hZ (dd d1_4) e0 A1 S1 N1 rfl ?_
  refine Gz.aconstNull 6 X0 hx (dd d1_5) rfl ?_
  obtain ⟨_, _, ⟨T2, L2, k2, n2⟩, -, X2, ⟨Lc2, hQ2, l2, y2, z2⟩, st2⟩ := X0.specialBack hx (y := ym0) rfl hown (mvT hZ (ww hw 8 rfl)) (mvT hZ (ww hw 9 rfl)) (mvT hZ (ww hw 10 rfl)) (by decide) (backOf (W := 0) (rmI2n l Z av0 hw [] a0 a1 (0 : Int32) (2 : Int32)  h0 n0 Z0 E_a0 F_bytes_a0 F_position_a0 F_end_a0 F_place_a0 g_a0) hZ (ww hw 10 rfl) (ww hw 4 rfl) (by decide) (by decide)) (g := (mkF m 6 #[.val (.ref a0), .val (.ref a1)] [.null, (.int (2 : Int32)), (.int (0 : Int32)), (.ref a1), (.ref a0)])) rfl (by rw [hml]; rfl) (Steps.refl _) (a := a0) (argsL := [(.ref a1), (.int (0 : Int32)), (.int (2 : Int32)), .null]) (rest := []) (lenOf pd_0 rfl) rfl (Nat.le_refl _) (dd d1_6) (fun _ _ => ⟨rfl, e0, (by decide : 0 + 0 ≤ _), (by decide : 0 + 0 ≤ _)⟩)
  dsimp only [Pt.U, Pt.locs, Pt.cells, Pt.slots, Q_rmI2n] at X2 l2 y2 z2 st2 hQ2
  subst l2 y2 z2
  obtain ⟨rfl, N2q, K2q, QE2_0, QF2_0, QF2_1, QF2_2, QF2_3⟩ := hQ2
  have N2 := Fr.app N0 N2q
  have f2_E_a0 := Exa.keep E_a0 K2q
  have f2_V_a1 := Arv.keep V_a1 K2q (ninS ne_a1_a0 nin0)
  have SZ2 := Nat.le_trans Z0 K2q.1
  have K2 := Keep.trans (Keep.refl h0 [a0]) K2q (allS (Or.inl (List.mem_of_getElem? (i := 0) rfl)) all0)
  refine Gz.tr st2 ?_
  refine Gz.fin X2 (v := none) (fun _ => rfl) hlk (by decide) (by decide) (fun fs hr => X2.returnOut hx hret (dd d1_9) hr) ?_
  exact ⟨rfl, N2, K2, QE2_0, QF2_0, QF2_1, QF2_2, QF2_3⟩
theorem ef_rmI1_3 (m : MethodId) (a0 : Addr) (a1 : Addr) : entryFrame m #[(.ref a0), (.ref a1)] 2 = mkF m 0 #[.val (.ref a0), .val (.ref a1)] [] := by first | (simp [entryFrame, mkF, argsToLocals, Value.category]; done) | rfl
def Q_rmI1_3 (Z : State) (a0 : Addr) (a1 : Addr) (k_a1 : ClassId) (v0 : Int32) (v1 : Int32) (v2 : Int32) (h0 : Heap) (n0 : Nat) (v : Option Value) (h : Heap) (L : List Loc) : Prop := v = none ∧ Fr n0 L ∧ Keep h0 h [a0] ∧ Exa Z h a0 "com/example/bad_status/badstatus/model/ProtoReader" ∧ Fld Z h a0 "com/example/bad_status/badstatus/model/ProtoReader" "bytes" "[B" (.ref a1) ∧ Fld Z h a0 "com/example/bad_status/badstatus/model/ProtoReader" "position" "I" (.int (0 : Int32)) ∧ Fld Z h a0 "com/example/bad_status/badstatus/model/ProtoReader" "end" "I" (.int (3 : Int32)) ∧ Fld Z h a0 "com/example/bad_status/badstatus/model/ProtoReader" "place" "Lcom/example/bad_status/badstatus/model/Place;" .null
set_option maxRecDepth 65536 in
set_option maxHeartbeats 40000000 in
theorem rmI1_3 (l : Launch) (Z : State) (av0 : Array Value) (hw : ∀ d ∈ tables_1, d.before av0 Z = true) (ws : List Jvm.Cond) (a0 : Addr) (a1 : Addr) (k_a1 : ClassId) (v0 : Int32) (v1 : Int32) (v2 : Int32) (h0 : Heap) (n0 : Nat) (Z0 : n0 ≤ h0.size) (E_a0 : Exa Z h0 a0 "com/example/bad_status/badstatus/model/ProtoReader") (F_bytes_a0 : Fld Z h0 a0 "com/example/bad_status/badstatus/model/ProtoReader" "bytes" "[B" .null) (F_position_a0 : Fld Z h0 a0 "com/example/bad_status/badstatus/model/ProtoReader" "position" "I" (.int (0 : Int32))) (F_end_a0 : Fld Z h0 a0 "com/example/bad_status/badstatus/model/ProtoReader" "end" "I" (.int (0 : Int32))) (F_place_a0 : Fld Z h0 a0 "com/example/bad_status/badstatus/model/ProtoReader" "place" "Lcom/example/bad_status/badstatus/model/Place;" .null) (g_a0 : n0 ≤ a0) (V_a1 : Arv Z h0 a1 k_a1 .byte (3 : Int32) [(.int v0), (.int v1), (.int v2)] (.int (0 : Int32))) (ne_a1_a0 : a1 ≠ a0) :
    MetFree l (⟨"com/example/bad_status/badstatus/model/ProtoReader", "<init>", "([B)V"⟩ : MethodName) (head1 (Jvm.Cond.code (⟨"com/example/bad_status/badstatus/model/ProtoReader", "<init>", "([B)V"⟩ : MethodName) prog_17_method_1_code 2 none :: ws) ({ frames := 2, cells := 0, slots := 0, locals := 28 } : Room)) (fun a U => a = #[(.ref a0), (.ref a1)] ∧ Z.Warmed39 U.vm ∧ U.heap = h0) (fun _ _ _ _ _ => True) (fun _ U o U' => ∃ v L, o = .returned v ∧ Q_rmI1_3 Z a0 a1 k_a1 v0 v1 v2 h0 n0 v U'.heap L ∧ FrameEnd U o U' L ({ frames := 2, cells := 0, slots := 0, locals := 28 } : Room).cells ({ frames := 2, cells := 0, slots := 0, locals := 28 } : Room).slots) := by
  refine MetFree.of_bodySF (plainFor_of_name pn_0) hisR ?_
  intro p e s m args below meth c s₁ Bd hml0 hP hK
  obtain ⟨rfl, hZ, hh⟩ := hP
  have hx := Bd.exec
  have hby := Bd.bytes
  have hml : c.maxLocals = 2 := hml0
  have dd : ∀ {pc : Nat} {r : Except DecodeError (Instr × Nat)}, decode prog_17_method_1_code pc = r → decode c.code pc = r := fun q => hb hby q
  have hown : s.vm.findClass "com/example/bad_status/badstatus/model/ProtoReader" = some m.cls := findClass_of_methodNamed Bd.named
  have hnm := (name_of_methodNamed Bd.named Bd.method).1
  have X0 : Stand p l e ({ frames := 2, cells := 0, slots := 0, locals := 28 } : Room) s m #[(.ref a0), (.ref a1)] below meth c s₁ [] 0 0 := Stand.of_body Bd
  have e0 : s₁.heap = h0 := by rw [← hh, Bd.state]; rfl
  have N0 := Fr.nil n0
  have hret := Bd.returns
  have hlk := Bd.notSynchronized
  show Gz p e below s ({ frames := 2, cells := 0, slots := 0, locals := 28 } : Room).cells ({ frames := 2, cells := 0, slots := 0, locals := 28 } : Room).slots (Q_rmI1_3 Z a0 a1 k_a1 v0 v1 v2 h0 n0) (s₁.setTop (entryFrame m #[(.ref a0), (.ref a1)] 2))
  refine Gz.enter (ef_rmI1_3 m a0 a1) ?_
  refine Gz.aloadN 1 X0 hx (dd d1_0) rfl rfl rfl ?_
  refine Gz.aloadN 2 X0 hx (dd d1_1) rfl rfl rfl ?_
  refine Gz.iconst 3 (0 : Int32) X0 hx (dd d1_2) rfl rfl ?_
  refine Gz.aloadN 4 X0 hx (dd d1_3) rfl rfl rfl ?_
  obtain ⟨c1, A1, -, S1, N1, -, -⟩ := id V_a1
  refine Gz.alen 5 X0 hx hZ (dd d1_4) e0 A1 S1 N1 rfl ?_
  refine Gz.aconstNull 6 X0 hx (dd d1_5) rfl ?_
  obtain ⟨_, _, ⟨T2, L2, k2, n2⟩, -, X2, ⟨Lc2, hQ2, l2, y2, z2⟩, st2⟩ := X0.specialBack hx (y := ym0) rfl hown (mvT hZ (ww hw 8 rfl)) (mvT hZ (ww hw 9 rfl)) (mvT hZ (ww hw 10 rfl)) (by decide) (backOf (W := 0) (rmI2n l Z av0 hw [] a0 a1 (0 : Int32) (3 : Int32)  h0 n0 Z0 E_a0 F_bytes_a0 F_position_a0 F_end_a0 F_place_a0 g_a0) hZ (ww hw 10 rfl) (ww hw 4 rfl) (by decide) (by decide)) (g := (mkF m 6 #[.val (.ref a0), .val (.ref a1)] [.null, (.int (3 : Int32)), (.int (0 : Int32)), (.ref a1), (.ref a0)])) rfl (by rw [hml]; rfl) (Steps.refl _) (a := a0) (argsL := [(.ref a1), (.int (0 : Int32)), (.int (3 : Int32)), .null]) (rest := []) (lenOf pd_0 rfl) rfl (Nat.le_refl _) (dd d1_6) (fun _ _ => ⟨rfl, e0, (by decide : 0 + 0 ≤ _), (by decide : 0 + 0 ≤ _)⟩)
  dsimp only [Pt.U, Pt.locs, Pt.cells, Pt.slots, Q_rmI2n] at X2 l2 y2 z2 st2 hQ2
  subst l2 y2 z2
  obtain ⟨rfl, N2q, K2q, QE2_0, QF2_0, QF2_1, QF2_2, QF2_3⟩ := hQ2
  have N2 := Fr.app N0 N2q
  have f2_E_a0 := Exa.keep E_a0 K2q
  have f2_V_a1 := Arv.keep V_a1 K2q (ninS ne_a1_a0 nin0)
  have SZ2 := Nat.le_trans Z0 K2q.1
  have K2 := Keep.trans (Keep.refl h0 [a0]) K2q (allS (Or.inl (List.mem_of_getElem? (i := 0) rfl)) all0)
  refine Gz.tr st2 ?_
  refine Gz.fin X2 (v := none) (fun _ => rfl) hlk (by decide) (by decide) (fun fs hr => X2.returnOut hx hret (dd d1_9) hr) ?_
  exact ⟨rfl, N2, K2, QE2_0, QF2_0, QF2_1, QF2_2, QF2_3⟩
theorem ef_rmI1_4 (m : MethodId) (a0 : Addr) (a1 : Addr) : entryFrame m #[(.ref a0), (.ref a1)] 2 = mkF m 0 #[.val (.ref a0), .val (.ref a1)] [] := by first | (simp [entryFrame, mkF, argsToLocals, Value.category]; done) | rfl
def Q_rmI1_4 (Z : State) (a0 : Addr) (a1 : Addr) (k_a1 : ClassId) (v0 : Int32) (v1 : Int32) (v2 : Int32) (v3 : Int32) (h0 : Heap) (n0 : Nat) (v : Option Value) (h : Heap) (L : List Loc) : Prop := v = none ∧ Fr n0 L ∧ Keep h0 h [a0] ∧ Exa Z h a0 "com/example/bad_status/badstatus/model/ProtoReader" ∧ Fld Z h a0 "com/example/bad_status/badstatus/model/ProtoReader" "bytes" "[B" (.ref a1) ∧ Fld Z h a0 "com/example/bad_status/badstatus/model/ProtoReader" "position" "I" (.int (0 : Int32)) ∧ Fld Z h a0 "com/example/bad_status/badstatus/model/ProtoReader" "end" "I" (.int (4 : Int32)) ∧ Fld Z h a0 "com/example/bad_status/badstatus/model/ProtoReader" "place" "Lcom/example/bad_status/badstatus/model/Place;" .null
set_option maxRecDepth 65536 in
set_option maxHeartbeats 40000000 in
theorem rmI1_4 (l : Launch) (Z : State) (av0 : Array Value) (hw : ∀ d ∈ tables_1, d.before av0 Z = true) (ws : List Jvm.Cond) (a0 : Addr) (a1 : Addr) (k_a1 : ClassId) (v0 : Int32) (v1 : Int32) (v2 : Int32) (v3 : Int32) (h0 : Heap) (n0 : Nat) (Z0 : n0 ≤ h0.size) (E_a0 : Exa Z h0 a0 "com/example/bad_status/badstatus/model/ProtoReader") (F_bytes_a0 : Fld Z h0 a0 "com/example/bad_status/badstatus/model/ProtoReader" "bytes" "[B" .null) (F_position_a0 : Fld Z h0 a0 "com/example/bad_status/badstatus/model/ProtoReader" "position" "I" (.int (0 : Int32))) (F_end_a0 : Fld Z h0 a0 "com/example/bad_status/badstatus/model/ProtoReader" "end" "I" (.int (0 : Int32))) (F_place_a0 : Fld Z h0 a0 "com/example/bad_status/badstatus/model/ProtoReader" "place" "Lcom/example/bad_status/badstatus/model/Place;" .null) (g_a0 : n0 ≤ a0) (V_a1 : Arv Z h0 a1 k_a1 .byte (4 : Int32) [(.int v0), (.int v1), (.int v2), (.int v3)] (.int (0 : Int32))) (ne_a1_a0 : a1 ≠ a0) :
    MetFree l (⟨"com/example/bad_status/badstatus/model/ProtoReader", "<init>", "([B)V"⟩ : MethodName) (head1 (Jvm.Cond.code (⟨"com/example/bad_status/badstatus/model/ProtoReader", "<init>", "([B)V"⟩ : MethodName) prog_17_method_1_code 2 none :: ws) ({ frames := 2, cells := 0, slots := 0, locals := 28 } : Room)) (fun a U => a = #[(.ref a0), (.ref a1)] ∧ Z.Warmed39 U.vm ∧ U.heap = h0) (fun _ _ _ _ _ => True) (fun _ U o U' => ∃ v L, o = .returned v ∧ Q_rmI1_4 Z a0 a1 k_a1 v0 v1 v2 v3 h0 n0 v U'.heap L ∧ FrameEnd U o U' L ({ frames := 2, cells := 0, slots := 0, locals := 28 } : Room).cells ({ frames := 2, cells := 0, slots := 0, locals := 28 } : Room).slots) := by
  refine MetFree.of_bodySF (plainFor_of_name pn_0) hisR ?_
  intro p e s m args below meth c s₁ Bd hml0 hP hK
  obtain ⟨rfl, hZ, hh⟩ := hP
  have hx := Bd.exec
  have hby := Bd.bytes
  have hml : c.maxLocals = 2 := hml0
  have dd : ∀ {pc : Nat} {r : Except DecodeError (Instr × Nat)}, decode prog_17_method_1_code pc = r → decode c.code pc = r := fun q => hb hby q
  have hown : s.vm.findClass "com/example/bad_status/badstatus/model/ProtoReader" = some m.cls := findClass_of_methodNamed Bd.named
  have hnm := (name_of_methodNamed Bd.named Bd.method).1
  have X0 : Stand p l e ({ frames := 2, cells := 0, slots := 0, locals := 28 } : Room) s m #[(.ref a0), (.ref a1)] below meth c s₁ [] 0 0 := Stand.of_body Bd
  have e0 : s₁.heap = h0 := by rw [← hh, Bd.state]; rfl
  have N0 := Fr.nil n0
  have hret := Bd.returns
  have hlk := Bd.notSynchronized
  show Gz p e below s ({ frames := 2, cells := 0, slots := 0, locals := 28 } : Room).cells ({ frames := 2, cells := 0, slots := 0, locals := 28 } : Room).slots (Q_rmI1_4 Z a0 a1 k_a1 v0 v1 v2 v3 h0 n0) (s₁.setTop (entryFrame m #[(.ref a0), (.ref a1)] 2))
  refine Gz.enter (ef_rmI1_4 m a0 a1) ?_
  refine Gz.aloadN 1 X0 hx (dd d1_0) rfl rfl rfl ?_
  refine Gz.aloadN 2 X0 hx (dd d1_1) rfl rfl rfl ?_
  refine Gz.iconst 3 (0 : Int32) X0 hx (dd d1_2) rfl rfl ?_
  refine Gz.aloadN 4 X0 hx (dd d1_3) rfl rfl rfl ?_
  obtain ⟨c1, A1, -, S1, N1, -, -⟩ := id V_a1
  refine Gz.alen 5 X0 hx hZ (dd d1_4) e0 A1 S1 N1 rfl ?_
  refine Gz.aconstNull 6 X0 hx (dd d1_5) rfl ?_
  obtain ⟨_, _, ⟨T2, L2, k2, n2⟩, -, X2, ⟨Lc2, hQ2, l2, y2, z2⟩, st2⟩ := X0.specialBack hx (y := ym0) rfl hown (mvT hZ (ww hw 8 rfl)) (mvT hZ (ww hw 9 rfl)) (mvT hZ (ww hw 10 rfl)) (by decide) (backOf (W := 0) (rmI2n l Z av0 hw [] a0 a1 (0 : Int32) (4 : Int32)  h0 n0 Z0 E_a0 F_bytes_a0 F_position_a0 F_end_a0 F_place_a0 g_a0) hZ (ww hw 10 rfl) (ww hw 4 rfl) (by decide) (by decide)) (g := (mkF m 6 #[.val (.ref a0), .val (.ref a1)] [.null, (.int (4 : Int32)), (.int (0 : Int32)), (.ref a1), (.ref a0)])) rfl (by rw [hml]; rfl) (Steps.refl _) (a := a0) (argsL := [(.ref a1), (.int (0 : Int32)), (.int (4 : Int32)), .null]) (rest := []) (lenOf pd_0 rfl) rfl (Nat.le_refl _) (dd d1_6) (fun _ _ => ⟨rfl, e0, (by decide : 0 + 0 ≤ _), (by decide : 0 + 0 ≤ _)⟩)
  dsimp only [Pt.U, Pt.locs, Pt.cells, Pt.slots, Q_rmI2n] at X2 l2 y2 z2 st2 hQ2
  subst l2 y2 z2
  obtain ⟨rfl, N2q, K2q, QE2_0, QF2_0, QF2_1, QF2_2, QF2_3⟩ := hQ2
  have N2 := Fr.app N0 N2q
  have f2_E_a0 := Exa.keep E_a0 K2q
  have f2_V_a1 := Arv.keep V_a1 K2q (ninS ne_a1_a0 nin0)
  have SZ2 := Nat.le_trans Z0 K2q.1
  have K2 := Keep.trans (Keep.refl h0 [a0]) K2q (allS (Or.inl (List.mem_of_getElem? (i := 0) rfl)) all0)
  refine Gz.tr st2 ?_
  refine Gz.fin X2 (v := none) (fun _ => rfl) hlk (by decide) (by decide) (fun fs hr => X2.returnOut hx hret (dd d1_9) hr) ?_
  exact ⟨rfl, N2, K2, QE2_0, QF2_0, QF2_1, QF2_2, QF2_3⟩
theorem d4_0 : decode prog_17_method_3_code 0 = .ok (.aload_n 0, 1) := by decide +kernel
theorem d4_1 : decode prog_17_method_3_code 1 = .ok (.getfield 16, 3) := by decide +kernel
theorem d4_4 : decode prog_17_method_3_code 4 = .ok (.aload_n 0, 1) := by decide +kernel
theorem d4_5 : decode prog_17_method_3_code 5 = .ok (.getfield 20, 3) := by decide +kernel
theorem d4_8 : decode prog_17_method_3_code 8 = .ok (.if_icmp .ge 7, 3) := by decide +kernel
theorem d4_11 : decode prog_17_method_3_code 11 = .ok (.iconst 1, 1) := by decide +kernel
theorem d4_12 : decode prog_17_method_3_code 12 = .ok (.goto 4, 3) := by decide +kernel
theorem d4_15 : decode prog_17_method_3_code 15 = .ok (.iconst 0, 1) := by decide +kernel
theorem d4_16 : decode prog_17_method_3_code 16 = .ok (.ireturn, 1) := by decide +kernel
theorem ef_rm4 (m : MethodId) (a0 : Addr) : entryFrame m #[(.ref a0)] 1 = mkF m 0 #[.val (.ref a0)] [] := by first | (simp [entryFrame, mkF, argsToLocals, Value.category]; done) | rfl
def fHM (a0 : Addr) (ps : Int32) (en : Int32) : Int32 := (if ps < en then (1 : Int32) else (0 : Int32))
def Q_rm4 (Z : State) (a0 : Addr) (ps : Int32) (en : Int32) (h0 : Heap) (n0 : Nat) (v : Option Value) (h : Heap) (L : List Loc) : Prop := v = some (.int (fHM a0 ps en)) ∧ Fr n0 L ∧ h = h0
set_option maxRecDepth 65536 in
set_option maxHeartbeats 40000000 in
theorem rm4 (l : Launch) (Z : State) (av0 : Array Value) (hw : ∀ d ∈ tables_1, d.before av0 Z = true) (ws : List Jvm.Cond) (a0 : Addr) (ps : Int32) (en : Int32) (h0 : Heap) (n0 : Nat) (Z0 : n0 ≤ h0.size) (F_position_a0 : Fld Z h0 a0 "com/example/bad_status/badstatus/model/ProtoReader" "position" "I" (.int ps)) (F_end_a0 : Fld Z h0 a0 "com/example/bad_status/badstatus/model/ProtoReader" "end" "I" (.int en)) :
    MetFree l (⟨"com/example/bad_status/badstatus/model/ProtoReader", "hasMore", "()Z"⟩ : MethodName) (head1 (Jvm.Cond.code (⟨"com/example/bad_status/badstatus/model/ProtoReader", "hasMore", "()Z"⟩ : MethodName) prog_17_method_3_code 1 (some .boolean) :: ws) ({ frames := 0, cells := 0, slots := 0, locals := 0 } : Room)) (fun a U => a = #[(.ref a0)] ∧ Z.Warmed39 U.vm ∧ U.heap = h0) (fun _ _ _ _ _ => True) (fun _ U o U' => ∃ v L, o = .returned v ∧ Q_rm4 Z a0 ps en h0 n0 v U'.heap L ∧ FrameEnd U o U' L ({ frames := 0, cells := 0, slots := 0, locals := 0 } : Room).cells ({ frames := 0, cells := 0, slots := 0, locals := 0 } : Room).slots) := by
  refine MetFree.of_bodySF (plainFor_of_name pn_0) hisR ?_
  intro p e s m args below meth c s₁ Bd hml0 hP hK
  obtain ⟨rfl, hZ, hh⟩ := hP
  have hx := Bd.exec
  have hby := Bd.bytes
  have hml : c.maxLocals = 1 := hml0
  have dd : ∀ {pc : Nat} {r : Except DecodeError (Instr × Nat)}, decode prog_17_method_3_code pc = r → decode c.code pc = r := fun q => hb hby q
  have hown : s.vm.findClass "com/example/bad_status/badstatus/model/ProtoReader" = some m.cls := findClass_of_methodNamed Bd.named
  have hnm := (name_of_methodNamed Bd.named Bd.method).1
  have X0 : Stand p l e ({ frames := 0, cells := 0, slots := 0, locals := 0 } : Room) s m #[(.ref a0)] below meth c s₁ [] 0 0 := Stand.of_body Bd
  have e0 : s₁.heap = h0 := by rw [← hh, Bd.state]; rfl
  have N0 := Fr.nil n0
  have hret := Bd.returns
  have hlk := Bd.notSynchronized
  show Gz p e below s ({ frames := 0, cells := 0, slots := 0, locals := 0 } : Room).cells ({ frames := 0, cells := 0, slots := 0, locals := 0 } : Room).slots (Q_rm4 Z a0 ps en h0 n0) (s₁.setTop (entryFrame m #[(.ref a0)] 1))
  refine Gz.enter (ef_rm4 m a0) ?_
  refine Gz.aloadN 1 X0 hx (dd d4_0) rfl rfl rfl ?_
  refine Gz.getF 4 X0 hx hZ hown (dd d4_1) (host := "") (Or.inl (ww hw 16 rfl)) Via.refl e0 F_position_a0 rfl fun T1 X1 e1 => ?_
  refine Gz.aloadN 5 X1 hx (dd d4_4) rfl rfl rfl ?_
  refine Gz.getF 8 X1 hx hZ hown (dd d4_5) (host := "") (Or.inl (ww hw 18 rfl)) Via.refl e1 F_end_a0 rfl fun T2 X2 e2 => ?_
  by_cases hc3 : ps < en
  · refine Gz.icmpNo 11 X2 hx (dd d4_8) (tlt hc3).2.1 rfl ?_
    refine Gz.iconst 12 (1 : Int32) X2 hx (dd d4_11) rfl rfl ?_
    refine Gz.goto 16 X2 hx (dd d4_12) (by decide) (by decide) ?_
    refine Gz.fin X2 (v := some (.int (1 : Int32))) (fun h => by rw [hret] at h; cases h) hlk (by decide) (by decide) (fun fs hr => retN X2 hx (t := .boolean) hret (by simp) (dd d4_16) hr) ?_
    rw [e2]
    exact ⟨(by unfold fHM; rw [if_pos hc3]), N0, rfl⟩
  · refine Gz.icmpYes 15 X2 hx (dd d4_8) (flt hc3).2.1 (by decide) (by decide) ?_
    refine Gz.iconst 16 (0 : Int32) X2 hx (dd d4_15) rfl rfl ?_
    refine Gz.fin X2 (v := some (.int (0 : Int32))) (fun h => by rw [hret] at h; cases h) hlk (by decide) (by decide) (fun fs hr => retN X2 hx (t := .boolean) hret (by simp) (dd d4_16) hr) ?_
    rw [e2]
    exact ⟨(by unfold fHM; rw [if_neg hc3]), N0, rfl⟩
theorem d5_0 : decode prog_17_method_5_code 0 = .ok (.lconst 0, 1) := by decide +kernel
theorem d5_1 : decode prog_17_method_5_code 1 = .ok (.lstore_n 1, 1) := by decide +kernel
theorem d5_2 : decode prog_17_method_5_code 2 = .ok (.iconst 0, 1) := by decide +kernel
theorem d5_3 : decode prog_17_method_5_code 3 = .ok (.istore_n 3, 1) := by decide +kernel
theorem d5_4 : decode prog_17_method_5_code 4 = .ok (.iload_n 3, 1) := by decide +kernel
theorem d5_5 : decode prog_17_method_5_code 5 = .ok (.bipush 64, 2) := by decide +kernel
theorem d5_7 : decode prog_17_method_5_code 7 = .ok (.if_icmp .ge 64, 3) := by decide +kernel
theorem d5_10 : decode prog_17_method_5_code 10 = .ok (.aload_n 0, 1) := by decide +kernel
theorem d5_11 : decode prog_17_method_5_code 11 = .ok (.getfield 16, 3) := by decide +kernel
theorem d5_14 : decode prog_17_method_5_code 14 = .ok (.aload_n 0, 1) := by decide +kernel
theorem d5_15 : decode prog_17_method_5_code 15 = .ok (.getfield 20, 3) := by decide +kernel
theorem d5_18 : decode prog_17_method_5_code 18 = .ok (.if_icmp .ne 11, 3) := by decide +kernel
theorem d5_29 : decode prog_17_method_5_code 29 = .ok (.aload_n 0, 1) := by decide +kernel
theorem d5_30 : decode prog_17_method_5_code 30 = .ok (.getfield 12, 3) := by decide +kernel
theorem d5_33 : decode prog_17_method_5_code 33 = .ok (.aload_n 0, 1) := by decide +kernel
theorem d5_34 : decode prog_17_method_5_code 34 = .ok (.dup, 1) := by decide +kernel
theorem d5_35 : decode prog_17_method_5_code 35 = .ok (.getfield 16, 3) := by decide +kernel
theorem d5_38 : decode prog_17_method_5_code 38 = .ok (.dup_x1, 1) := by decide +kernel
theorem d5_39 : decode prog_17_method_5_code 39 = .ok (.iconst 1, 1) := by decide +kernel
theorem d5_40 : decode prog_17_method_5_code 40 = .ok (.iadd, 1) := by decide +kernel
theorem d5_41 : decode prog_17_method_5_code 41 = .ok (.putfield 16, 3) := by decide +kernel
theorem d5_44 : decode prog_17_method_5_code 44 = .ok (.baload, 1) := by decide +kernel
theorem d5_45 : decode prog_17_method_5_code 45 = .ok (.istore 4, 2) := by decide +kernel
theorem d5_47 : decode prog_17_method_5_code 47 = .ok (.lload_n 1, 1) := by decide +kernel
theorem d5_48 : decode prog_17_method_5_code 48 = .ok (.iload 4, 2) := by decide +kernel
theorem d5_50 : decode prog_17_method_5_code 50 = .ok (.bipush 127, 2) := by decide +kernel
theorem d5_52 : decode prog_17_method_5_code 52 = .ok (.iand, 1) := by decide +kernel
theorem d5_53 : decode prog_17_method_5_code 53 = .ok (.i2l, 1) := by decide +kernel
theorem d5_54 : decode prog_17_method_5_code 54 = .ok (.iload_n 3, 1) := by decide +kernel
theorem d5_55 : decode prog_17_method_5_code 55 = .ok (.lshl, 1) := by decide +kernel
theorem d5_56 : decode prog_17_method_5_code 56 = .ok (.lor, 1) := by decide +kernel
theorem d5_57 : decode prog_17_method_5_code 57 = .ok (.lstore_n 1, 1) := by decide +kernel
theorem d5_58 : decode prog_17_method_5_code 58 = .ok (.iload 4, 2) := by decide +kernel
theorem d5_60 : decode prog_17_method_5_code 60 = .ok (.ifCond .lt 5, 3) := by decide +kernel
theorem d5_63 : decode prog_17_method_5_code 63 = .ok (.lload_n 1, 1) := by decide +kernel
theorem d5_64 : decode prog_17_method_5_code 64 = .ok (.lreturn, 1) := by decide +kernel
theorem ef_rmV1 (m : MethodId) (a0 : Addr) : entryFrame m #[(.ref a0)] 5 = mkF m 0 #[.val (.ref a0), .unset, .unset, .unset, .unset] [] := by first | (simp [entryFrame, mkF, argsToLocals, Value.category]; done) | rfl
def Q_rmV1 (Z : State) (a0 : Addr) (ba : Addr) (ps : Int32) (en : Int32) (cl_ba : Cell) (w0 : Int32) (h0 : Heap) (n0 : Nat) (v : Option Value) (h : Heap) (L : List Loc) : Prop := v = some (.long ((0 : Int64) ||| (((w0 &&& (127 : Int32)).toInt64) <<< ((0 : Int32) &&& 0x3f).toInt64))) ∧ Fr n0 L ∧ Keep h0 h [a0] ∧ Exa Z h a0 "com/example/bad_status/badstatus/model/ProtoReader" ∧ Fld Z h a0 "com/example/bad_status/badstatus/model/ProtoReader" "bytes" "[B" (.ref ba) ∧ Fld Z h a0 "com/example/bad_status/badstatus/model/ProtoReader" "position" "I" (.int (ps + (1 : Int32))) ∧ Fld Z h a0 "com/example/bad_status/badstatus/model/ProtoReader" "end" "I" (.int en)
set_option maxRecDepth 65536 in
set_option maxHeartbeats 40000000 in
theorem rmV1 (l : Launch) (Z : State) (av0 : Array Value) (hw : ∀ d ∈ tables_1, d.before av0 Z = true) (ws : List Jvm.Cond) (a0 : Addr) (ba : Addr) (ps : Int32) (en : Int32) (cl_ba : Cell) (w0 : Int32) (h0 : Heap) (n0 : Nat) (Z0 : n0 ≤ h0.size) (E_a0 : Exa Z h0 a0 "com/example/bad_status/badstatus/model/ProtoReader") (F_bytes_a0 : Fld Z h0 a0 "com/example/bad_status/badstatus/model/ProtoReader" "bytes" "[B" (.ref ba)) (F_position_a0 : Fld Z h0 a0 "com/example/bad_status/badstatus/model/ProtoReader" "position" "I" (.int ps)) (F_end_a0 : Fld Z h0 a0 "com/example/bad_status/badstatus/model/ProtoReader" "end" "I" (.int en)) (g_a0 : n0 ≤ a0) (Ar_ba : Arr Z h0 ba cl_ba .byte) (ne_ba_a0 : ba ≠ a0) (hin_ba_7 : ¬ (ps < 0 ∨ cl_ba.slots.size ≤ (ps).toNatClampNeg)) (hat_ba_7 : cl_ba.slots[(ps).toNatClampNeg]? = some (.int w0)) (hne : ¬ (ps = en)) (hwz : ¬ (w0 < (0 : Int32))) :
    MetFree l (⟨"com/example/bad_status/badstatus/model/ProtoReader", "readVarint", "()J"⟩ : MethodName) (head1 (Jvm.Cond.code (⟨"com/example/bad_status/badstatus/model/ProtoReader", "readVarint", "()J"⟩ : MethodName) prog_17_method_5_code 5 (some .long) :: ws) ({ frames := 0, cells := 0, slots := 0, locals := 0 } : Room)) (fun a U => a = #[(.ref a0)] ∧ Z.Warmed39 U.vm ∧ U.heap = h0) (fun _ _ _ _ _ => True) (fun _ U o U' => ∃ v L, o = .returned v ∧ Q_rmV1 Z a0 ba ps en cl_ba w0 h0 n0 v U'.heap L ∧ FrameEnd U o U' L ({ frames := 0, cells := 0, slots := 0, locals := 0 } : Room).cells ({ frames := 0, cells := 0, slots := 0, locals := 0 } : Room).slots) := by
  refine MetFree.of_bodySF (plainFor_of_name pn_0) hisR ?_
  intro p e s m args below meth c s₁ Bd hml0 hP hK
  obtain ⟨rfl, hZ, hh⟩ := hP
  have hx := Bd.exec
  have hby := Bd.bytes
  have hml : c.maxLocals = 5 := hml0
  have dd : ∀ {pc : Nat} {r : Except DecodeError (Instr × Nat)}, decode prog_17_method_5_code pc = r → decode c.code pc = r := fun q => hb hby q
  have hown : s.vm.findClass "com/example/bad_status/badstatus/model/ProtoReader" = some m.cls := findClass_of_methodNamed Bd.named
  have hnm := (name_of_methodNamed Bd.named Bd.method).1
  have X0 : Stand p l e ({ frames := 0, cells := 0, slots := 0, locals := 0 } : Room) s m #[(.ref a0)] below meth c s₁ [] 0 0 := Stand.of_body Bd
  have e0 : s₁.heap = h0 := by rw [← hh, Bd.state]; rfl
  have N0 := Fr.nil n0
  have hret := Bd.returns
  have hlk := Bd.notSynchronized
  show Gz p e below s ({ frames := 0, cells := 0, slots := 0, locals := 0 } : Room).cells ({ frames := 0, cells := 0, slots := 0, locals := 0 } : Room).slots (Q_rmV1 Z a0 ba ps en cl_ba w0 h0 n0) (s₁.setTop (entryFrame m #[(.ref a0)] 5))
  refine Gz.enter (ef_rmV1 m a0) ?_
  refine Gz.lconst 1 (0 : Int64) X0 hx (dd d5_0) rfl rfl ?_
  refine Gz.lstoreN 2 #[.val (.ref a0), .val (.long (0 : Int64)), .second, .unset, .unset] X0 hx (dd d5_1) rfl rfl ?_
  refine Gz.iconst 3 (0 : Int32) X0 hx (dd d5_2) rfl rfl ?_
  refine Gz.istoreN 4 #[.val (.ref a0), .val (.long (0 : Int64)), .second, .val (.int (0 : Int32)), .unset] X0 hx (dd d5_3) rfl rfl ?_
  refine Gz.iloadN 5 X0 hx (dd d5_4) rfl rfl ?_
  refine Gz.bipush 7 (64 : Int32) X0 hx (dd d5_5) rfl rfl ?_
  refine Gz.icmpNo 10 X0 hx (dd d5_7) (tlt (by decide : (0 : Int32) < (64 : Int32))).2.1 rfl ?_
  refine Gz.aloadN 11 X0 hx (dd d5_10) rfl rfl rfl ?_
  refine Gz.getF 14 X0 hx hZ hown (dd d5_11) (host := "") (Or.inl (ww hw 16 rfl)) Via.refl e0 F_position_a0 rfl fun T1 X1 e1 => ?_
  refine Gz.aloadN 15 X1 hx (dd d5_14) rfl rfl rfl ?_
  refine Gz.getF 18 X1 hx hZ hown (dd d5_15) (host := "") (Or.inl (ww hw 18 rfl)) Via.refl e1 F_end_a0 rfl fun T2 X2 e2 => ?_
  refine Gz.icmpYes 29 X2 hx (dd d5_18) (feq (hne : ¬ (ps = en))).2 (by decide) (by decide) ?_
  refine Gz.aloadN 30 X2 hx (dd d5_29) rfl rfl rfl ?_
  refine Gz.getF 33 X2 hx hZ hown (dd d5_30) (host := "") (Or.inl (ww hw 14 rfl)) Via.refl e2 F_bytes_a0 rfl fun T3 X3 e3 => ?_
  refine Gz.aloadN 34 X3 hx (dd d5_33) rfl rfl rfl ?_
  refine Gz.dup 35 X3 hx (dd d5_34) rfl rfl ?_
  refine Gz.getF 38 X3 hx hZ hown (dd d5_35) (host := "") (Or.inl (ww hw 16 rfl)) Via.refl e3 F_position_a0 rfl fun T4 X4 e4 => ?_
  refine Gz.dupX1 39 X4 hx (dd d5_38) rfl rfl rfl ?_
  refine Gz.iconst 40 (1 : Int32) X4 hx (dd d5_39) rfl rfl ?_
  refine Gz.iadd 41 X4 hx (dd d5_40) rfl ?_
  refine Gz.putF 44 X4 hx hZ hown .int (dd d5_41) (host := "") (Or.inl (ww hw 16 rfl)) Via.refl e4 F_position_a0 E_a0 (Or.inl (ww hw 17 rfl)) (ww hw 3 rfl) (by decide) rfl rfl rfl fun T5 h5 X5 e5 W5 => ?_
  have f5_E_a0 := Exa.wr W5 E_a0
  have f5_F_bytes_a0 := Fld.other W5 F_bytes_a0 (Or.inr (slot_ne (Or.inr (ww hw 15 rfl)) (Or.inl (ww hw 17 rfl)) (by decide) (t := (.array .byte)) (t' := .int) (by decide) (by decide)))
  have f5_F_end_a0 := Fld.other W5 F_end_a0 (Or.inr (slot_ne (Or.inr (ww hw 19 rfl)) (Or.inl (ww hw 17 rfl)) (by decide) (t := .int) (t' := .int) (by decide) (by decide)))
  have f5_Ar_ba := Arr.other W5 Ar_ba ne_ba_a0
  have f5_F_position_a0 := Fld.same W5 F_position_a0
  have N5 := Fr.snoc X5 N0 g_a0
  have SZ5 : n0 ≤ h5.size := Nat.le_trans Z0 (Keep.of_wr W5).1
  have K5 := Keep.wr (Keep.refl h0 [a0]) W5 (Or.inl (List.mem_of_getElem? (i := 0) rfl))
  refine Gz.ldB 45 X5 hx hZ (dd d5_44) e5 f5_Ar_ba hin_ba_7 hat_ba_7 rfl ?_
  refine Gz.istore 47 #[.val (.ref a0), .val (.long (0 : Int64)), .second, .val (.int (0 : Int32)), .val (.int w0)] X5 hx (dd d5_45) rfl rfl ?_
  refine Gz.lloadN 48 X5 hx (dd d5_47) rfl rfl ?_
  refine Gz.iload 50 X5 hx (dd d5_48) rfl rfl ?_
  refine Gz.bipush 52 (127 : Int32) X5 hx (dd d5_50) rfl rfl ?_
  refine Gz.iand 53 X5 hx (dd d5_52) rfl ?_
  refine Gz.i2l 54 X5 hx (dd d5_53) rfl ?_
  refine Gz.iloadN 55 X5 hx (dd d5_54) rfl rfl ?_
  refine Gz.lshl 56 X5 hx (dd d5_55) rfl ?_
  refine Gz.lor 57 X5 hx (dd d5_56) rfl ?_
  refine Gz.lstoreN 58 #[.val (.ref a0), .val (.long ((0 : Int64) ||| (((w0 &&& (127 : Int32)).toInt64) <<< ((0 : Int32) &&& 0x3f).toInt64))), .second, .val (.int (0 : Int32)), .val (.int w0)] X5 hx (dd d5_57) rfl rfl ?_
  refine Gz.iload 60 X5 hx (dd d5_58) rfl rfl ?_
  refine Gz.ifNo 63 X5 hx (dd d5_60) ((if0 _ _).trans (flt (hwz : ¬ (w0 < (0 : Int32)))).1) rfl ?_
  refine Gz.lloadN 64 X5 hx (dd d5_63) rfl rfl ?_
  refine Gz.fin X5 (v := some (.long ((0 : Int64) ||| (((w0 &&& (127 : Int32)).toInt64) <<< ((0 : Int32) &&& 0x3f).toInt64)))) (fun h => by rw [hret] at h; cases h) hlk (by decide) (by decide) (fun fs hr => retJ X5 hx hret (dd d5_64) hr) ?_
  rw [e5]
  exact ⟨rfl, N5, K5, f5_E_a0, f5_F_bytes_a0, f5_F_position_a0, f5_F_end_a0⟩
theorem d5_65 : decode prog_17_method_5_code 65 = .ok (.iinc 3 7, 3) := by decide +kernel
theorem d5_68 : decode prog_17_method_5_code 68 = .ok (.goto (-64), 3) := by decide +kernel
theorem ef_rmV2 (m : MethodId) (a0 : Addr) : entryFrame m #[(.ref a0)] 5 = mkF m 0 #[.val (.ref a0), .unset, .unset, .unset, .unset] [] := by first | (simp [entryFrame, mkF, argsToLocals, Value.category]; done) | rfl
def Q_rmV2 (Z : State) (a0 : Addr) (ba : Addr) (ps : Int32) (en : Int32) (cl_ba : Cell) (w0 : Int32) (w1 : Int32) (h0 : Heap) (n0 : Nat) (v : Option Value) (h : Heap) (L : List Loc) : Prop := v = some (.long (((0 : Int64) ||| (((w0 &&& (127 : Int32)).toInt64) <<< ((0 : Int32) &&& 0x3f).toInt64)) ||| (((w1 &&& (127 : Int32)).toInt64) <<< ((7 : Int32) &&& 0x3f).toInt64))) ∧ Fr n0 L ∧ Keep h0 h [a0] ∧ Exa Z h a0 "com/example/bad_status/badstatus/model/ProtoReader" ∧ Fld Z h a0 "com/example/bad_status/badstatus/model/ProtoReader" "bytes" "[B" (.ref ba) ∧ Fld Z h a0 "com/example/bad_status/badstatus/model/ProtoReader" "position" "I" (.int ((ps + (1 : Int32)) + (1 : Int32))) ∧ Fld Z h a0 "com/example/bad_status/badstatus/model/ProtoReader" "end" "I" (.int en)
set_option maxRecDepth 65536 in
set_option maxHeartbeats 40000000 in
theorem rmV2 (l : Launch) (Z : State) (av0 : Array Value) (hw : ∀ d ∈ tables_1, d.before av0 Z = true) (ws : List Jvm.Cond) (a0 : Addr) (ba : Addr) (ps : Int32) (en : Int32) (cl_ba : Cell) (w0 : Int32) (w1 : Int32) (h0 : Heap) (n0 : Nat) (Z0 : n0 ≤ h0.size) (E_a0 : Exa Z h0 a0 "com/example/bad_status/badstatus/model/ProtoReader") (F_bytes_a0 : Fld Z h0 a0 "com/example/bad_status/badstatus/model/ProtoReader" "bytes" "[B" (.ref ba)) (F_position_a0 : Fld Z h0 a0 "com/example/bad_status/badstatus/model/ProtoReader" "position" "I" (.int ps)) (F_end_a0 : Fld Z h0 a0 "com/example/bad_status/badstatus/model/ProtoReader" "end" "I" (.int en)) (g_a0 : n0 ≤ a0) (Ar_ba : Arr Z h0 ba cl_ba .byte) (ne_ba_a0 : ba ≠ a0) (hin_ba_7 : ¬ (ps < 0 ∨ cl_ba.slots.size ≤ (ps).toNatClampNeg)) (hat_ba_7 : cl_ba.slots[(ps).toNatClampNeg]? = some (.int w0)) (hin_ba_9 : ¬ ((ps + (1 : Int32)) < 0 ∨ cl_ba.slots.size ≤ ((ps + (1 : Int32))).toNatClampNeg)) (hat_ba_9 : cl_ba.slots[((ps + (1 : Int32))).toNatClampNeg]? = some (.int w1)) (hne : ¬ (ps = en)) (hwz : w0 < (0 : Int32)) (hne2 : ¬ ((ps + (1 : Int32)) = en)) (hw1 : ¬ (w1 < (0 : Int32))) :
    MetFree l (⟨"com/example/bad_status/badstatus/model/ProtoReader", "readVarint", "()J"⟩ : MethodName) (head1 (Jvm.Cond.code (⟨"com/example/bad_status/badstatus/model/ProtoReader", "readVarint", "()J"⟩ : MethodName) prog_17_method_5_code 5 (some .long) :: ws) ({ frames := 0, cells := 0, slots := 0, locals := 0 } : Room)) (fun a U => a = #[(.ref a0)] ∧ Z.Warmed39 U.vm ∧ U.heap = h0) (fun _ _ _ _ _ => True) (fun _ U o U' => ∃ v L, o = .returned v ∧ Q_rmV2 Z a0 ba ps en cl_ba w0 w1 h0 n0 v U'.heap L ∧ FrameEnd U o U' L ({ frames := 0, cells := 0, slots := 0, locals := 0 } : Room).cells ({ frames := 0, cells := 0, slots := 0, locals := 0 } : Room).slots) := by
  refine MetFree.of_bodySF (plainFor_of_name pn_0) hisR ?_
  intro p e s m args below meth c s₁ Bd hml0 hP hK
  obtain ⟨rfl, hZ, hh⟩ := hP
  have hx := Bd.exec
  have hby := Bd.bytes
  have hml : c.maxLocals = 5 := hml0
  have dd : ∀ {pc : Nat} {r : Except DecodeError (Instr × Nat)}, decode prog_17_method_5_code pc = r → decode c.code pc = r := fun q => hb hby q
  have hown : s.vm.findClass "com/example/bad_status/badstatus/model/ProtoReader" = some m.cls := findClass_of_methodNamed Bd.named
  have hnm := (name_of_methodNamed Bd.named Bd.method).1
  have X0 : Stand p l e ({ frames := 0, cells := 0, slots := 0, locals := 0 } : Room) s m #[(.ref a0)] below meth c s₁ [] 0 0 := Stand.of_body Bd
  have e0 : s₁.heap = h0 := by rw [← hh, Bd.state]; rfl
  have N0 := Fr.nil n0
  have hret := Bd.returns
  have hlk := Bd.notSynchronized
  show Gz p e below s ({ frames := 0, cells := 0, slots := 0, locals := 0 } : Room).cells ({ frames := 0, cells := 0, slots := 0, locals := 0 } : Room).slots (Q_rmV2 Z a0 ba ps en cl_ba w0 w1 h0 n0) (s₁.setTop (entryFrame m #[(.ref a0)] 5))
  refine Gz.enter (ef_rmV2 m a0) ?_
  refine Gz.lconst 1 (0 : Int64) X0 hx (dd d5_0) rfl rfl ?_
  refine Gz.lstoreN 2 #[.val (.ref a0), .val (.long (0 : Int64)), .second, .unset, .unset] X0 hx (dd d5_1) rfl rfl ?_
  refine Gz.iconst 3 (0 : Int32) X0 hx (dd d5_2) rfl rfl ?_
  refine Gz.istoreN 4 #[.val (.ref a0), .val (.long (0 : Int64)), .second, .val (.int (0 : Int32)), .unset] X0 hx (dd d5_3) rfl rfl ?_
  refine Gz.iloadN 5 X0 hx (dd d5_4) rfl rfl ?_
  refine Gz.bipush 7 (64 : Int32) X0 hx (dd d5_5) rfl rfl ?_
  refine Gz.icmpNo 10 X0 hx (dd d5_7) (tlt (by decide : (0 : Int32) < (64 : Int32))).2.1 rfl ?_
  refine Gz.aloadN 11 X0 hx (dd d5_10) rfl rfl rfl ?_
  refine Gz.getF 14 X0 hx hZ hown (dd d5_11) (host := "") (Or.inl (ww hw 16 rfl)) Via.refl e0 F_position_a0 rfl fun T1 X1 e1 => ?_
  refine Gz.aloadN 15 X1 hx (dd d5_14) rfl rfl rfl ?_
  refine Gz.getF 18 X1 hx hZ hown (dd d5_15) (host := "") (Or.inl (ww hw 18 rfl)) Via.refl e1 F_end_a0 rfl fun T2 X2 e2 => ?_
  refine Gz.icmpYes 29 X2 hx (dd d5_18) (feq (hne : ¬ (ps = en))).2 (by decide) (by decide) ?_
  refine Gz.aloadN 30 X2 hx (dd d5_29) rfl rfl rfl ?_
  refine Gz.getF 33 X2 hx hZ hown (dd d5_30) (host := "") (Or.inl (ww hw 14 rfl)) Via.refl e2 F_bytes_a0 rfl fun T3 X3 e3 => ?_
  refine Gz.aloadN 34 X3 hx (dd d5_33) rfl rfl rfl ?_
  refine Gz.dup 35 X3 hx (dd d5_34) rfl rfl ?_
  refine Gz.getF 38 X3 hx hZ hown (dd d5_35) (host := "") (Or.inl (ww hw 16 rfl)) Via.refl e3 F_position_a0 rfl fun T4 X4 e4 => ?_
  refine Gz.dupX1 39 X4 hx (dd d5_38) rfl rfl rfl ?_
  refine Gz.iconst 40 (1 : Int32) X4 hx (dd d5_39) rfl rfl ?_
  refine Gz.iadd 41 X4 hx (dd d5_40) rfl ?_
  refine Gz.putF 44 X4 hx hZ hown .int (dd d5_41) (host := "") (Or.inl (ww hw 16 rfl)) Via.refl e4 F_position_a0 E_a0 (Or.inl (ww hw 17 rfl)) (ww hw 3 rfl) (by decide) rfl rfl rfl fun T5 h5 X5 e5 W5 => ?_
  have f5_E_a0 := Exa.wr W5 E_a0
  have f5_F_bytes_a0 := Fld.other W5 F_bytes_a0 (Or.inr (slot_ne (Or.inr (ww hw 15 rfl)) (Or.inl (ww hw 17 rfl)) (by decide) (t := (.array .byte)) (t' := .int) (by decide) (by decide)))
  have f5_F_end_a0 := Fld.other W5 F_end_a0 (Or.inr (slot_ne (Or.inr (ww hw 19 rfl)) (Or.inl (ww hw 17 rfl)) (by decide) (t := .int) (t' := .int) (by decide) (by decide)))
  have f5_Ar_ba := Arr.other W5 Ar_ba ne_ba_a0
  have f5_F_position_a0 := Fld.same W5 F_position_a0
  have N5 := Fr.snoc X5 N0 g_a0
  have SZ5 : n0 ≤ h5.size := Nat.le_trans Z0 (Keep.of_wr W5).1
  have K5 := Keep.wr (Keep.refl h0 [a0]) W5 (Or.inl (List.mem_of_getElem? (i := 0) rfl))
  refine Gz.ldB 45 X5 hx hZ (dd d5_44) e5 f5_Ar_ba hin_ba_7 hat_ba_7 rfl ?_
  refine Gz.istore 47 #[.val (.ref a0), .val (.long (0 : Int64)), .second, .val (.int (0 : Int32)), .val (.int w0)] X5 hx (dd d5_45) rfl rfl ?_
  refine Gz.lloadN 48 X5 hx (dd d5_47) rfl rfl ?_
  refine Gz.iload 50 X5 hx (dd d5_48) rfl rfl ?_
  refine Gz.bipush 52 (127 : Int32) X5 hx (dd d5_50) rfl rfl ?_
  refine Gz.iand 53 X5 hx (dd d5_52) rfl ?_
  refine Gz.i2l 54 X5 hx (dd d5_53) rfl ?_
  refine Gz.iloadN 55 X5 hx (dd d5_54) rfl rfl ?_
  refine Gz.lshl 56 X5 hx (dd d5_55) rfl ?_
  refine Gz.lor 57 X5 hx (dd d5_56) rfl ?_
  refine Gz.lstoreN 58 #[.val (.ref a0), .val (.long ((0 : Int64) ||| (((w0 &&& (127 : Int32)).toInt64) <<< ((0 : Int32) &&& 0x3f).toInt64))), .second, .val (.int (0 : Int32)), .val (.int w0)] X5 hx (dd d5_57) rfl rfl ?_
  refine Gz.iload 60 X5 hx (dd d5_58) rfl rfl ?_
  refine Gz.ifYes 65 X5 hx (dd d5_60) ((if0 _ _).trans (tlt (hwz : w0 < (0 : Int32))).1) (by decide) (by decide) ?_
  refine Gz.iinc 68 #[.val (.ref a0), .val (.long ((0 : Int64) ||| (((w0 &&& (127 : Int32)).toInt64) <<< ((0 : Int32) &&& 0x3f).toInt64))), .second, .val (.int (7 : Int32)), .val (.int w0)] X5 hx (dd d5_65) rfl rfl rfl ?_
  refine Gz.goto 4 X5 hx (dd d5_68) (by decide) (by decide) ?_
  refine Gz.iloadN 5 X5 hx (dd d5_4) rfl rfl ?_
  refine Gz.bipush 7 (64 : Int32) X5 hx (dd d5_5) rfl rfl ?_
  refine Gz.icmpNo 10 X5 hx (dd d5_7) (tlt (by decide : (7 : Int32) < (64 : Int32))).2.1 rfl ?_
  refine Gz.aloadN 11 X5 hx (dd d5_10) rfl rfl rfl ?_
  refine Gz.getF 14 X5 hx hZ hown (dd d5_11) (host := "") (Or.inl (ww hw 16 rfl)) Via.refl e5 f5_F_position_a0 rfl fun T6 X6 e6 => ?_
  refine Gz.aloadN 15 X6 hx (dd d5_14) rfl rfl rfl ?_
  refine Gz.getF 18 X6 hx hZ hown (dd d5_15) (host := "") (Or.inl (ww hw 18 rfl)) Via.refl e6 f5_F_end_a0 rfl fun T7 X7 e7 => ?_
  refine Gz.icmpYes 29 X7 hx (dd d5_18) (feq (hne2 : ¬ ((ps + (1 : Int32)) = en))).2 (by decide) (by decide) ?_
  refine Gz.aloadN 30 X7 hx (dd d5_29) rfl rfl rfl ?_
  refine Gz.getF 33 X7 hx hZ hown (dd d5_30) (host := "") (Or.inl (ww hw 14 rfl)) Via.refl e7 f5_F_bytes_a0 rfl fun T8 X8 e8 => ?_
  refine Gz.aloadN 34 X8 hx (dd d5_33) rfl rfl rfl ?_
  refine Gz.dup 35 X8 hx (dd d5_34) rfl rfl ?_
  refine Gz.getF 38 X8 hx hZ hown (dd d5_35) (host := "") (Or.inl (ww hw 16 rfl)) Via.refl e8 f5_F_position_a0 rfl fun T9 X9 e9 => ?_
  refine Gz.dupX1 39 X9 hx (dd d5_38) rfl rfl rfl ?_
  refine Gz.iconst 40 (1 : Int32) X9 hx (dd d5_39) rfl rfl ?_
  refine Gz.iadd 41 X9 hx (dd d5_40) rfl ?_
  refine Gz.putF 44 X9 hx hZ hown .int (dd d5_41) (host := "") (Or.inl (ww hw 16 rfl)) Via.refl e9 f5_F_position_a0 f5_E_a0 (Or.inl (ww hw 17 rfl)) (ww hw 3 rfl) (by decide) rfl rfl rfl fun T10 h10 X10 e10 W10 => ?_
  have f10_E_a0 := Exa.wr W10 f5_E_a0
  have f10_F_bytes_a0 := Fld.other W10 f5_F_bytes_a0 (Or.inr (slot_ne (Or.inr (ww hw 15 rfl)) (Or.inl (ww hw 17 rfl)) (by decide) (t := (.array .byte)) (t' := .int) (by decide) (by decide)))
  have f10_F_end_a0 := Fld.other W10 f5_F_end_a0 (Or.inr (slot_ne (Or.inr (ww hw 19 rfl)) (Or.inl (ww hw 17 rfl)) (by decide) (t := .int) (t' := .int) (by decide) (by decide)))
  have f10_Ar_ba := Arr.other W10 f5_Ar_ba ne_ba_a0
  have f10_F_position_a0 := Fld.same W10 f5_F_position_a0
  have N10 := Fr.snoc X10 N5 g_a0
  have SZ10 : n0 ≤ h10.size := Nat.le_trans SZ5 (Keep.of_wr W10).1
  have K10 := Keep.wr K5 W10 (Or.inl (List.mem_of_getElem? (i := 0) rfl))
  refine Gz.ldB 45 X10 hx hZ (dd d5_44) e10 f10_Ar_ba hin_ba_9 hat_ba_9 rfl ?_
  refine Gz.istore 47 #[.val (.ref a0), .val (.long ((0 : Int64) ||| (((w0 &&& (127 : Int32)).toInt64) <<< ((0 : Int32) &&& 0x3f).toInt64))), .second, .val (.int (7 : Int32)), .val (.int w1)] X10 hx (dd d5_45) rfl rfl ?_
  refine Gz.lloadN 48 X10 hx (dd d5_47) rfl rfl ?_
  refine Gz.iload 50 X10 hx (dd d5_48) rfl rfl ?_
  refine Gz.bipush 52 (127 : Int32) X10 hx (dd d5_50) rfl rfl ?_
  refine Gz.iand 53 X10 hx (dd d5_52) rfl ?_
  refine Gz.i2l 54 X10 hx (dd d5_53) rfl ?_
  refine Gz.iloadN 55 X10 hx (dd d5_54) rfl rfl ?_
  refine Gz.lshl 56 X10 hx (dd d5_55) rfl ?_
  refine Gz.lor 57 X10 hx (dd d5_56) rfl ?_
  refine Gz.lstoreN 58 #[.val (.ref a0), .val (.long (((0 : Int64) ||| (((w0 &&& (127 : Int32)).toInt64) <<< ((0 : Int32) &&& 0x3f).toInt64)) ||| (((w1 &&& (127 : Int32)).toInt64) <<< ((7 : Int32) &&& 0x3f).toInt64))), .second, .val (.int (7 : Int32)), .val (.int w1)] X10 hx (dd d5_57) rfl rfl ?_
  refine Gz.iload 60 X10 hx (dd d5_58) rfl rfl ?_
  refine Gz.ifNo 63 X10 hx (dd d5_60) ((if0 _ _).trans (flt (hw1 : ¬ (w1 < (0 : Int32)))).1) rfl ?_
  refine Gz.lloadN 64 X10 hx (dd d5_63) rfl rfl ?_
  refine Gz.fin X10 (v := some (.long (((0 : Int64) ||| (((w0 &&& (127 : Int32)).toInt64) <<< ((0 : Int32) &&& 0x3f).toInt64)) ||| (((w1 &&& (127 : Int32)).toInt64) <<< ((7 : Int32) &&& 0x3f).toInt64)))) (fun h => by rw [hret] at h; cases h) hlk (by decide) (by decide) (fun fs hr => retJ X10 hx hret (dd d5_64) hr) ?_
  rw [e10]
  exact ⟨rfl, N10, K10, f10_E_a0, f10_F_bytes_a0, f10_F_position_a0, f10_F_end_a0⟩
theorem pd_1 : parseMethodDescriptor "()J" = some ⟨[], some .long⟩ := by decide +kernel
abbrev ym1 : MethodName := ⟨"com/example/bad_status/badstatus/model/ProtoReader", "readVarint", "()J"⟩
theorem d7_0 : decode prog_17_method_14_code 0 = .ok (.aload_n 0, 1) := by decide +kernel
theorem d7_1 : decode prog_17_method_14_code 1 = .ok (.invokevirtual 27, 3) := by decide +kernel
theorem d7_4 : decode prog_17_method_14_code 4 = .ok (.lstore_n 2, 1) := by decide +kernel
theorem d7_5 : decode prog_17_method_14_code 5 = .ok (.lload_n 2, 1) := by decide +kernel
theorem d7_6 : decode prog_17_method_14_code 6 = .ok (.lconst 0, 1) := by decide +kernel
theorem d7_7 : decode prog_17_method_14_code 7 = .ok (.lcmp, 1) := by decide +kernel
theorem d7_8 : decode prog_17_method_14_code 8 = .ok (.ifCond .lt 18, 3) := by decide +kernel
theorem d7_11 : decode prog_17_method_14_code 11 = .ok (.lload_n 2, 1) := by decide +kernel
theorem d7_12 : decode prog_17_method_14_code 12 = .ok (.aload_n 0, 1) := by decide +kernel
theorem d7_13 : decode prog_17_method_14_code 13 = .ok (.getfield 20, 3) := by decide +kernel
theorem d7_16 : decode prog_17_method_14_code 16 = .ok (.aload_n 0, 1) := by decide +kernel
theorem d7_17 : decode prog_17_method_14_code 17 = .ok (.getfield 16, 3) := by decide +kernel
theorem d7_20 : decode prog_17_method_14_code 20 = .ok (.isub, 1) := by decide +kernel
theorem d7_21 : decode prog_17_method_14_code 21 = .ok (.i2l, 1) := by decide +kernel
theorem d7_22 : decode prog_17_method_14_code 22 = .ok (.lcmp, 1) := by decide +kernel
theorem d7_23 : decode prog_17_method_14_code 23 = .ok (.ifCond .le 8, 3) := by decide +kernel
theorem d7_31 : decode prog_17_method_14_code 31 = .ok (.lload_n 2, 1) := by decide +kernel
theorem d7_32 : decode prog_17_method_14_code 32 = .ok (.l2i, 1) := by decide +kernel
theorem d7_33 : decode prog_17_method_14_code 33 = .ok (.ireturn, 1) := by decide +kernel
theorem ef_rmL10 (m : MethodId) (a0 : Addr) (a1 : Addr) : entryFrame m #[(.ref a0), (.ref a1)] 4 = mkF m 0 #[.val (.ref a0), .val (.ref a1), .unset, .unset] [] := by first | (simp [entryFrame, mkF, argsToLocals, Value.category]; done) | rfl
def Q_rmL10 (Z : State) (a0 : Addr) (a1 : Addr) (ba : Addr) (k_ba : ClassId) (h0 : Heap) (n0 : Nat) (v : Option Value) (h : Heap) (L : List Loc) : Prop := v = some (.int (0 : Int32)) ∧ Fr n0 L ∧ Keep h0 h [a0] ∧ Exa Z h a0 "com/example/bad_status/badstatus/model/ProtoReader" ∧ Fld Z h a0 "com/example/bad_status/badstatus/model/ProtoReader" "bytes" "[B" (.ref ba) ∧ Fld Z h a0 "com/example/bad_status/badstatus/model/ProtoReader" "position" "I" (.int (1 : Int32)) ∧ Fld Z h a0 "com/example/bad_status/badstatus/model/ProtoReader" "end" "I" (.int (1 : Int32))
set_option maxRecDepth 65536 in
set_option maxHeartbeats 40000000 in
theorem rmL10 (l : Launch) (Z : State) (av0 : Array Value) (hw : ∀ d ∈ tables_1, d.before av0 Z = true) (ws : List Jvm.Cond) (a0 : Addr) (a1 : Addr) (ba : Addr) (k_ba : ClassId) (h0 : Heap) (n0 : Nat) (Z0 : n0 ≤ h0.size) (E_a0 : Exa Z h0 a0 "com/example/bad_status/badstatus/model/ProtoReader") (F_bytes_a0 : Fld Z h0 a0 "com/example/bad_status/badstatus/model/ProtoReader" "bytes" "[B" (.ref ba)) (F_position_a0 : Fld Z h0 a0 "com/example/bad_status/badstatus/model/ProtoReader" "position" "I" (.int (0 : Int32))) (F_end_a0 : Fld Z h0 a0 "com/example/bad_status/badstatus/model/ProtoReader" "end" "I" (.int (1 : Int32))) (g_a0 : n0 ≤ a0) (V_ba : Arv Z h0 ba k_ba .byte (1 : Int32) [(.int (0 : Int32))] (.int (0 : Int32))) (ne_ba_a0 : ba ≠ a0) :
    MetFree l (⟨"com/example/bad_status/badstatus/model/ProtoReader", "readLength", "(Lcom/example/bad_status/badstatus/model/Place;)I"⟩ : MethodName) (head1 (Jvm.Cond.code (⟨"com/example/bad_status/badstatus/model/ProtoReader", "readLength", "(Lcom/example/bad_status/badstatus/model/Place;)I"⟩ : MethodName) prog_17_method_14_code 4 (some .int) :: ws) ({ frames := 1, cells := 0, slots := 0, locals := 16 } : Room)) (fun a U => a = #[(.ref a0), (.ref a1)] ∧ Z.Warmed39 U.vm ∧ U.heap = h0) (fun _ _ _ _ _ => True) (fun _ U o U' => ∃ v L, o = .returned v ∧ Q_rmL10 Z a0 a1 ba k_ba h0 n0 v U'.heap L ∧ FrameEnd U o U' L ({ frames := 1, cells := 0, slots := 0, locals := 16 } : Room).cells ({ frames := 1, cells := 0, slots := 0, locals := 16 } : Room).slots) := by
  refine MetFree.of_bodySF (plainFor_of_name pn_0) hisR ?_
  intro p e s m args below meth c s₁ Bd hml0 hP hK
  obtain ⟨rfl, hZ, hh⟩ := hP
  have hx := Bd.exec
  have hby := Bd.bytes
  have hml : c.maxLocals = 4 := hml0
  have dd : ∀ {pc : Nat} {r : Except DecodeError (Instr × Nat)}, decode prog_17_method_14_code pc = r → decode c.code pc = r := fun q => hb hby q
  have hown : s.vm.findClass "com/example/bad_status/badstatus/model/ProtoReader" = some m.cls := findClass_of_methodNamed Bd.named
  have hnm := (name_of_methodNamed Bd.named Bd.method).1
  have X0 : Stand p l e ({ frames := 1, cells := 0, slots := 0, locals := 16 } : Room) s m #[(.ref a0), (.ref a1)] below meth c s₁ [] 0 0 := Stand.of_body Bd
  have e0 : s₁.heap = h0 := by rw [← hh, Bd.state]; rfl
  have N0 := Fr.nil n0
  have hret := Bd.returns
  have hlk := Bd.notSynchronized
  show Gz p e below s ({ frames := 1, cells := 0, slots := 0, locals := 16 } : Room).cells ({ frames := 1, cells := 0, slots := 0, locals := 16 } : Room).slots (Q_rmL10 Z a0 a1 ba k_ba h0 n0) (s₁.setTop (entryFrame m #[(.ref a0), (.ref a1)] 4))
  refine Gz.enter (ef_rmL10 m a0 a1) ?_
  refine Gz.aloadN 1 X0 hx (dd d7_0) rfl rfl rfl ?_
  obtain ⟨c1, A1, q1, S1, N1, H1, G1⟩ := id V_ba
  have hin2 : ¬ ((0 : Int32) < 0 ∨ c1.slots.size ≤ ((0 : Int32)).toNatClampNeg) := inb_of S1 ⟨by decide, by decide⟩
  have hat2 : c1.slots[((0 : Int32)).toNatClampNeg]? = some (.int (0 : Int32)) := Has.at H1 hin2 rfl
  obtain ⟨cq3, kq3, q3a, q3b, q3c⟩ := isOf hZ e0 E_a0
  obtain ⟨_, _, ⟨T3, L3, k3, n3⟩, -, X3, ⟨Lc3, hQ3, l3, y3, z3⟩, st3⟩ := X0.virtualBack hx (y := ym1) (z := ym1) hown (mvT hZ (ww hw 44 rfl)) (mvT hZ (ww hw 28 rfl)) (notFace_of_selects (args := #[]) (mvT hZ (ww hw 30 rfl))) (mvT hZ (ww hw 30 rfl)) (mvT hZ (ww hw 29 rfl)) (by decide) (backOf (W := 0) (rmV1 l Z av0 hw [] a0 ba (0 : Int32) (1 : Int32) c1 (0 : Int32) h0 n0 Z0 E_a0 F_bytes_a0 F_position_a0 F_end_a0 g_a0 A1 ne_ba_a0 hin2 hat2 (by decide : ¬ ((0 : Int32) = (1 : Int32))) (by decide : ¬ ((0 : Int32) < (0 : Int32)))) hZ (ww hw 31 rfl) (ww hw 4 rfl) (by decide) (by decide)) q3a q3c (g := (mkF m 1 #[.val (.ref a0), .val (.ref a1), .unset, .unset] [(.ref a0)])) rfl (by rw [hml]; rfl) (Steps.refl _) (argsL := []) (rest := []) (lenOf pd_1 rfl) rfl (Nat.le_refl _) (dd d7_1) (fun _ _ => ⟨rfl, e0, (by decide : 0 + 0 ≤ _), (by decide : 0 + 0 ≤ _)⟩)
  dsimp only [Pt.U, Pt.locs, Pt.cells, Pt.slots, Q_rmV1] at X3 l3 y3 z3 st3 hQ3
  subst l3 y3 z3
  obtain ⟨rfl, N3q, K3q, QE3_0, QF3_0, QF3_1, QF3_2⟩ := hQ3
  have N3 := Fr.app N0 N3q
  have f3_E_a0 := Exa.keep E_a0 K3q
  have f3_V_ba := Arv.keep V_ba K3q (ninS ne_ba_a0 nin0)
  have SZ3 := Nat.le_trans Z0 K3q.1
  have K3 := Keep.trans (Keep.refl h0 [a0]) K3q (allS (Or.inl (List.mem_of_getElem? (i := 0) rfl)) all0)
  replace QF3_1 : Fld Z T3.heap a0 "com/example/bad_status/badstatus/model/ProtoReader" "position" "I" (.int (1 : Int32)) := QF3_1
  refine Gz.tr st3 ?_
  refine Gz.lstoreN 5 #[.val (.ref a0), .val (.ref a1), .val (.long ((0 : Int64) ||| ((((0 : Int32) &&& (127 : Int32)).toInt64) <<< ((0 : Int32) &&& 0x3f).toInt64))), .second] X3 hx (dd d7_4) rfl rfl ?_
  refine Gz.lloadN 6 X3 hx (dd d7_5) rfl rfl ?_
  refine Gz.lconst 7 (0 : Int64) X3 hx (dd d7_6) rfl rfl ?_
  refine Gz.lcmp 8 X3 hx (dd d7_7) rfl ?_
  refine Gz.ifNo 11 X3 hx (dd d7_8) ((if0 _ _).trans (flt (fun q => ((by decide) : ¬ (((0 : Int64) ||| ((((0 : Int32) &&& (127 : Int32)).toInt64) <<< ((0 : Int32) &&& 0x3f).toInt64)) < (0 : Int64))) ((lw_lt _ _).mp q))).1) rfl ?_
  refine Gz.lloadN 12 X3 hx (dd d7_11) rfl rfl ?_
  refine Gz.aloadN 13 X3 hx (dd d7_12) rfl rfl rfl ?_
  refine Gz.getF 16 X3 hx hZ hown (dd d7_13) (host := "") (Or.inl (ww hw 18 rfl)) Via.refl rfl QF3_2 rfl fun T4 X4 e4 => ?_
  refine Gz.aloadN 17 X4 hx (dd d7_16) rfl rfl rfl ?_
  refine Gz.getF 20 X4 hx hZ hown (dd d7_17) (host := "") (Or.inl (ww hw 16 rfl)) Via.refl e4 QF3_1 rfl fun T5 X5 e5 => ?_
  refine Gz.isubV 21 (0 : Int32) X5 hx (dd d7_20) rfl rfl ?_
  refine Gz.i2lV 22 (0 : Int64) X5 hx (dd d7_21) rfl rfl ?_
  refine Gz.lcmp 23 X5 hx (dd d7_22) rfl ?_
  refine Gz.ifYes 31 X5 hx (dd d7_23) ((if0 _ _).trans (flt (fun q => ((by decide) : ¬ ((0 : Int64) < ((0 : Int64) ||| ((((0 : Int32) &&& (127 : Int32)).toInt64) <<< ((0 : Int32) &&& 0x3f).toInt64)))) ((lw_gt _ _).mp q))).2.2.2) (by decide) (by decide) ?_
  refine Gz.lloadN 32 X5 hx (dd d7_31) rfl rfl ?_
  refine Gz.l2i 33 X5 hx (dd d7_32) rfl ?_
  show Gz p e below s _ _ _ (T5.setTop (mkF m 33 #[.val (.ref a0), .val (.ref a1), .val (.long ((0 : Int64) ||| ((((0 : Int32) &&& (127 : Int32)).toInt64) <<< ((0 : Int32) &&& 0x3f).toInt64))), .second] [(.int (((0 : Int64) ||| ((((0 : Int32) &&& (127 : Int32)).toInt64) <<< ((0 : Int32) &&& 0x3f).toInt64)).toInt32))]))
  rw [show (((0 : Int64) ||| ((((0 : Int32) &&& (127 : Int32)).toInt64) <<< ((0 : Int32) &&& 0x3f).toInt64)).toInt32) = (0 : Int32) from by decide]
  refine Gz.fin X5 (v := some (.int (0 : Int32))) (fun h => by rw [hret] at h; cases h) hlk (by decide) (by decide) (fun fs hr => retI X5 hx hret (dd d7_33) hr) ?_
  rw [e5]
  exact ⟨rfl, N3, K3, QE3_0, QF3_0, QF3_1, QF3_2⟩
theorem pd_2 : parseMethodDescriptor "(Lcom/example/bad_status/badstatus/model/Place;)I" = some ⟨[(.object "com/example/bad_status/badstatus/model/Place")], some .int⟩ := by decide +kernel
abbrev ym2 : MethodName := ⟨"com/example/bad_status/badstatus/model/ProtoReader", "readLength", "(Lcom/example/bad_status/badstatus/model/Place;)I"⟩
abbrev ym3 : MethodName := ⟨"com/example/bad_status/badstatus/model/ProtoReader", "hasMore", "()Z"⟩
theorem d6_0 : decode prog_17_method_9_code 0 = .ok (.aload_n 0, 1) := by decide +kernel
theorem d6_1 : decode prog_17_method_9_code 1 = .ok (.aload_n 1, 1) := by decide +kernel
theorem d6_2 : decode prog_17_method_9_code 2 = .ok (.invokevirtual 51, 3) := by decide +kernel
theorem d6_5 : decode prog_17_method_9_code 5 = .ok (.istore_n 2, 1) := by decide +kernel
theorem d6_6 : decode prog_17_method_9_code 6 = .ok (.new 1, 3) := by decide +kernel
theorem d6_9 : decode prog_17_method_9_code 9 = .ok (.dup, 1) := by decide +kernel
theorem d6_10 : decode prog_17_method_9_code 10 = .ok (.aload_n 0, 1) := by decide +kernel
theorem d6_11 : decode prog_17_method_9_code 11 = .ok (.getfield 12, 3) := by decide +kernel
theorem d6_14 : decode prog_17_method_9_code 14 = .ok (.aload_n 0, 1) := by decide +kernel
theorem d6_15 : decode prog_17_method_9_code 15 = .ok (.getfield 16, 3) := by decide +kernel
theorem d6_18 : decode prog_17_method_9_code 18 = .ok (.aload_n 0, 1) := by decide +kernel
theorem d6_19 : decode prog_17_method_9_code 19 = .ok (.getfield 16, 3) := by decide +kernel
theorem d6_22 : decode prog_17_method_9_code 22 = .ok (.iload_n 2, 1) := by decide +kernel
theorem d6_23 : decode prog_17_method_9_code 23 = .ok (.iadd, 1) := by decide +kernel
theorem d6_24 : decode prog_17_method_9_code 24 = .ok (.aload_n 1, 1) := by decide +kernel
theorem d6_25 : decode prog_17_method_9_code 25 = .ok (.invokespecial 3, 3) := by decide +kernel
theorem d6_28 : decode prog_17_method_9_code 28 = .ok (.astore_n 3, 1) := by decide +kernel
theorem d6_29 : decode prog_17_method_9_code 29 = .ok (.aload_n 0, 1) := by decide +kernel
theorem d6_30 : decode prog_17_method_9_code 30 = .ok (.dup, 1) := by decide +kernel
theorem d6_31 : decode prog_17_method_9_code 31 = .ok (.getfield 16, 3) := by decide +kernel
theorem d6_34 : decode prog_17_method_9_code 34 = .ok (.iload_n 2, 1) := by decide +kernel
theorem d6_35 : decode prog_17_method_9_code 35 = .ok (.iadd, 1) := by decide +kernel
theorem d6_36 : decode prog_17_method_9_code 36 = .ok (.putfield 16, 3) := by decide +kernel
theorem d6_39 : decode prog_17_method_9_code 39 = .ok (.aload_n 3, 1) := by decide +kernel
theorem d6_40 : decode prog_17_method_9_code 40 = .ok (.areturn, 1) := by decide +kernel
theorem ef_rmM10 (m : MethodId) (a0 : Addr) (a1 : Addr) : entryFrame m #[(.ref a0), (.ref a1)] 4 = mkF m 0 #[.val (.ref a0), .val (.ref a1), .unset, .unset] [] := by first | (simp [entryFrame, mkF, argsToLocals, Value.category]; done) | rfl
def Q_rmM10 (Z : State) (a0 : Addr) (a1 : Addr) (ba : Addr) (k_ba : ClassId) (h0 : Heap) (n0 : Nat) (v : Option Value) (h : Heap) (L : List Loc) : Prop := ∃ rd : Addr, v = some (.ref rd) ∧ Fr n0 L ∧ Keep h0 h [a0] ∧ Exa Z h a0 "com/example/bad_status/badstatus/model/ProtoReader" ∧ Fld Z h a0 "com/example/bad_status/badstatus/model/ProtoReader" "bytes" "[B" (.ref ba) ∧ Fld Z h a0 "com/example/bad_status/badstatus/model/ProtoReader" "position" "I" (.int (1 : Int32)) ∧ Fld Z h a0 "com/example/bad_status/badstatus/model/ProtoReader" "end" "I" (.int (1 : Int32)) ∧ n0 ≤ rd ∧ h0.size ≤ rd ∧ Exa Z h rd "com/example/bad_status/badstatus/model/ProtoReader" ∧ Fld Z h rd "com/example/bad_status/badstatus/model/ProtoReader" "bytes" "[B" (.ref ba) ∧ Fld Z h rd "com/example/bad_status/badstatus/model/ProtoReader" "position" "I" (.int (1 : Int32)) ∧ Fld Z h rd "com/example/bad_status/badstatus/model/ProtoReader" "end" "I" (.int (1 : Int32))
set_option maxRecDepth 65536 in
set_option maxHeartbeats 40000000 in
theorem rmM10 (l : Launch) (Z : State) (av0 : Array Value) (hw : ∀ d ∈ tables_1, d.before av0 Z = true) (ws : List Jvm.Cond) (a0 : Addr) (a1 : Addr) (ba : Addr) (k_ba : ClassId) (h0 : Heap) (n0 : Nat) (Z0 : n0 ≤ h0.size) (E_a0 : Exa Z h0 a0 "com/example/bad_status/badstatus/model/ProtoReader") (F_bytes_a0 : Fld Z h0 a0 "com/example/bad_status/badstatus/model/ProtoReader" "bytes" "[B" (.ref ba)) (F_position_a0 : Fld Z h0 a0 "com/example/bad_status/badstatus/model/ProtoReader" "position" "I" (.int (0 : Int32))) (F_end_a0 : Fld Z h0 a0 "com/example/bad_status/badstatus/model/ProtoReader" "end" "I" (.int (1 : Int32))) (g_a0 : n0 ≤ a0) (V_ba : Arv Z h0 ba k_ba .byte (1 : Int32) [(.int (0 : Int32))] (.int (0 : Int32))) (ne_ba_a0 : ba ≠ a0) :
    MetFree l (⟨"com/example/bad_status/badstatus/model/ProtoReader", "readMessage", "(Lcom/example/bad_status/badstatus/model/Place;)Lcom/example/bad_status/badstatus/model/ProtoReader;"⟩ : MethodName) (head1 (Jvm.Cond.code (⟨"com/example/bad_status/badstatus/model/ProtoReader", "readMessage", "(Lcom/example/bad_status/badstatus/model/Place;)Lcom/example/bad_status/badstatus/model/ProtoReader;"⟩ : MethodName) prog_17_method_9_code 4 (some (.object "com/example/bad_status/badstatus/model/ProtoReader")) :: ws) ({ frames := 2, cells := 1, slots := 4, locals := 31 } : Room)) (fun a U => a = #[(.ref a0), (.ref a1)] ∧ Z.Warmed39 U.vm ∧ U.heap = h0) (fun _ _ _ _ _ => True) (fun _ U o U' => ∃ v L, o = .returned v ∧ Q_rmM10 Z a0 a1 ba k_ba h0 n0 v U'.heap L ∧ FrameEnd U o U' L ({ frames := 2, cells := 1, slots := 4, locals := 31 } : Room).cells ({ frames := 2, cells := 1, slots := 4, locals := 31 } : Room).slots) := by
  refine MetFree.of_bodySF (plainFor_of_name pn_0) hisR ?_
  intro p e s m args below meth c s₁ Bd hml0 hP hK
  obtain ⟨rfl, hZ, hh⟩ := hP
  have hx := Bd.exec
  have hby := Bd.bytes
  have hml : c.maxLocals = 4 := hml0
  have dd : ∀ {pc : Nat} {r : Except DecodeError (Instr × Nat)}, decode prog_17_method_9_code pc = r → decode c.code pc = r := fun q => hb hby q
  have hown : s.vm.findClass "com/example/bad_status/badstatus/model/ProtoReader" = some m.cls := findClass_of_methodNamed Bd.named
  have hnm := (name_of_methodNamed Bd.named Bd.method).1
  have X0 : Stand p l e ({ frames := 2, cells := 1, slots := 4, locals := 31 } : Room) s m #[(.ref a0), (.ref a1)] below meth c s₁ [] 0 0 := Stand.of_body Bd
  have e0 : s₁.heap = h0 := by rw [← hh, Bd.state]; rfl
  have N0 := Fr.nil n0
  have hret := Bd.returns
  have hlk := Bd.notSynchronized
  show Gz p e below s ({ frames := 2, cells := 1, slots := 4, locals := 31 } : Room).cells ({ frames := 2, cells := 1, slots := 4, locals := 31 } : Room).slots (Q_rmM10 Z a0 a1 ba k_ba h0 n0) (s₁.setTop (entryFrame m #[(.ref a0), (.ref a1)] 4))
  refine Gz.enter (ef_rmM10 m a0 a1) ?_
  refine Gz.aloadN 1 X0 hx (dd d6_0) rfl rfl rfl ?_
  refine Gz.aloadN 2 X0 hx (dd d6_1) rfl rfl rfl ?_
  obtain ⟨cq1, q1, q1'⟩ := E_a0.cell
  obtain ⟨_, _, ⟨T1, L1, k1, n1⟩, -, X1, ⟨Lc1, hQ1, l1, y1, z1⟩, st1⟩ := X0.privateBack hx (y := ym2) hown (mvT hZ (ww hw 40 rfl)) (mvT hZ (ww hw 41 rfl)) (own_selp (y := ym2) (y' := ym3) rfl (mvT hZ (ww hw 25 rfl)) (mvT hZ (ww hw 24 rfl)) (mvT hZ (ww hw 41 rfl)) (Cond.privateMethod_at (mvP hZ (ww hw 42 rfl) (args := #[]))) (by decide)) (Cond.privateMethod_at (mvP hZ (ww hw 42 rfl) (args := #[]))) (mvT hZ (ww hw 43 rfl)) (by decide) (backOf (W := 0) (rmL10 l Z av0 hw [] a0 a1 ba k_ba h0 n0 Z0 E_a0 F_bytes_a0 F_position_a0 F_end_a0 g_a0 V_ba ne_ba_a0) hZ (ww hw 43 rfl) (ww hw 4 rfl) (by decide) (by decide)) (g := (mkF m 2 #[.val (.ref a0), .val (.ref a1), .unset, .unset] [(.ref a1), (.ref a0)])) rfl (by rw [hml]; rfl) (Steps.refl _) (a := a0) (by rw [e0]; exact q1) q1' (argsL := [(.ref a1)]) (rest := []) (lenOf pd_2 rfl) rfl (Nat.le_refl _) (dd d6_2) (fun _ _ => ⟨rfl, e0, (by decide : 0 + 0 ≤ _), (by decide : 0 + 0 ≤ _)⟩)
  dsimp only [Pt.U, Pt.locs, Pt.cells, Pt.slots, Q_rmL10] at X1 l1 y1 z1 st1 hQ1
  subst l1 y1 z1
  obtain ⟨rfl, N1q, K1q, QE1_0, QF1_0, QF1_1, QF1_2⟩ := hQ1
  have N1 := Fr.app N0 N1q
  have f1_E_a0 := Exa.keep E_a0 K1q
  have f1_V_ba := Arv.keep V_ba K1q (ninS ne_ba_a0 nin0)
  have SZ1 := Nat.le_trans Z0 K1q.1
  have K1 := Keep.trans (Keep.refl h0 [a0]) K1q (allS (Or.inl (List.mem_of_getElem? (i := 0) rfl)) all0)
  refine Gz.tr st1 ?_
  refine Gz.istoreN 6 #[.val (.ref a0), .val (.ref a1), .val (.int (0 : Int32)), .unset] X1 hx (dd d6_5) rfl rfl ?_
  obtain ⟨T2, h2, X2, e2, E2, A2, D2, -, st2⟩ := newO X1 hx hZ hown (ww hw 45 rfl) (ww hw 3 rfl) (ww hw 4 rfl) rfl (g := (mkF m 6 #[.val (.ref a0), .val (.ref a1), .val (.int (0 : Int32)), .unset] [])) rfl (dd d6_6) (by decide) (by decide)
  obtain ⟨b2, g2⟩ : ∃ z, z = T1.heap.size := ⟨_, rfl⟩
  rw [← g2] at A2 D2 st2
  have ne_a0_b2 : a0 ≠ b2 := Nat.ne_of_lt (Nat.lt_of_lt_of_le (QE1_0).lt (Nat.le_of_eq g2.symm))
  have ne_ba_b2 : ba ≠ b2 := Nat.ne_of_lt (Nat.lt_of_lt_of_le (f1_V_ba).lt (Nat.le_of_eq g2.symm))
  have g_b2 : n0 ≤ b2 := Nat.le_trans SZ1 (Nat.le_of_eq g2.symm)
  have SZ2 : n0 ≤ h2.size := Nat.le_trans SZ1 E2.1
  have sz_b2 : h0.size ≤ b2 := Nat.le_trans K1.1 (Nat.le_of_eq g2.symm)
  have K2 := Keep.ext K1 E2
  have f2_E_a0 := Exa.ext E2 QE1_0
  have f2_V_ba := Arv.ext f1_V_ba E2
  have f2_F_bytes_a0 := Fld.ext E2 QF1_0
  have f2_F_position_a0 := Fld.ext E2 QF1_1
  have f2_F_end_a0 := Fld.ext E2 QF1_2
  have F_bytes_b2 : Fld Z h2 b2 "com/example/bad_status/badstatus/model/ProtoReader" "bytes" "[B" .null := D2 (Or.inr (ww hw 15 rfl)) (ty := (.array .byte)) (by decide)
  have F_position_b2 : Fld Z h2 b2 "com/example/bad_status/badstatus/model/ProtoReader" "position" "I" (.int (0 : Int32)) := D2 (Or.inl (ww hw 17 rfl)) (ty := .int) (by decide)
  have F_end_b2 : Fld Z h2 b2 "com/example/bad_status/badstatus/model/ProtoReader" "end" "I" (.int (0 : Int32)) := D2 (Or.inr (ww hw 19 rfl)) (ty := .int) (by decide)
  have F_place_b2 : Fld Z h2 b2 "com/example/bad_status/badstatus/model/ProtoReader" "place" "Lcom/example/bad_status/badstatus/model/Place;" .null := D2 (Or.inr (ww hw 21 rfl)) (ty := (.object "com/example/bad_status/badstatus/model/Place")) (by decide)
  refine Gz.st st2 ?_
  refine Gz.dup 10 X2 hx (dd d6_9) rfl rfl ?_
  refine Gz.aloadN 11 X2 hx (dd d6_10) rfl rfl rfl ?_
  refine Gz.getF 14 X2 hx hZ hown (dd d6_11) (host := "") (Or.inl (ww hw 14 rfl)) Via.refl e2 f2_F_bytes_a0 rfl fun T3 X3 e3 => ?_
  refine Gz.aloadN 15 X3 hx (dd d6_14) rfl rfl rfl ?_
  refine Gz.getF 18 X3 hx hZ hown (dd d6_15) (host := "") (Or.inl (ww hw 16 rfl)) Via.refl e3 f2_F_position_a0 rfl fun T4 X4 e4 => ?_
  refine Gz.aloadN 19 X4 hx (dd d6_18) rfl rfl rfl ?_
  refine Gz.getF 22 X4 hx hZ hown (dd d6_19) (host := "") (Or.inl (ww hw 16 rfl)) Via.refl e4 f2_F_position_a0 rfl fun T5 X5 e5 => ?_
  refine Gz.iloadN 23 X5 hx (dd d6_22) rfl rfl ?_
  refine Gz.iaddV 24 (1 : Int32) X5 hx (dd d6_23) rfl rfl ?_
  refine Gz.aloadN 25 X5 hx (dd d6_24) rfl rfl rfl ?_
  obtain ⟨_, _, ⟨T6, L6, k6, n6⟩, -, X6, ⟨Lc6, hQ6, l6, y6, z6⟩, st6⟩ := X5.specialBack hx (y := ym0) rfl hown (mvT hZ (ww hw 8 rfl)) (mvT hZ (ww hw 9 rfl)) (mvT hZ (ww hw 10 rfl)) (by decide) (backOf (W := 1) (rmI2 l Z av0 hw [] b2 ba (1 : Int32) (1 : Int32) a1  h2 n0 SZ2 A2 F_bytes_b2 F_position_b2 F_end_b2 F_place_b2 g_b2) hZ (ww hw 10 rfl) (ww hw 4 rfl) (by decide) (by decide)) (g := (mkF m 25 #[.val (.ref a0), .val (.ref a1), .val (.int (0 : Int32)), .unset] [(.ref a1), (.int (1 : Int32)), (.int (1 : Int32)), (.ref ba), (.ref b2), (.ref b2)])) rfl (by rw [hml]; rfl) (Steps.refl _) (a := b2) (argsL := [(.ref ba), (.int (1 : Int32)), (.int (1 : Int32)), (.ref a1)]) (rest := [(.ref b2)]) (lenOf pd_0 rfl) rfl (Nat.le_refl _) (dd d6_25) (fun _ _ => ⟨rfl, e5, (by decide : 1 + 0 ≤ _), (by decide : 4 + 0 ≤ _)⟩)
  dsimp only [Pt.U, Pt.locs, Pt.cells, Pt.slots, Q_rmI2] at X6 l6 y6 z6 st6 hQ6
  subst l6 y6 z6
  obtain ⟨rfl, N6q, K6q, QE6_0, QF6_0, QF6_1, QF6_2, QF6_3⟩ := hQ6
  have N6 := Fr.app N1 N6q
  have f6_E_a0 := Exa.keep f2_E_a0 K6q
  have f6_V_ba := Arv.keep f2_V_ba K6q (ninS ne_ba_b2 nin0)
  have f6_F_bytes_a0 := Fld.keep f2_F_bytes_a0 K6q (ninS ne_a0_b2 nin0)
  have f6_F_position_a0 := Fld.keep f2_F_position_a0 K6q (ninS ne_a0_b2 nin0)
  have f6_F_end_a0 := Fld.keep f2_F_end_a0 K6q (ninS ne_a0_b2 nin0)
  have f6_Eb2 := Exa.keep A2 K6q
  have SZ6 := Nat.le_trans SZ2 K6q.1
  have K6 := Keep.trans K2 K6q (allS (Or.inr sz_b2) all0)
  refine Gz.tr st6 ?_
  refine Gz.astoreN 29 #[.val (.ref a0), .val (.ref a1), .val (.int (0 : Int32)), .val (.ref b2)] X6 hx (dd d6_28) rfl rfl rfl ?_
  refine Gz.aloadN 30 X6 hx (dd d6_29) rfl rfl rfl ?_
  refine Gz.dup 31 X6 hx (dd d6_30) rfl rfl ?_
  refine Gz.getF 34 X6 hx hZ hown (dd d6_31) (host := "") (Or.inl (ww hw 16 rfl)) Via.refl rfl f6_F_position_a0 rfl fun T7 X7 e7 => ?_
  refine Gz.iloadN 35 X7 hx (dd d6_34) rfl rfl ?_
  refine Gz.iaddV 36 (1 : Int32) X7 hx (dd d6_35) rfl rfl ?_
  refine Gz.putF 39 X7 hx hZ hown .int (dd d6_36) (host := "") (Or.inl (ww hw 16 rfl)) Via.refl e7 f6_F_position_a0 f6_E_a0 (Or.inl (ww hw 17 rfl)) (ww hw 3 rfl) (by decide) rfl rfl rfl fun T8 h8 X8 e8 W8 => ?_
  have f8_E_a0 := Exa.wr W8 f6_E_a0
  have f8_V_ba := Arv.other f6_V_ba W8 ne_ba_a0
  have f8_F_bytes_a0 := Fld.other W8 f6_F_bytes_a0 (Or.inr (slot_ne (Or.inr (ww hw 15 rfl)) (Or.inl (ww hw 17 rfl)) (by decide) (t := (.array .byte)) (t' := .int) (by decide) (by decide)))
  have f8_F_end_a0 := Fld.other W8 f6_F_end_a0 (Or.inr (slot_ne (Or.inr (ww hw 19 rfl)) (Or.inl (ww hw 17 rfl)) (by decide) (t := .int) (t' := .int) (by decide) (by decide)))
  have f8_E_b2 := Exa.wr W8 QE6_0
  have f8_F_bytes_b2 := Fld.other W8 QF6_0 (Or.inl (Ne.symm ne_a0_b2))
  have f8_F_position_b2 := Fld.other W8 QF6_1 (Or.inl (Ne.symm ne_a0_b2))
  have f8_F_end_b2 := Fld.other W8 QF6_2 (Or.inl (Ne.symm ne_a0_b2))
  have f8_F_place_b2 := Fld.other W8 QF6_3 (Or.inl (Ne.symm ne_a0_b2))
  have f8_F_position_a0 := Fld.same W8 f6_F_position_a0
  have N8 := Fr.snoc X8 N6 g_a0
  have SZ8 : n0 ≤ h8.size := Nat.le_trans SZ6 (Keep.of_wr W8).1
  have K8 := Keep.wr K6 W8 (Or.inl (List.mem_of_getElem? (i := 0) rfl))
  refine Gz.aloadN 40 X8 hx (dd d6_39) rfl rfl rfl ?_
  refine Gz.fin X8 (v := some (.ref b2)) (fun h => by rw [hret] at h; cases h) hlk (by decide) (by decide) (fun fs hr => retA X8 hx hret (dd d6_40) hr rfl rfl) ?_
  rw [e8]
  exact ⟨b2, rfl, N8, K8, f8_E_a0, f8_F_bytes_a0, f8_F_position_a0, f8_F_end_a0, g_b2, sz_b2, f8_E_b2, f8_F_bytes_b2, f8_F_position_b2, f8_F_end_b2⟩
theorem ef_rmL20 (m : MethodId) (a0 : Addr) (a1 : Addr) : entryFrame m #[(.ref a0), (.ref a1)] 4 = mkF m 0 #[.val (.ref a0), .val (.ref a1), .unset, .unset] [] := by first | (simp [entryFrame, mkF, argsToLocals, Value.category]; done) | rfl
def Q_rmL20 (Z : State) (a0 : Addr) (a1 : Addr) (ba : Addr) (k_ba : ClassId) (v1 : Int32) (h0 : Heap) (n0 : Nat) (v : Option Value) (h : Heap) (L : List Loc) : Prop := v = some (.int (0 : Int32)) ∧ Fr n0 L ∧ Keep h0 h [a0] ∧ Exa Z h a0 "com/example/bad_status/badstatus/model/ProtoReader" ∧ Fld Z h a0 "com/example/bad_status/badstatus/model/ProtoReader" "bytes" "[B" (.ref ba) ∧ Fld Z h a0 "com/example/bad_status/badstatus/model/ProtoReader" "position" "I" (.int (1 : Int32)) ∧ Fld Z h a0 "com/example/bad_status/badstatus/model/ProtoReader" "end" "I" (.int (2 : Int32))
set_option maxRecDepth 65536 in
set_option maxHeartbeats 40000000 in
theorem rmL20 (l : Launch) (Z : State) (av0 : Array Value) (hw : ∀ d ∈ tables_1, d.before av0 Z = true) (ws : List Jvm.Cond) (a0 : Addr) (a1 : Addr) (ba : Addr) (k_ba : ClassId) (v1 : Int32) (h0 : Heap) (n0 : Nat) (Z0 : n0 ≤ h0.size) (E_a0 : Exa Z h0 a0 "com/example/bad_status/badstatus/model/ProtoReader") (F_bytes_a0 : Fld Z h0 a0 "com/example/bad_status/badstatus/model/ProtoReader" "bytes" "[B" (.ref ba)) (F_position_a0 : Fld Z h0 a0 "com/example/bad_status/badstatus/model/ProtoReader" "position" "I" (.int (0 : Int32))) (F_end_a0 : Fld Z h0 a0 "com/example/bad_status/badstatus/model/ProtoReader" "end" "I" (.int (2 : Int32))) (g_a0 : n0 ≤ a0) (V_ba : Arv Z h0 ba k_ba .byte (2 : Int32) [(.int (0 : Int32)), (.int v1)] (.int (0 : Int32))) (ne_ba_a0 : ba ≠ a0) :
    MetFree l (⟨"com/example/bad_status/badstatus/model/ProtoReader", "readLength", "(Lcom/example/bad_status/badstatus/model/Place;)I"⟩ : MethodName) (head1 (Jvm.Cond.code (⟨"com/example/bad_status/badstatus/model/ProtoReader", "readLength", "(Lcom/example/bad_status/badstatus/model/Place;)I"⟩ : MethodName) prog_17_method_14_code 4 (some .int) :: ws) ({ frames := 1, cells := 0, slots := 0, locals := 16 } : Room)) (fun a U => a = #[(.ref a0), (.ref a1)] ∧ Z.Warmed39 U.vm ∧ U.heap = h0) (fun _ _ _ _ _ => True) (fun _ U o U' => ∃ v L, o = .returned v ∧ Q_rmL20 Z a0 a1 ba k_ba v1 h0 n0 v U'.heap L ∧ FrameEnd U o U' L ({ frames := 1, cells := 0, slots := 0, locals := 16 } : Room).cells ({ frames := 1, cells := 0, slots := 0, locals := 16 } : Room).slots) := by
  refine MetFree.of_bodySF (plainFor_of_name pn_0) hisR ?_
  intro p e s m args below meth c s₁ Bd hml0 hP hK
  obtain ⟨rfl, hZ, hh⟩ := hP
  have hx := Bd.exec
  have hby := Bd.bytes
  have hml : c.maxLocals = 4 := hml0
  have dd : ∀ {pc : Nat} {r : Except DecodeError (Instr × Nat)}, decode prog_17_method_14_code pc = r → decode c.code pc = r := fun q => hb hby q
  have hown : s.vm.findClass "com/example/bad_status/badstatus/model/ProtoReader" = some m.cls := findClass_of_methodNamed Bd.named
  have hnm := (name_of_methodNamed Bd.named Bd.method).1
  have X0 : Stand p l e ({ frames := 1, cells := 0, slots := 0, locals := 16 } : Room) s m #[(.ref a0), (.ref a1)] below meth c s₁ [] 0 0 := Stand.of_body Bd
  have e0 : s₁.heap = h0 := by rw [← hh, Bd.state]; rfl
  have N0 := Fr.nil n0
  have hret := Bd.returns
  have hlk := Bd.notSynchronized
  show Gz p e below s ({ frames := 1, cells := 0, slots := 0, locals := 16 } : Room).cells ({ frames := 1, cells := 0, slots := 0, locals := 16 } : Room).slots (Q_rmL20 Z a0 a1 ba k_ba v1 h0 n0) (s₁.setTop (entryFrame m #[(.ref a0), (.ref a1)] 4))
  refine Gz.enter (ef_rmL20 m a0 a1) ?_
  refine Gz.aloadN 1 X0 hx (dd d7_0) rfl rfl rfl ?_
  obtain ⟨c1, A1, q1, S1, N1, H1, G1⟩ := id V_ba
  have hin2 : ¬ ((0 : Int32) < 0 ∨ c1.slots.size ≤ ((0 : Int32)).toNatClampNeg) := inb_of S1 ⟨by decide, by decide⟩
  have hat2 : c1.slots[((0 : Int32)).toNatClampNeg]? = some (.int (0 : Int32)) := Has.at H1 hin2 rfl
  obtain ⟨cq3, kq3, q3a, q3b, q3c⟩ := isOf hZ e0 E_a0
  obtain ⟨_, _, ⟨T3, L3, k3, n3⟩, -, X3, ⟨Lc3, hQ3, l3, y3, z3⟩, st3⟩ := X0.virtualBack hx (y := ym1) (z := ym1) hown (mvT hZ (ww hw 44 rfl)) (mvT hZ (ww hw 28 rfl)) (notFace_of_selects (args := #[]) (mvT hZ (ww hw 30 rfl))) (mvT hZ (ww hw 30 rfl)) (mvT hZ (ww hw 29 rfl)) (by decide) (backOf (W := 0) (rmV1 l Z av0 hw [] a0 ba (0 : Int32) (2 : Int32) c1 (0 : Int32) h0 n0 Z0 E_a0 F_bytes_a0 F_position_a0 F_end_a0 g_a0 A1 ne_ba_a0 hin2 hat2 (by decide : ¬ ((0 : Int32) = (2 : Int32))) (by decide : ¬ ((0 : Int32) < (0 : Int32)))) hZ (ww hw 31 rfl) (ww hw 4 rfl) (by decide) (by decide)) q3a q3c (g := (mkF m 1 #[.val (.ref a0), .val (.ref a1), .unset, .unset] [(.ref a0)])) rfl (by rw [hml]; rfl) (Steps.refl _) (argsL := []) (rest := []) (lenOf pd_1 rfl) rfl (Nat.le_refl _) (dd d7_1) (fun _ _ => ⟨rfl, e0, (by decide : 0 + 0 ≤ _), (by decide : 0 + 0 ≤ _)⟩)
  dsimp only [Pt.U, Pt.locs, Pt.cells, Pt.slots, Q_rmV1] at X3 l3 y3 z3 st3 hQ3
  subst l3 y3 z3
  obtain ⟨rfl, N3q, K3q, QE3_0, QF3_0, QF3_1, QF3_2⟩ := hQ3
  have N3 := Fr.app N0 N3q
  have f3_E_a0 := Exa.keep E_a0 K3q
  have f3_V_ba := Arv.keep V_ba K3q (ninS ne_ba_a0 nin0)
  have SZ3 := Nat.le_trans Z0 K3q.1
  have K3 := Keep.trans (Keep.refl h0 [a0]) K3q (allS (Or.inl (List.mem_of_getElem? (i := 0) rfl)) all0)
  replace QF3_1 : Fld Z T3.heap a0 "com/example/bad_status/badstatus/model/ProtoReader" "position" "I" (.int (1 : Int32)) := QF3_1
  refine Gz.tr st3 ?_
  refine Gz.lstoreN 5 #[.val (.ref a0), .val (.ref a1), .val (.long ((0 : Int64) ||| ((((0 : Int32) &&& (127 : Int32)).toInt64) <<< ((0 : Int32) &&& 0x3f).toInt64))), .second] X3 hx (dd d7_4) rfl rfl ?_
  refine Gz.lloadN 6 X3 hx (dd d7_5) rfl rfl ?_
  refine Gz.lconst 7 (0 : Int64) X3 hx (dd d7_6) rfl rfl ?_
  refine Gz.lcmp 8 X3 hx (dd d7_7) rfl ?_
  refine Gz.ifNo 11 X3 hx (dd d7_8) ((if0 _ _).trans (flt (fun q => ((by decide) : ¬ (((0 : Int64) ||| ((((0 : Int32) &&& (127 : Int32)).toInt64) <<< ((0 : Int32) &&& 0x3f).toInt64)) < (0 : Int64))) ((lw_lt _ _).mp q))).1) rfl ?_
  refine Gz.lloadN 12 X3 hx (dd d7_11) rfl rfl ?_
  refine Gz.aloadN 13 X3 hx (dd d7_12) rfl rfl rfl ?_
  refine Gz.getF 16 X3 hx hZ hown (dd d7_13) (host := "") (Or.inl (ww hw 18 rfl)) Via.refl rfl QF3_2 rfl fun T4 X4 e4 => ?_
  refine Gz.aloadN 17 X4 hx (dd d7_16) rfl rfl rfl ?_
  refine Gz.getF 20 X4 hx hZ hown (dd d7_17) (host := "") (Or.inl (ww hw 16 rfl)) Via.refl e4 QF3_1 rfl fun T5 X5 e5 => ?_
  refine Gz.isubV 21 (1 : Int32) X5 hx (dd d7_20) rfl rfl ?_
  refine Gz.i2lV 22 (1 : Int64) X5 hx (dd d7_21) rfl rfl ?_
  refine Gz.lcmp 23 X5 hx (dd d7_22) rfl ?_
  refine Gz.ifYes 31 X5 hx (dd d7_23) ((if0 _ _).trans (flt (fun q => ((by decide) : ¬ ((1 : Int64) < ((0 : Int64) ||| ((((0 : Int32) &&& (127 : Int32)).toInt64) <<< ((0 : Int32) &&& 0x3f).toInt64)))) ((lw_gt _ _).mp q))).2.2.2) (by decide) (by decide) ?_
  refine Gz.lloadN 32 X5 hx (dd d7_31) rfl rfl ?_
  refine Gz.l2i 33 X5 hx (dd d7_32) rfl ?_
  show Gz p e below s _ _ _ (T5.setTop (mkF m 33 #[.val (.ref a0), .val (.ref a1), .val (.long ((0 : Int64) ||| ((((0 : Int32) &&& (127 : Int32)).toInt64) <<< ((0 : Int32) &&& 0x3f).toInt64))), .second] [(.int (((0 : Int64) ||| ((((0 : Int32) &&& (127 : Int32)).toInt64) <<< ((0 : Int32) &&& 0x3f).toInt64)).toInt32))]))
  rw [show (((0 : Int64) ||| ((((0 : Int32) &&& (127 : Int32)).toInt64) <<< ((0 : Int32) &&& 0x3f).toInt64)).toInt32) = (0 : Int32) from by decide]
  refine Gz.fin X5 (v := some (.int (0 : Int32))) (fun h => by rw [hret] at h; cases h) hlk (by decide) (by decide) (fun fs hr => retI X5 hx hret (dd d7_33) hr) ?_
  rw [e5]
  exact ⟨rfl, N3, K3, QE3_0, QF3_0, QF3_1, QF3_2⟩
theorem ef_rmM20 (m : MethodId) (a0 : Addr) (a1 : Addr) : entryFrame m #[(.ref a0), (.ref a1)] 4 = mkF m 0 #[.val (.ref a0), .val (.ref a1), .unset, .unset] [] := by first | (simp [entryFrame, mkF, argsToLocals, Value.category]; done) | rfl
def Q_rmM20 (Z : State) (a0 : Addr) (a1 : Addr) (ba : Addr) (k_ba : ClassId) (v1 : Int32) (h0 : Heap) (n0 : Nat) (v : Option Value) (h : Heap) (L : List Loc) : Prop := ∃ rd : Addr, v = some (.ref rd) ∧ Fr n0 L ∧ Keep h0 h [a0] ∧ Exa Z h a0 "com/example/bad_status/badstatus/model/ProtoReader" ∧ Fld Z h a0 "com/example/bad_status/badstatus/model/ProtoReader" "bytes" "[B" (.ref ba) ∧ Fld Z h a0 "com/example/bad_status/badstatus/model/ProtoReader" "position" "I" (.int (1 : Int32)) ∧ Fld Z h a0 "com/example/bad_status/badstatus/model/ProtoReader" "end" "I" (.int (2 : Int32)) ∧ n0 ≤ rd ∧ h0.size ≤ rd ∧ Exa Z h rd "com/example/bad_status/badstatus/model/ProtoReader" ∧ Fld Z h rd "com/example/bad_status/badstatus/model/ProtoReader" "bytes" "[B" (.ref ba) ∧ Fld Z h rd "com/example/bad_status/badstatus/model/ProtoReader" "position" "I" (.int (1 : Int32)) ∧ Fld Z h rd "com/example/bad_status/badstatus/model/ProtoReader" "end" "I" (.int (1 : Int32))
set_option maxRecDepth 65536 in
set_option maxHeartbeats 40000000 in
theorem rmM20 (l : Launch) (Z : State) (av0 : Array Value) (hw : ∀ d ∈ tables_1, d.before av0 Z = true) (ws : List Jvm.Cond) (a0 : Addr) (a1 : Addr) (ba : Addr) (k_ba : ClassId) (v1 : Int32) (h0 : Heap) (n0 : Nat) (Z0 : n0 ≤ h0.size) (E_a0 : Exa Z h0 a0 "com/example/bad_status/badstatus/model/ProtoReader") (F_bytes_a0 : Fld Z h0 a0 "com/example/bad_status/badstatus/model/ProtoReader" "bytes" "[B" (.ref ba)) (F_position_a0 : Fld Z h0 a0 "com/example/bad_status/badstatus/model/ProtoReader" "position" "I" (.int (0 : Int32))) (F_end_a0 : Fld Z h0 a0 "com/example/bad_status/badstatus/model/ProtoReader" "end" "I" (.int (2 : Int32))) (g_a0 : n0 ≤ a0) (V_ba : Arv Z h0 ba k_ba .byte (2 : Int32) [(.int (0 : Int32)), (.int v1)] (.int (0 : Int32))) (ne_ba_a0 : ba ≠ a0) :
    MetFree l (⟨"com/example/bad_status/badstatus/model/ProtoReader", "readMessage", "(Lcom/example/bad_status/badstatus/model/Place;)Lcom/example/bad_status/badstatus/model/ProtoReader;"⟩ : MethodName) (head1 (Jvm.Cond.code (⟨"com/example/bad_status/badstatus/model/ProtoReader", "readMessage", "(Lcom/example/bad_status/badstatus/model/Place;)Lcom/example/bad_status/badstatus/model/ProtoReader;"⟩ : MethodName) prog_17_method_9_code 4 (some (.object "com/example/bad_status/badstatus/model/ProtoReader")) :: ws) ({ frames := 2, cells := 1, slots := 4, locals := 31 } : Room)) (fun a U => a = #[(.ref a0), (.ref a1)] ∧ Z.Warmed39 U.vm ∧ U.heap = h0) (fun _ _ _ _ _ => True) (fun _ U o U' => ∃ v L, o = .returned v ∧ Q_rmM20 Z a0 a1 ba k_ba v1 h0 n0 v U'.heap L ∧ FrameEnd U o U' L ({ frames := 2, cells := 1, slots := 4, locals := 31 } : Room).cells ({ frames := 2, cells := 1, slots := 4, locals := 31 } : Room).slots) := by
  refine MetFree.of_bodySF (plainFor_of_name pn_0) hisR ?_
  intro p e s m args below meth c s₁ Bd hml0 hP hK
  obtain ⟨rfl, hZ, hh⟩ := hP
  have hx := Bd.exec
  have hby := Bd.bytes
  have hml : c.maxLocals = 4 := hml0
  have dd : ∀ {pc : Nat} {r : Except DecodeError (Instr × Nat)}, decode prog_17_method_9_code pc = r → decode c.code pc = r := fun q => hb hby q
  have hown : s.vm.findClass "com/example/bad_status/badstatus/model/ProtoReader" = some m.cls := findClass_of_methodNamed Bd.named
  have hnm := (name_of_methodNamed Bd.named Bd.method).1
  have X0 : Stand p l e ({ frames := 2, cells := 1, slots := 4, locals := 31 } : Room) s m #[(.ref a0), (.ref a1)] below meth c s₁ [] 0 0 := Stand.of_body Bd
  have e0 : s₁.heap = h0 := by rw [← hh, Bd.state]; rfl
  have N0 := Fr.nil n0
  have hret := Bd.returns
  have hlk := Bd.notSynchronized
  show Gz p e below s ({ frames := 2, cells := 1, slots := 4, locals := 31 } : Room).cells ({ frames := 2, cells := 1, slots := 4, locals := 31 } : Room).slots (Q_rmM20 Z a0 a1 ba k_ba v1 h0 n0) (s₁.setTop (entryFrame m #[(.ref a0), (.ref a1)] 4))
  refine Gz.enter (ef_rmM20 m a0 a1) ?_
  refine Gz.aloadN 1 X0 hx (dd d6_0) rfl rfl rfl ?_
  refine Gz.aloadN 2 X0 hx (dd d6_1) rfl rfl rfl ?_
  obtain ⟨cq1, q1, q1'⟩ := E_a0.cell
  obtain ⟨_, _, ⟨T1, L1, k1, n1⟩, -, X1, ⟨Lc1, hQ1, l1, y1, z1⟩, st1⟩ := X0.privateBack hx (y := ym2) hown (mvT hZ (ww hw 40 rfl)) (mvT hZ (ww hw 41 rfl)) (own_selp (y := ym2) (y' := ym3) rfl (mvT hZ (ww hw 25 rfl)) (mvT hZ (ww hw 24 rfl)) (mvT hZ (ww hw 41 rfl)) (Cond.privateMethod_at (mvP hZ (ww hw 42 rfl) (args := #[]))) (by decide)) (Cond.privateMethod_at (mvP hZ (ww hw 42 rfl) (args := #[]))) (mvT hZ (ww hw 43 rfl)) (by decide) (backOf (W := 0) (rmL20 l Z av0 hw [] a0 a1 ba k_ba v1 h0 n0 Z0 E_a0 F_bytes_a0 F_position_a0 F_end_a0 g_a0 V_ba ne_ba_a0) hZ (ww hw 43 rfl) (ww hw 4 rfl) (by decide) (by decide)) (g := (mkF m 2 #[.val (.ref a0), .val (.ref a1), .unset, .unset] [(.ref a1), (.ref a0)])) rfl (by rw [hml]; rfl) (Steps.refl _) (a := a0) (by rw [e0]; exact q1) q1' (argsL := [(.ref a1)]) (rest := []) (lenOf pd_2 rfl) rfl (Nat.le_refl _) (dd d6_2) (fun _ _ => ⟨rfl, e0, (by decide : 0 + 0 ≤ _), (by decide : 0 + 0 ≤ _)⟩)
  dsimp only [Pt.U, Pt.locs, Pt.cells, Pt.slots, Q_rmL20] at X1 l1 y1 z1 st1 hQ1
  subst l1 y1 z1
  obtain ⟨rfl, N1q, K1q, QE1_0, QF1_0, QF1_1, QF1_2⟩ := hQ1
  have N1 := Fr.app N0 N1q
  have f1_E_a0 := Exa.keep E_a0 K1q
  have f1_V_ba := Arv.keep V_ba K1q (ninS ne_ba_a0 nin0)
  have SZ1 := Nat.le_trans Z0 K1q.1
  have K1 := Keep.trans (Keep.refl h0 [a0]) K1q (allS (Or.inl (List.mem_of_getElem? (i := 0) rfl)) all0)
  refine Gz.tr st1 ?_
  refine Gz.istoreN 6 #[.val (.ref a0), .val (.ref a1), .val (.int (0 : Int32)), .unset] X1 hx (dd d6_5) rfl rfl ?_
  obtain ⟨T2, h2, X2, e2, E2, A2, D2, -, st2⟩ := newO X1 hx hZ hown (ww hw 45 rfl) (ww hw 3 rfl) (ww hw 4 rfl) rfl (g := (mkF m 6 #[.val (.ref a0), .val (.ref a1), .val (.int (0 : Int32)), .unset] [])) rfl (dd d6_6) (by decide) (by decide)
  obtain ⟨b2, g2⟩ : ∃ z, z = T1.heap.size := ⟨_, rfl⟩
  rw [← g2] at A2 D2 st2
  have ne_a0_b2 : a0 ≠ b2 := Nat.ne_of_lt (Nat.lt_of_lt_of_le (QE1_0).lt (Nat.le_of_eq g2.symm))
  have ne_ba_b2 : ba ≠ b2 := Nat.ne_of_lt (Nat.lt_of_lt_of_le (f1_V_ba).lt (Nat.le_of_eq g2.symm))
  have g_b2 : n0 ≤ b2 := Nat.le_trans SZ1 (Nat.le_of_eq g2.symm)
  have SZ2 : n0 ≤ h2.size := Nat.le_trans SZ1 E2.1
  have sz_b2 : h0.size ≤ b2 := Nat.le_trans K1.1 (Nat.le_of_eq g2.symm)
  have K2 := Keep.ext K1 E2
  have f2_E_a0 := Exa.ext E2 QE1_0
  have f2_V_ba := Arv.ext f1_V_ba E2
  have f2_F_bytes_a0 := Fld.ext E2 QF1_0
  have f2_F_position_a0 := Fld.ext E2 QF1_1
  have f2_F_end_a0 := Fld.ext E2 QF1_2
  have F_bytes_b2 : Fld Z h2 b2 "com/example/bad_status/badstatus/model/ProtoReader" "bytes" "[B" .null := D2 (Or.inr (ww hw 15 rfl)) (ty := (.array .byte)) (by decide)
  have F_position_b2 : Fld Z h2 b2 "com/example/bad_status/badstatus/model/ProtoReader" "position" "I" (.int (0 : Int32)) := D2 (Or.inl (ww hw 17 rfl)) (ty := .int) (by decide)
  have F_end_b2 : Fld Z h2 b2 "com/example/bad_status/badstatus/model/ProtoReader" "end" "I" (.int (0 : Int32)) := D2 (Or.inr (ww hw 19 rfl)) (ty := .int) (by decide)
  have F_place_b2 : Fld Z h2 b2 "com/example/bad_status/badstatus/model/ProtoReader" "place" "Lcom/example/bad_status/badstatus/model/Place;" .null := D2 (Or.inr (ww hw 21 rfl)) (ty := (.object "com/example/bad_status/badstatus/model/Place")) (by decide)
  refine Gz.st st2 ?_
  refine Gz.dup 10 X2 hx (dd d6_9) rfl rfl ?_
  refine Gz.aloadN 11 X2 hx (dd d6_10) rfl rfl rfl ?_
  refine Gz.getF 14 X2 hx hZ hown (dd d6_11) (host := "") (Or.inl (ww hw 14 rfl)) Via.refl e2 f2_F_bytes_a0 rfl fun T3 X3 e3 => ?_
  refine Gz.aloadN 15 X3 hx (dd d6_14) rfl rfl rfl ?_
  refine Gz.getF 18 X3 hx hZ hown (dd d6_15) (host := "") (Or.inl (ww hw 16 rfl)) Via.refl e3 f2_F_position_a0 rfl fun T4 X4 e4 => ?_
  refine Gz.aloadN 19 X4 hx (dd d6_18) rfl rfl rfl ?_
  refine Gz.getF 22 X4 hx hZ hown (dd d6_19) (host := "") (Or.inl (ww hw 16 rfl)) Via.refl e4 f2_F_position_a0 rfl fun T5 X5 e5 => ?_
  refine Gz.iloadN 23 X5 hx (dd d6_22) rfl rfl ?_
  refine Gz.iaddV 24 (1 : Int32) X5 hx (dd d6_23) rfl rfl ?_
  refine Gz.aloadN 25 X5 hx (dd d6_24) rfl rfl rfl ?_
  obtain ⟨_, _, ⟨T6, L6, k6, n6⟩, -, X6, ⟨Lc6, hQ6, l6, y6, z6⟩, st6⟩ := X5.specialBack hx (y := ym0) rfl hown (mvT hZ (ww hw 8 rfl)) (mvT hZ (ww hw 9 rfl)) (mvT hZ (ww hw 10 rfl)) (by decide) (backOf (W := 1) (rmI2 l Z av0 hw [] b2 ba (1 : Int32) (1 : Int32) a1  h2 n0 SZ2 A2 F_bytes_b2 F_position_b2 F_end_b2 F_place_b2 g_b2) hZ (ww hw 10 rfl) (ww hw 4 rfl) (by decide) (by decide)) (g := (mkF m 25 #[.val (.ref a0), .val (.ref a1), .val (.int (0 : Int32)), .unset] [(.ref a1), (.int (1 : Int32)), (.int (1 : Int32)), (.ref ba), (.ref b2), (.ref b2)])) rfl (by rw [hml]; rfl) (Steps.refl _) (a := b2) (argsL := [(.ref ba), (.int (1 : Int32)), (.int (1 : Int32)), (.ref a1)]) (rest := [(.ref b2)]) (lenOf pd_0 rfl) rfl (Nat.le_refl _) (dd d6_25) (fun _ _ => ⟨rfl, e5, (by decide : 1 + 0 ≤ _), (by decide : 4 + 0 ≤ _)⟩)
  dsimp only [Pt.U, Pt.locs, Pt.cells, Pt.slots, Q_rmI2] at X6 l6 y6 z6 st6 hQ6
  subst l6 y6 z6
  obtain ⟨rfl, N6q, K6q, QE6_0, QF6_0, QF6_1, QF6_2, QF6_3⟩ := hQ6
  have N6 := Fr.app N1 N6q
  have f6_E_a0 := Exa.keep f2_E_a0 K6q
  have f6_V_ba := Arv.keep f2_V_ba K6q (ninS ne_ba_b2 nin0)
  have f6_F_bytes_a0 := Fld.keep f2_F_bytes_a0 K6q (ninS ne_a0_b2 nin0)
  have f6_F_position_a0 := Fld.keep f2_F_position_a0 K6q (ninS ne_a0_b2 nin0)
  have f6_F_end_a0 := Fld.keep f2_F_end_a0 K6q (ninS ne_a0_b2 nin0)
  have f6_Eb2 := Exa.keep A2 K6q
  have SZ6 := Nat.le_trans SZ2 K6q.1
  have K6 := Keep.trans K2 K6q (allS (Or.inr sz_b2) all0)
  refine Gz.tr st6 ?_
  refine Gz.astoreN 29 #[.val (.ref a0), .val (.ref a1), .val (.int (0 : Int32)), .val (.ref b2)] X6 hx (dd d6_28) rfl rfl rfl ?_
  refine Gz.aloadN 30 X6 hx (dd d6_29) rfl rfl rfl ?_
  refine Gz.dup 31 X6 hx (dd d6_30) rfl rfl ?_
  refine Gz.getF 34 X6 hx hZ hown (dd d6_31) (host := "") (Or.inl (ww hw 16 rfl)) Via.refl rfl f6_F_position_a0 rfl fun T7 X7 e7 => ?_
  refine Gz.iloadN 35 X7 hx (dd d6_34) rfl rfl ?_
  refine Gz.iaddV 36 (1 : Int32) X7 hx (dd d6_35) rfl rfl ?_
  refine Gz.putF 39 X7 hx hZ hown .int (dd d6_36) (host := "") (Or.inl (ww hw 16 rfl)) Via.refl e7 f6_F_position_a0 f6_E_a0 (Or.inl (ww hw 17 rfl)) (ww hw 3 rfl) (by decide) rfl rfl rfl fun T8 h8 X8 e8 W8 => ?_
  have f8_E_a0 := Exa.wr W8 f6_E_a0
  have f8_V_ba := Arv.other f6_V_ba W8 ne_ba_a0
  have f8_F_bytes_a0 := Fld.other W8 f6_F_bytes_a0 (Or.inr (slot_ne (Or.inr (ww hw 15 rfl)) (Or.inl (ww hw 17 rfl)) (by decide) (t := (.array .byte)) (t' := .int) (by decide) (by decide)))
  have f8_F_end_a0 := Fld.other W8 f6_F_end_a0 (Or.inr (slot_ne (Or.inr (ww hw 19 rfl)) (Or.inl (ww hw 17 rfl)) (by decide) (t := .int) (t' := .int) (by decide) (by decide)))
  have f8_E_b2 := Exa.wr W8 QE6_0
  have f8_F_bytes_b2 := Fld.other W8 QF6_0 (Or.inl (Ne.symm ne_a0_b2))
  have f8_F_position_b2 := Fld.other W8 QF6_1 (Or.inl (Ne.symm ne_a0_b2))
  have f8_F_end_b2 := Fld.other W8 QF6_2 (Or.inl (Ne.symm ne_a0_b2))
  have f8_F_place_b2 := Fld.other W8 QF6_3 (Or.inl (Ne.symm ne_a0_b2))
  have f8_F_position_a0 := Fld.same W8 f6_F_position_a0
  have N8 := Fr.snoc X8 N6 g_a0
  have SZ8 : n0 ≤ h8.size := Nat.le_trans SZ6 (Keep.of_wr W8).1
  have K8 := Keep.wr K6 W8 (Or.inl (List.mem_of_getElem? (i := 0) rfl))
  refine Gz.aloadN 40 X8 hx (dd d6_39) rfl rfl rfl ?_
  refine Gz.fin X8 (v := some (.ref b2)) (fun h => by rw [hret] at h; cases h) hlk (by decide) (by decide) (fun fs hr => retA X8 hx hret (dd d6_40) hr rfl rfl) ?_
  rw [e8]
  exact ⟨b2, rfl, N8, K8, f8_E_a0, f8_F_bytes_a0, f8_F_position_a0, f8_F_end_a0, g_b2, sz_b2, f8_E_b2, f8_F_bytes_b2, f8_F_position_b2, f8_F_end_b2⟩
theorem ef_rmL21 (m : MethodId) (a0 : Addr) (a1 : Addr) : entryFrame m #[(.ref a0), (.ref a1)] 4 = mkF m 0 #[.val (.ref a0), .val (.ref a1), .unset, .unset] [] := by first | (simp [entryFrame, mkF, argsToLocals, Value.category]; done) | rfl
def Q_rmL21 (Z : State) (a0 : Addr) (a1 : Addr) (ba : Addr) (k_ba : ClassId) (v1 : Int32) (h0 : Heap) (n0 : Nat) (v : Option Value) (h : Heap) (L : List Loc) : Prop := v = some (.int (1 : Int32)) ∧ Fr n0 L ∧ Keep h0 h [a0] ∧ Exa Z h a0 "com/example/bad_status/badstatus/model/ProtoReader" ∧ Fld Z h a0 "com/example/bad_status/badstatus/model/ProtoReader" "bytes" "[B" (.ref ba) ∧ Fld Z h a0 "com/example/bad_status/badstatus/model/ProtoReader" "position" "I" (.int (1 : Int32)) ∧ Fld Z h a0 "com/example/bad_status/badstatus/model/ProtoReader" "end" "I" (.int (2 : Int32))
set_option maxRecDepth 65536 in
set_option maxHeartbeats 40000000 in
theorem rmL21 (l : Launch) (Z : State) (av0 : Array Value) (hw : ∀ d ∈ tables_1, d.before av0 Z = true) (ws : List Jvm.Cond) (a0 : Addr) (a1 : Addr) (ba : Addr) (k_ba : ClassId) (v1 : Int32) (h0 : Heap) (n0 : Nat) (Z0 : n0 ≤ h0.size) (E_a0 : Exa Z h0 a0 "com/example/bad_status/badstatus/model/ProtoReader") (F_bytes_a0 : Fld Z h0 a0 "com/example/bad_status/badstatus/model/ProtoReader" "bytes" "[B" (.ref ba)) (F_position_a0 : Fld Z h0 a0 "com/example/bad_status/badstatus/model/ProtoReader" "position" "I" (.int (0 : Int32))) (F_end_a0 : Fld Z h0 a0 "com/example/bad_status/badstatus/model/ProtoReader" "end" "I" (.int (2 : Int32))) (g_a0 : n0 ≤ a0) (V_ba : Arv Z h0 ba k_ba .byte (2 : Int32) [(.int (1 : Int32)), (.int v1)] (.int (0 : Int32))) (ne_ba_a0 : ba ≠ a0) :
    MetFree l (⟨"com/example/bad_status/badstatus/model/ProtoReader", "readLength", "(Lcom/example/bad_status/badstatus/model/Place;)I"⟩ : MethodName) (head1 (Jvm.Cond.code (⟨"com/example/bad_status/badstatus/model/ProtoReader", "readLength", "(Lcom/example/bad_status/badstatus/model/Place;)I"⟩ : MethodName) prog_17_method_14_code 4 (some .int) :: ws) ({ frames := 1, cells := 0, slots := 0, locals := 16 } : Room)) (fun a U => a = #[(.ref a0), (.ref a1)] ∧ Z.Warmed39 U.vm ∧ U.heap = h0) (fun _ _ _ _ _ => True) (fun _ U o U' => ∃ v L, o = .returned v ∧ Q_rmL21 Z a0 a1 ba k_ba v1 h0 n0 v U'.heap L ∧ FrameEnd U o U' L ({ frames := 1, cells := 0, slots := 0, locals := 16 } : Room).cells ({ frames := 1, cells := 0, slots := 0, locals := 16 } : Room).slots) := by
  refine MetFree.of_bodySF (plainFor_of_name pn_0) hisR ?_
  intro p e s m args below meth c s₁ Bd hml0 hP hK
  obtain ⟨rfl, hZ, hh⟩ := hP
  have hx := Bd.exec
  have hby := Bd.bytes
  have hml : c.maxLocals = 4 := hml0
  have dd : ∀ {pc : Nat} {r : Except DecodeError (Instr × Nat)}, decode prog_17_method_14_code pc = r → decode c.code pc = r := fun q => hb hby q
  have hown : s.vm.findClass "com/example/bad_status/badstatus/model/ProtoReader" = some m.cls := findClass_of_methodNamed Bd.named
  have hnm := (name_of_methodNamed Bd.named Bd.method).1
  have X0 : Stand p l e ({ frames := 1, cells := 0, slots := 0, locals := 16 } : Room) s m #[(.ref a0), (.ref a1)] below meth c s₁ [] 0 0 := Stand.of_body Bd
  have e0 : s₁.heap = h0 := by rw [← hh, Bd.state]; rfl
  have N0 := Fr.nil n0
  have hret := Bd.returns
  have hlk := Bd.notSynchronized
  show Gz p e below s ({ frames := 1, cells := 0, slots := 0, locals := 16 } : Room).cells ({ frames := 1, cells := 0, slots := 0, locals := 16 } : Room).slots (Q_rmL21 Z a0 a1 ba k_ba v1 h0 n0) (s₁.setTop (entryFrame m #[(.ref a0), (.ref a1)] 4))
  refine Gz.enter (ef_rmL21 m a0 a1) ?_
  refine Gz.aloadN 1 X0 hx (dd d7_0) rfl rfl rfl ?_
  obtain ⟨c1, A1, q1, S1, N1, H1, G1⟩ := id V_ba
  have hin2 : ¬ ((0 : Int32) < 0 ∨ c1.slots.size ≤ ((0 : Int32)).toNatClampNeg) := inb_of S1 ⟨by decide, by decide⟩
  have hat2 : c1.slots[((0 : Int32)).toNatClampNeg]? = some (.int (1 : Int32)) := Has.at H1 hin2 rfl
  obtain ⟨cq3, kq3, q3a, q3b, q3c⟩ := isOf hZ e0 E_a0
  obtain ⟨_, _, ⟨T3, L3, k3, n3⟩, -, X3, ⟨Lc3, hQ3, l3, y3, z3⟩, st3⟩ := X0.virtualBack hx (y := ym1) (z := ym1) hown (mvT hZ (ww hw 44 rfl)) (mvT hZ (ww hw 28 rfl)) (notFace_of_selects (args := #[]) (mvT hZ (ww hw 30 rfl))) (mvT hZ (ww hw 30 rfl)) (mvT hZ (ww hw 29 rfl)) (by decide) (backOf (W := 0) (rmV1 l Z av0 hw [] a0 ba (0 : Int32) (2 : Int32) c1 (1 : Int32) h0 n0 Z0 E_a0 F_bytes_a0 F_position_a0 F_end_a0 g_a0 A1 ne_ba_a0 hin2 hat2 (by decide : ¬ ((0 : Int32) = (2 : Int32))) (by decide : ¬ ((1 : Int32) < (0 : Int32)))) hZ (ww hw 31 rfl) (ww hw 4 rfl) (by decide) (by decide)) q3a q3c (g := (mkF m 1 #[.val (.ref a0), .val (.ref a1), .unset, .unset] [(.ref a0)])) rfl (by rw [hml]; rfl) (Steps.refl _) (argsL := []) (rest := []) (lenOf pd_1 rfl) rfl (Nat.le_refl _) (dd d7_1) (fun _ _ => ⟨rfl, e0, (by decide : 0 + 0 ≤ _), (by decide : 0 + 0 ≤ _)⟩)
  dsimp only [Pt.U, Pt.locs, Pt.cells, Pt.slots, Q_rmV1] at X3 l3 y3 z3 st3 hQ3
  subst l3 y3 z3
  obtain ⟨rfl, N3q, K3q, QE3_0, QF3_0, QF3_1, QF3_2⟩ := hQ3
  have N3 := Fr.app N0 N3q
  have f3_E_a0 := Exa.keep E_a0 K3q
  have f3_V_ba := Arv.keep V_ba K3q (ninS ne_ba_a0 nin0)
  have SZ3 := Nat.le_trans Z0 K3q.1
  have K3 := Keep.trans (Keep.refl h0 [a0]) K3q (allS (Or.inl (List.mem_of_getElem? (i := 0) rfl)) all0)
  replace QF3_1 : Fld Z T3.heap a0 "com/example/bad_status/badstatus/model/ProtoReader" "position" "I" (.int (1 : Int32)) := QF3_1
  refine Gz.tr st3 ?_
  refine Gz.lstoreN 5 #[.val (.ref a0), .val (.ref a1), .val (.long ((0 : Int64) ||| ((((1 : Int32) &&& (127 : Int32)).toInt64) <<< ((0 : Int32) &&& 0x3f).toInt64))), .second] X3 hx (dd d7_4) rfl rfl ?_
  refine Gz.lloadN 6 X3 hx (dd d7_5) rfl rfl ?_
  refine Gz.lconst 7 (0 : Int64) X3 hx (dd d7_6) rfl rfl ?_
  refine Gz.lcmp 8 X3 hx (dd d7_7) rfl ?_
  refine Gz.ifNo 11 X3 hx (dd d7_8) ((if0 _ _).trans (flt (fun q => ((by decide) : ¬ (((0 : Int64) ||| ((((1 : Int32) &&& (127 : Int32)).toInt64) <<< ((0 : Int32) &&& 0x3f).toInt64)) < (0 : Int64))) ((lw_lt _ _).mp q))).1) rfl ?_
  refine Gz.lloadN 12 X3 hx (dd d7_11) rfl rfl ?_
  refine Gz.aloadN 13 X3 hx (dd d7_12) rfl rfl rfl ?_
  refine Gz.getF 16 X3 hx hZ hown (dd d7_13) (host := "") (Or.inl (ww hw 18 rfl)) Via.refl rfl QF3_2 rfl fun T4 X4 e4 => ?_
  refine Gz.aloadN 17 X4 hx (dd d7_16) rfl rfl rfl ?_
  refine Gz.getF 20 X4 hx hZ hown (dd d7_17) (host := "") (Or.inl (ww hw 16 rfl)) Via.refl e4 QF3_1 rfl fun T5 X5 e5 => ?_
  refine Gz.isubV 21 (1 : Int32) X5 hx (dd d7_20) rfl rfl ?_
  refine Gz.i2lV 22 (1 : Int64) X5 hx (dd d7_21) rfl rfl ?_
  refine Gz.lcmp 23 X5 hx (dd d7_22) rfl ?_
  refine Gz.ifYes 31 X5 hx (dd d7_23) ((if0 _ _).trans (flt (fun q => ((by decide) : ¬ ((1 : Int64) < ((0 : Int64) ||| ((((1 : Int32) &&& (127 : Int32)).toInt64) <<< ((0 : Int32) &&& 0x3f).toInt64)))) ((lw_gt _ _).mp q))).2.2.2) (by decide) (by decide) ?_
  refine Gz.lloadN 32 X5 hx (dd d7_31) rfl rfl ?_
  refine Gz.l2i 33 X5 hx (dd d7_32) rfl ?_
  show Gz p e below s _ _ _ (T5.setTop (mkF m 33 #[.val (.ref a0), .val (.ref a1), .val (.long ((0 : Int64) ||| ((((1 : Int32) &&& (127 : Int32)).toInt64) <<< ((0 : Int32) &&& 0x3f).toInt64))), .second] [(.int (((0 : Int64) ||| ((((1 : Int32) &&& (127 : Int32)).toInt64) <<< ((0 : Int32) &&& 0x3f).toInt64)).toInt32))]))
  rw [show (((0 : Int64) ||| ((((1 : Int32) &&& (127 : Int32)).toInt64) <<< ((0 : Int32) &&& 0x3f).toInt64)).toInt32) = (1 : Int32) from by decide]
  refine Gz.fin X5 (v := some (.int (1 : Int32))) (fun h => by rw [hret] at h; cases h) hlk (by decide) (by decide) (fun fs hr => retI X5 hx hret (dd d7_33) hr) ?_
  rw [e5]
  exact ⟨rfl, N3, K3, QE3_0, QF3_0, QF3_1, QF3_2⟩
theorem ef_rmM21 (m : MethodId) (a0 : Addr) (a1 : Addr) : entryFrame m #[(.ref a0), (.ref a1)] 4 = mkF m 0 #[.val (.ref a0), .val (.ref a1), .unset, .unset] [] := by first | (simp [entryFrame, mkF, argsToLocals, Value.category]; done) | rfl
def Q_rmM21 (Z : State) (a0 : Addr) (a1 : Addr) (ba : Addr) (k_ba : ClassId) (v1 : Int32) (h0 : Heap) (n0 : Nat) (v : Option Value) (h : Heap) (L : List Loc) : Prop := ∃ rd : Addr, v = some (.ref rd) ∧ Fr n0 L ∧ Keep h0 h [a0] ∧ Exa Z h a0 "com/example/bad_status/badstatus/model/ProtoReader" ∧ Fld Z h a0 "com/example/bad_status/badstatus/model/ProtoReader" "bytes" "[B" (.ref ba) ∧ Fld Z h a0 "com/example/bad_status/badstatus/model/ProtoReader" "position" "I" (.int (2 : Int32)) ∧ Fld Z h a0 "com/example/bad_status/badstatus/model/ProtoReader" "end" "I" (.int (2 : Int32)) ∧ n0 ≤ rd ∧ h0.size ≤ rd ∧ Exa Z h rd "com/example/bad_status/badstatus/model/ProtoReader" ∧ Fld Z h rd "com/example/bad_status/badstatus/model/ProtoReader" "bytes" "[B" (.ref ba) ∧ Fld Z h rd "com/example/bad_status/badstatus/model/ProtoReader" "position" "I" (.int (1 : Int32)) ∧ Fld Z h rd "com/example/bad_status/badstatus/model/ProtoReader" "end" "I" (.int (2 : Int32))
set_option maxRecDepth 65536 in
set_option maxHeartbeats 40000000 in
theorem rmM21 (l : Launch) (Z : State) (av0 : Array Value) (hw : ∀ d ∈ tables_1, d.before av0 Z = true) (ws : List Jvm.Cond) (a0 : Addr) (a1 : Addr) (ba : Addr) (k_ba : ClassId) (v1 : Int32) (h0 : Heap) (n0 : Nat) (Z0 : n0 ≤ h0.size) (E_a0 : Exa Z h0 a0 "com/example/bad_status/badstatus/model/ProtoReader") (F_bytes_a0 : Fld Z h0 a0 "com/example/bad_status/badstatus/model/ProtoReader" "bytes" "[B" (.ref ba)) (F_position_a0 : Fld Z h0 a0 "com/example/bad_status/badstatus/model/ProtoReader" "position" "I" (.int (0 : Int32))) (F_end_a0 : Fld Z h0 a0 "com/example/bad_status/badstatus/model/ProtoReader" "end" "I" (.int (2 : Int32))) (g_a0 : n0 ≤ a0) (V_ba : Arv Z h0 ba k_ba .byte (2 : Int32) [(.int (1 : Int32)), (.int v1)] (.int (0 : Int32))) (ne_ba_a0 : ba ≠ a0) :
    MetFree l (⟨"com/example/bad_status/badstatus/model/ProtoReader", "readMessage", "(Lcom/example/bad_status/badstatus/model/Place;)Lcom/example/bad_status/badstatus/model/ProtoReader;"⟩ : MethodName) (head1 (Jvm.Cond.code (⟨"com/example/bad_status/badstatus/model/ProtoReader", "readMessage", "(Lcom/example/bad_status/badstatus/model/Place;)Lcom/example/bad_status/badstatus/model/ProtoReader;"⟩ : MethodName) prog_17_method_9_code 4 (some (.object "com/example/bad_status/badstatus/model/ProtoReader")) :: ws) ({ frames := 2, cells := 1, slots := 4, locals := 31 } : Room)) (fun a U => a = #[(.ref a0), (.ref a1)] ∧ Z.Warmed39 U.vm ∧ U.heap = h0) (fun _ _ _ _ _ => True) (fun _ U o U' => ∃ v L, o = .returned v ∧ Q_rmM21 Z a0 a1 ba k_ba v1 h0 n0 v U'.heap L ∧ FrameEnd U o U' L ({ frames := 2, cells := 1, slots := 4, locals := 31 } : Room).cells ({ frames := 2, cells := 1, slots := 4, locals := 31 } : Room).slots) := by
  refine MetFree.of_bodySF (plainFor_of_name pn_0) hisR ?_
  intro p e s m args below meth c s₁ Bd hml0 hP hK
  obtain ⟨rfl, hZ, hh⟩ := hP
  have hx := Bd.exec
  have hby := Bd.bytes
  have hml : c.maxLocals = 4 := hml0
  have dd : ∀ {pc : Nat} {r : Except DecodeError (Instr × Nat)}, decode prog_17_method_9_code pc = r → decode c.code pc = r := fun q => hb hby q
  have hown : s.vm.findClass "com/example/bad_status/badstatus/model/ProtoReader" = some m.cls := findClass_of_methodNamed Bd.named
  have hnm := (name_of_methodNamed Bd.named Bd.method).1
  have X0 : Stand p l e ({ frames := 2, cells := 1, slots := 4, locals := 31 } : Room) s m #[(.ref a0), (.ref a1)] below meth c s₁ [] 0 0 := Stand.of_body Bd
  have e0 : s₁.heap = h0 := by rw [← hh, Bd.state]; rfl
  have N0 := Fr.nil n0
  have hret := Bd.returns
  have hlk := Bd.notSynchronized
  show Gz p e below s ({ frames := 2, cells := 1, slots := 4, locals := 31 } : Room).cells ({ frames := 2, cells := 1, slots := 4, locals := 31 } : Room).slots (Q_rmM21 Z a0 a1 ba k_ba v1 h0 n0) (s₁.setTop (entryFrame m #[(.ref a0), (.ref a1)] 4))
  refine Gz.enter (ef_rmM21 m a0 a1) ?_
  refine Gz.aloadN 1 X0 hx (dd d6_0) rfl rfl rfl ?_
  refine Gz.aloadN 2 X0 hx (dd d6_1) rfl rfl rfl ?_
  obtain ⟨cq1, q1, q1'⟩ := E_a0.cell
  obtain ⟨_, _, ⟨T1, L1, k1, n1⟩, -, X1, ⟨Lc1, hQ1, l1, y1, z1⟩, st1⟩ := X0.privateBack hx (y := ym2) hown (mvT hZ (ww hw 40 rfl)) (mvT hZ (ww hw 41 rfl)) (own_selp (y := ym2) (y' := ym3) rfl (mvT hZ (ww hw 25 rfl)) (mvT hZ (ww hw 24 rfl)) (mvT hZ (ww hw 41 rfl)) (Cond.privateMethod_at (mvP hZ (ww hw 42 rfl) (args := #[]))) (by decide)) (Cond.privateMethod_at (mvP hZ (ww hw 42 rfl) (args := #[]))) (mvT hZ (ww hw 43 rfl)) (by decide) (backOf (W := 0) (rmL21 l Z av0 hw [] a0 a1 ba k_ba v1 h0 n0 Z0 E_a0 F_bytes_a0 F_position_a0 F_end_a0 g_a0 V_ba ne_ba_a0) hZ (ww hw 43 rfl) (ww hw 4 rfl) (by decide) (by decide)) (g := (mkF m 2 #[.val (.ref a0), .val (.ref a1), .unset, .unset] [(.ref a1), (.ref a0)])) rfl (by rw [hml]; rfl) (Steps.refl _) (a := a0) (by rw [e0]; exact q1) q1' (argsL := [(.ref a1)]) (rest := []) (lenOf pd_2 rfl) rfl (Nat.le_refl _) (dd d6_2) (fun _ _ => ⟨rfl, e0, (by decide : 0 + 0 ≤ _), (by decide : 0 + 0 ≤ _)⟩)
  dsimp only [Pt.U, Pt.locs, Pt.cells, Pt.slots, Q_rmL21] at X1 l1 y1 z1 st1 hQ1
  subst l1 y1 z1
  obtain ⟨rfl, N1q, K1q, QE1_0, QF1_0, QF1_1, QF1_2⟩ := hQ1
  have N1 := Fr.app N0 N1q
  have f1_E_a0 := Exa.keep E_a0 K1q
  have f1_V_ba := Arv.keep V_ba K1q (ninS ne_ba_a0 nin0)
  have SZ1 := Nat.le_trans Z0 K1q.1
  have K1 := Keep.trans (Keep.refl h0 [a0]) K1q (allS (Or.inl (List.mem_of_getElem? (i := 0) rfl)) all0)
  refine Gz.tr st1 ?_
  refine Gz.istoreN 6 #[.val (.ref a0), .val (.ref a1), .val (.int (1 : Int32)), .unset] X1 hx (dd d6_5) rfl rfl ?_
  obtain ⟨T2, h2, X2, e2, E2, A2, D2, -, st2⟩ := newO X1 hx hZ hown (ww hw 45 rfl) (ww hw 3 rfl) (ww hw 4 rfl) rfl (g := (mkF m 6 #[.val (.ref a0), .val (.ref a1), .val (.int (1 : Int32)), .unset] [])) rfl (dd d6_6) (by decide) (by decide)
  obtain ⟨b2, g2⟩ : ∃ z, z = T1.heap.size := ⟨_, rfl⟩
  rw [← g2] at A2 D2 st2
  have ne_a0_b2 : a0 ≠ b2 := Nat.ne_of_lt (Nat.lt_of_lt_of_le (QE1_0).lt (Nat.le_of_eq g2.symm))
  have ne_ba_b2 : ba ≠ b2 := Nat.ne_of_lt (Nat.lt_of_lt_of_le (f1_V_ba).lt (Nat.le_of_eq g2.symm))
  have g_b2 : n0 ≤ b2 := Nat.le_trans SZ1 (Nat.le_of_eq g2.symm)
  have SZ2 : n0 ≤ h2.size := Nat.le_trans SZ1 E2.1
  have sz_b2 : h0.size ≤ b2 := Nat.le_trans K1.1 (Nat.le_of_eq g2.symm)
  have K2 := Keep.ext K1 E2
  have f2_E_a0 := Exa.ext E2 QE1_0
  have f2_V_ba := Arv.ext f1_V_ba E2
  have f2_F_bytes_a0 := Fld.ext E2 QF1_0
  have f2_F_position_a0 := Fld.ext E2 QF1_1
  have f2_F_end_a0 := Fld.ext E2 QF1_2
  have F_bytes_b2 : Fld Z h2 b2 "com/example/bad_status/badstatus/model/ProtoReader" "bytes" "[B" .null := D2 (Or.inr (ww hw 15 rfl)) (ty := (.array .byte)) (by decide)
  have F_position_b2 : Fld Z h2 b2 "com/example/bad_status/badstatus/model/ProtoReader" "position" "I" (.int (0 : Int32)) := D2 (Or.inl (ww hw 17 rfl)) (ty := .int) (by decide)
  have F_end_b2 : Fld Z h2 b2 "com/example/bad_status/badstatus/model/ProtoReader" "end" "I" (.int (0 : Int32)) := D2 (Or.inr (ww hw 19 rfl)) (ty := .int) (by decide)
  have F_place_b2 : Fld Z h2 b2 "com/example/bad_status/badstatus/model/ProtoReader" "place" "Lcom/example/bad_status/badstatus/model/Place;" .null := D2 (Or.inr (ww hw 21 rfl)) (ty := (.object "com/example/bad_status/badstatus/model/Place")) (by decide)
  refine Gz.st st2 ?_
  refine Gz.dup 10 X2 hx (dd d6_9) rfl rfl ?_
  refine Gz.aloadN 11 X2 hx (dd d6_10) rfl rfl rfl ?_
  refine Gz.getF 14 X2 hx hZ hown (dd d6_11) (host := "") (Or.inl (ww hw 14 rfl)) Via.refl e2 f2_F_bytes_a0 rfl fun T3 X3 e3 => ?_
  refine Gz.aloadN 15 X3 hx (dd d6_14) rfl rfl rfl ?_
  refine Gz.getF 18 X3 hx hZ hown (dd d6_15) (host := "") (Or.inl (ww hw 16 rfl)) Via.refl e3 f2_F_position_a0 rfl fun T4 X4 e4 => ?_
  refine Gz.aloadN 19 X4 hx (dd d6_18) rfl rfl rfl ?_
  refine Gz.getF 22 X4 hx hZ hown (dd d6_19) (host := "") (Or.inl (ww hw 16 rfl)) Via.refl e4 f2_F_position_a0 rfl fun T5 X5 e5 => ?_
  refine Gz.iloadN 23 X5 hx (dd d6_22) rfl rfl ?_
  refine Gz.iaddV 24 (2 : Int32) X5 hx (dd d6_23) rfl rfl ?_
  refine Gz.aloadN 25 X5 hx (dd d6_24) rfl rfl rfl ?_
  obtain ⟨_, _, ⟨T6, L6, k6, n6⟩, -, X6, ⟨Lc6, hQ6, l6, y6, z6⟩, st6⟩ := X5.specialBack hx (y := ym0) rfl hown (mvT hZ (ww hw 8 rfl)) (mvT hZ (ww hw 9 rfl)) (mvT hZ (ww hw 10 rfl)) (by decide) (backOf (W := 1) (rmI2 l Z av0 hw [] b2 ba (1 : Int32) (2 : Int32) a1  h2 n0 SZ2 A2 F_bytes_b2 F_position_b2 F_end_b2 F_place_b2 g_b2) hZ (ww hw 10 rfl) (ww hw 4 rfl) (by decide) (by decide)) (g := (mkF m 25 #[.val (.ref a0), .val (.ref a1), .val (.int (1 : Int32)), .unset] [(.ref a1), (.int (2 : Int32)), (.int (1 : Int32)), (.ref ba), (.ref b2), (.ref b2)])) rfl (by rw [hml]; rfl) (Steps.refl _) (a := b2) (argsL := [(.ref ba), (.int (1 : Int32)), (.int (2 : Int32)), (.ref a1)]) (rest := [(.ref b2)]) (lenOf pd_0 rfl) rfl (Nat.le_refl _) (dd d6_25) (fun _ _ => ⟨rfl, e5, (by decide : 1 + 0 ≤ _), (by decide : 4 + 0 ≤ _)⟩)
  dsimp only [Pt.U, Pt.locs, Pt.cells, Pt.slots, Q_rmI2] at X6 l6 y6 z6 st6 hQ6
  subst l6 y6 z6
  obtain ⟨rfl, N6q, K6q, QE6_0, QF6_0, QF6_1, QF6_2, QF6_3⟩ := hQ6
  have N6 := Fr.app N1 N6q
  have f6_E_a0 := Exa.keep f2_E_a0 K6q
  have f6_V_ba := Arv.keep f2_V_ba K6q (ninS ne_ba_b2 nin0)
  have f6_F_bytes_a0 := Fld.keep f2_F_bytes_a0 K6q (ninS ne_a0_b2 nin0)
  have f6_F_position_a0 := Fld.keep f2_F_position_a0 K6q (ninS ne_a0_b2 nin0)
  have f6_F_end_a0 := Fld.keep f2_F_end_a0 K6q (ninS ne_a0_b2 nin0)
  have f6_Eb2 := Exa.keep A2 K6q
  have SZ6 := Nat.le_trans SZ2 K6q.1
  have K6 := Keep.trans K2 K6q (allS (Or.inr sz_b2) all0)
  refine Gz.tr st6 ?_
  refine Gz.astoreN 29 #[.val (.ref a0), .val (.ref a1), .val (.int (1 : Int32)), .val (.ref b2)] X6 hx (dd d6_28) rfl rfl rfl ?_
  refine Gz.aloadN 30 X6 hx (dd d6_29) rfl rfl rfl ?_
  refine Gz.dup 31 X6 hx (dd d6_30) rfl rfl ?_
  refine Gz.getF 34 X6 hx hZ hown (dd d6_31) (host := "") (Or.inl (ww hw 16 rfl)) Via.refl rfl f6_F_position_a0 rfl fun T7 X7 e7 => ?_
  refine Gz.iloadN 35 X7 hx (dd d6_34) rfl rfl ?_
  refine Gz.iaddV 36 (2 : Int32) X7 hx (dd d6_35) rfl rfl ?_
  refine Gz.putF 39 X7 hx hZ hown .int (dd d6_36) (host := "") (Or.inl (ww hw 16 rfl)) Via.refl e7 f6_F_position_a0 f6_E_a0 (Or.inl (ww hw 17 rfl)) (ww hw 3 rfl) (by decide) rfl rfl rfl fun T8 h8 X8 e8 W8 => ?_
  have f8_E_a0 := Exa.wr W8 f6_E_a0
  have f8_V_ba := Arv.other f6_V_ba W8 ne_ba_a0
  have f8_F_bytes_a0 := Fld.other W8 f6_F_bytes_a0 (Or.inr (slot_ne (Or.inr (ww hw 15 rfl)) (Or.inl (ww hw 17 rfl)) (by decide) (t := (.array .byte)) (t' := .int) (by decide) (by decide)))
  have f8_F_end_a0 := Fld.other W8 f6_F_end_a0 (Or.inr (slot_ne (Or.inr (ww hw 19 rfl)) (Or.inl (ww hw 17 rfl)) (by decide) (t := .int) (t' := .int) (by decide) (by decide)))
  have f8_E_b2 := Exa.wr W8 QE6_0
  have f8_F_bytes_b2 := Fld.other W8 QF6_0 (Or.inl (Ne.symm ne_a0_b2))
  have f8_F_position_b2 := Fld.other W8 QF6_1 (Or.inl (Ne.symm ne_a0_b2))
  have f8_F_end_b2 := Fld.other W8 QF6_2 (Or.inl (Ne.symm ne_a0_b2))
  have f8_F_place_b2 := Fld.other W8 QF6_3 (Or.inl (Ne.symm ne_a0_b2))
  have f8_F_position_a0 := Fld.same W8 f6_F_position_a0
  have N8 := Fr.snoc X8 N6 g_a0
  have SZ8 : n0 ≤ h8.size := Nat.le_trans SZ6 (Keep.of_wr W8).1
  have K8 := Keep.wr K6 W8 (Or.inl (List.mem_of_getElem? (i := 0) rfl))
  refine Gz.aloadN 40 X8 hx (dd d6_39) rfl rfl rfl ?_
  refine Gz.fin X8 (v := some (.ref b2)) (fun h => by rw [hret] at h; cases h) hlk (by decide) (by decide) (fun fs hr => retA X8 hx hret (dd d6_40) hr rfl rfl) ?_
  rw [e8]
  exact ⟨b2, rfl, N8, K8, f8_E_a0, f8_F_bytes_a0, f8_F_position_a0, f8_F_end_a0, g_b2, sz_b2, f8_E_b2, f8_F_bytes_b2, f8_F_position_b2, f8_F_end_b2⟩
theorem ef_rmL30 (m : MethodId) (a0 : Addr) (a1 : Addr) : entryFrame m #[(.ref a0), (.ref a1)] 4 = mkF m 0 #[.val (.ref a0), .val (.ref a1), .unset, .unset] [] := by first | (simp [entryFrame, mkF, argsToLocals, Value.category]; done) | rfl
def Q_rmL30 (Z : State) (a0 : Addr) (a1 : Addr) (ba : Addr) (k_ba : ClassId) (v1 : Int32) (v2 : Int32) (h0 : Heap) (n0 : Nat) (v : Option Value) (h : Heap) (L : List Loc) : Prop := v = some (.int (0 : Int32)) ∧ Fr n0 L ∧ Keep h0 h [a0] ∧ Exa Z h a0 "com/example/bad_status/badstatus/model/ProtoReader" ∧ Fld Z h a0 "com/example/bad_status/badstatus/model/ProtoReader" "bytes" "[B" (.ref ba) ∧ Fld Z h a0 "com/example/bad_status/badstatus/model/ProtoReader" "position" "I" (.int (1 : Int32)) ∧ Fld Z h a0 "com/example/bad_status/badstatus/model/ProtoReader" "end" "I" (.int (3 : Int32))
set_option maxRecDepth 65536 in
set_option maxHeartbeats 40000000 in
theorem rmL30 (l : Launch) (Z : State) (av0 : Array Value) (hw : ∀ d ∈ tables_1, d.before av0 Z = true) (ws : List Jvm.Cond) (a0 : Addr) (a1 : Addr) (ba : Addr) (k_ba : ClassId) (v1 : Int32) (v2 : Int32) (h0 : Heap) (n0 : Nat) (Z0 : n0 ≤ h0.size) (E_a0 : Exa Z h0 a0 "com/example/bad_status/badstatus/model/ProtoReader") (F_bytes_a0 : Fld Z h0 a0 "com/example/bad_status/badstatus/model/ProtoReader" "bytes" "[B" (.ref ba)) (F_position_a0 : Fld Z h0 a0 "com/example/bad_status/badstatus/model/ProtoReader" "position" "I" (.int (0 : Int32))) (F_end_a0 : Fld Z h0 a0 "com/example/bad_status/badstatus/model/ProtoReader" "end" "I" (.int (3 : Int32))) (g_a0 : n0 ≤ a0) (V_ba : Arv Z h0 ba k_ba .byte (3 : Int32) [(.int (0 : Int32)), (.int v1), (.int v2)] (.int (0 : Int32))) (ne_ba_a0 : ba ≠ a0) :
    MetFree l (⟨"com/example/bad_status/badstatus/model/ProtoReader", "readLength", "(Lcom/example/bad_status/badstatus/model/Place;)I"⟩ : MethodName) (head1 (Jvm.Cond.code (⟨"com/example/bad_status/badstatus/model/ProtoReader", "readLength", "(Lcom/example/bad_status/badstatus/model/Place;)I"⟩ : MethodName) prog_17_method_14_code 4 (some .int) :: ws) ({ frames := 1, cells := 0, slots := 0, locals := 16 } : Room)) (fun a U => a = #[(.ref a0), (.ref a1)] ∧ Z.Warmed39 U.vm ∧ U.heap = h0) (fun _ _ _ _ _ => True) (fun _ U o U' => ∃ v L, o = .returned v ∧ Q_rmL30 Z a0 a1 ba k_ba v1 v2 h0 n0 v U'.heap L ∧ FrameEnd U o U' L ({ frames := 1, cells := 0, slots := 0, locals := 16 } : Room).cells ({ frames := 1, cells := 0, slots := 0, locals := 16 } : Room).slots) := by
  refine MetFree.of_bodySF (plainFor_of_name pn_0) hisR ?_
  intro p e s m args below meth c s₁ Bd hml0 hP hK
  obtain ⟨rfl, hZ, hh⟩ := hP
  have hx := Bd.exec
  have hby := Bd.bytes
  have hml : c.maxLocals = 4 := hml0
  have dd : ∀ {pc : Nat} {r : Except DecodeError (Instr × Nat)}, decode prog_17_method_14_code pc = r → decode c.code pc = r := fun q => hb hby q
  have hown : s.vm.findClass "com/example/bad_status/badstatus/model/ProtoReader" = some m.cls := findClass_of_methodNamed Bd.named
  have hnm := (name_of_methodNamed Bd.named Bd.method).1
  have X0 : Stand p l e ({ frames := 1, cells := 0, slots := 0, locals := 16 } : Room) s m #[(.ref a0), (.ref a1)] below meth c s₁ [] 0 0 := Stand.of_body Bd
  have e0 : s₁.heap = h0 := by rw [← hh, Bd.state]; rfl
  have N0 := Fr.nil n0
  have hret := Bd.returns
  have hlk := Bd.notSynchronized
  show Gz p e below s ({ frames := 1, cells := 0, slots := 0, locals := 16 } : Room).cells ({ frames := 1, cells := 0, slots := 0, locals := 16 } : Room).slots (Q_rmL30 Z a0 a1 ba k_ba v1 v2 h0 n0) (s₁.setTop (entryFrame m #[(.ref a0), (.ref a1)] 4))
  refine Gz.enter (ef_rmL30 m a0 a1) ?_
  refine Gz.aloadN 1 X0 hx (dd d7_0) rfl rfl rfl ?_
  obtain ⟨c1, A1, q1, S1, N1, H1, G1⟩ := id V_ba
  have hin2 : ¬ ((0 : Int32) < 0 ∨ c1.slots.size ≤ ((0 : Int32)).toNatClampNeg) := inb_of S1 ⟨by decide, by decide⟩
  have hat2 : c1.slots[((0 : Int32)).toNatClampNeg]? = some (.int (0 : Int32)) := Has.at H1 hin2 rfl
  obtain ⟨cq3, kq3, q3a, q3b, q3c⟩ := isOf hZ e0 E_a0
  obtain ⟨_, _, ⟨T3, L3, k3, n3⟩, -, X3, ⟨Lc3, hQ3, l3, y3, z3⟩, st3⟩ := X0.virtualBack hx (y := ym1) (z := ym1) hown (mvT hZ (ww hw 44 rfl)) (mvT hZ (ww hw 28 rfl)) (notFace_of_selects (args := #[]) (mvT hZ (ww hw 30 rfl))) (mvT hZ (ww hw 30 rfl)) (mvT hZ (ww hw 29 rfl)) (by decide) (backOf (W := 0) (rmV1 l Z av0 hw [] a0 ba (0 : Int32) (3 : Int32) c1 (0 : Int32) h0 n0 Z0 E_a0 F_bytes_a0 F_position_a0 F_end_a0 g_a0 A1 ne_ba_a0 hin2 hat2 (by decide : ¬ ((0 : Int32) = (3 : Int32))) (by decide : ¬ ((0 : Int32) < (0 : Int32)))) hZ (ww hw 31 rfl) (ww hw 4 rfl) (by decide) (by decide)) q3a q3c (g := (mkF m 1 #[.val (.ref a0), .val (.ref a1), .unset, .unset] [(.ref a0)])) rfl (by rw [hml]; rfl) (Steps.refl _) (argsL := []) (rest := []) (lenOf pd_1 rfl) rfl (Nat.le_refl _) (dd d7_1) (fun _ _ => ⟨rfl, e0, (by decide : 0 + 0 ≤ _), (by decide : 0 + 0 ≤ _)⟩)
  dsimp only [Pt.U, Pt.locs, Pt.cells, Pt.slots, Q_rmV1] at X3 l3 y3 z3 st3 hQ3
  subst l3 y3 z3
  obtain ⟨rfl, N3q, K3q, QE3_0, QF3_0, QF3_1, QF3_2⟩ := hQ3
  have N3 := Fr.app N0 N3q
  have f3_E_a0 := Exa.keep E_a0 K3q
  have f3_V_ba := Arv.keep V_ba K3q (ninS ne_ba_a0 nin0)
  have SZ3 := Nat.le_trans Z0 K3q.1
  have K3 := Keep.trans (Keep.refl h0 [a0]) K3q (allS (Or.inl (List.mem_of_getElem? (i := 0) rfl)) all0)
  replace QF3_1 : Fld Z T3.heap a0 "com/example/bad_status/badstatus/model/ProtoReader" "position" "I" (.int (1 : Int32)) := QF3_1
  refine Gz.tr st3 ?_
  refine Gz.lstoreN 5 #[.val (.ref a0), .val (.ref a1), .val (.long ((0 : Int64) ||| ((((0 : Int32) &&& (127 : Int32)).toInt64) <<< ((0 : Int32) &&& 0x3f).toInt64))), .second] X3 hx (dd d7_4) rfl rfl ?_
  refine Gz.lloadN 6 X3 hx (dd d7_5) rfl rfl ?_
  refine Gz.lconst 7 (0 : Int64) X3 hx (dd d7_6) rfl rfl ?_
  refine Gz.lcmp 8 X3 hx (dd d7_7) rfl ?_
  refine Gz.ifNo 11 X3 hx (dd d7_8) ((if0 _ _).trans (flt (fun q => ((by decide) : ¬ (((0 : Int64) ||| ((((0 : Int32) &&& (127 : Int32)).toInt64) <<< ((0 : Int32) &&& 0x3f).toInt64)) < (0 : Int64))) ((lw_lt _ _).mp q))).1) rfl ?_
  refine Gz.lloadN 12 X3 hx (dd d7_11) rfl rfl ?_
  refine Gz.aloadN 13 X3 hx (dd d7_12) rfl rfl rfl ?_
  refine Gz.getF 16 X3 hx hZ hown (dd d7_13) (host := "") (Or.inl (ww hw 18 rfl)) Via.refl rfl QF3_2 rfl fun T4 X4 e4 => ?_
  refine Gz.aloadN 17 X4 hx (dd d7_16) rfl rfl rfl ?_
  refine Gz.getF 20 X4 hx hZ hown (dd d7_17) (host := "") (Or.inl (ww hw 16 rfl)) Via.refl e4 QF3_1 rfl fun T5 X5 e5 => ?_
  refine Gz.isubV 21 (2 : Int32) X5 hx (dd d7_20) rfl rfl ?_
  refine Gz.i2lV 22 (2 : Int64) X5 hx (dd d7_21) rfl rfl ?_
  refine Gz.lcmp 23 X5 hx (dd d7_22) rfl ?_
  refine Gz.ifYes 31 X5 hx (dd d7_23) ((if0 _ _).trans (flt (fun q => ((by decide) : ¬ ((2 : Int64) < ((0 : Int64) ||| ((((0 : Int32) &&& (127 : Int32)).toInt64) <<< ((0 : Int32) &&& 0x3f).toInt64)))) ((lw_gt _ _).mp q))).2.2.2) (by decide) (by decide) ?_
  refine Gz.lloadN 32 X5 hx (dd d7_31) rfl rfl ?_
  refine Gz.l2i 33 X5 hx (dd d7_32) rfl ?_
  show Gz p e below s _ _ _ (T5.setTop (mkF m 33 #[.val (.ref a0), .val (.ref a1), .val (.long ((0 : Int64) ||| ((((0 : Int32) &&& (127 : Int32)).toInt64) <<< ((0 : Int32) &&& 0x3f).toInt64))), .second] [(.int (((0 : Int64) ||| ((((0 : Int32) &&& (127 : Int32)).toInt64) <<< ((0 : Int32) &&& 0x3f).toInt64)).toInt32))]))
  rw [show (((0 : Int64) ||| ((((0 : Int32) &&& (127 : Int32)).toInt64) <<< ((0 : Int32) &&& 0x3f).toInt64)).toInt32) = (0 : Int32) from by decide]
  refine Gz.fin X5 (v := some (.int (0 : Int32))) (fun h => by rw [hret] at h; cases h) hlk (by decide) (by decide) (fun fs hr => retI X5 hx hret (dd d7_33) hr) ?_
  rw [e5]
  exact ⟨rfl, N3, K3, QE3_0, QF3_0, QF3_1, QF3_2⟩
theorem ef_rmM30 (m : MethodId) (a0 : Addr) (a1 : Addr) : entryFrame m #[(.ref a0), (.ref a1)] 4 = mkF m 0 #[.val (.ref a0), .val (.ref a1), .unset, .unset] [] := by first | (simp [entryFrame, mkF, argsToLocals, Value.category]; done) | rfl
def Q_rmM30 (Z : State) (a0 : Addr) (a1 : Addr) (ba : Addr) (k_ba : ClassId) (v1 : Int32) (v2 : Int32) (h0 : Heap) (n0 : Nat) (v : Option Value) (h : Heap) (L : List Loc) : Prop := ∃ rd : Addr, v = some (.ref rd) ∧ Fr n0 L ∧ Keep h0 h [a0] ∧ Exa Z h a0 "com/example/bad_status/badstatus/model/ProtoReader" ∧ Fld Z h a0 "com/example/bad_status/badstatus/model/ProtoReader" "bytes" "[B" (.ref ba) ∧ Fld Z h a0 "com/example/bad_status/badstatus/model/ProtoReader" "position" "I" (.int (1 : Int32)) ∧ Fld Z h a0 "com/example/bad_status/badstatus/model/ProtoReader" "end" "I" (.int (3 : Int32)) ∧ n0 ≤ rd ∧ h0.size ≤ rd ∧ Exa Z h rd "com/example/bad_status/badstatus/model/ProtoReader" ∧ Fld Z h rd "com/example/bad_status/badstatus/model/ProtoReader" "bytes" "[B" (.ref ba) ∧ Fld Z h rd "com/example/bad_status/badstatus/model/ProtoReader" "position" "I" (.int (1 : Int32)) ∧ Fld Z h rd "com/example/bad_status/badstatus/model/ProtoReader" "end" "I" (.int (1 : Int32))
set_option maxRecDepth 65536 in
set_option maxHeartbeats 40000000 in
theorem rmM30 (l : Launch) (Z : State) (av0 : Array Value) (hw : ∀ d ∈ tables_1, d.before av0 Z = true) (ws : List Jvm.Cond) (a0 : Addr) (a1 : Addr) (ba : Addr) (k_ba : ClassId) (v1 : Int32) (v2 : Int32) (h0 : Heap) (n0 : Nat) (Z0 : n0 ≤ h0.size) (E_a0 : Exa Z h0 a0 "com/example/bad_status/badstatus/model/ProtoReader") (F_bytes_a0 : Fld Z h0 a0 "com/example/bad_status/badstatus/model/ProtoReader" "bytes" "[B" (.ref ba)) (F_position_a0 : Fld Z h0 a0 "com/example/bad_status/badstatus/model/ProtoReader" "position" "I" (.int (0 : Int32))) (F_end_a0 : Fld Z h0 a0 "com/example/bad_status/badstatus/model/ProtoReader" "end" "I" (.int (3 : Int32))) (g_a0 : n0 ≤ a0) (V_ba : Arv Z h0 ba k_ba .byte (3 : Int32) [(.int (0 : Int32)), (.int v1), (.int v2)] (.int (0 : Int32))) (ne_ba_a0 : ba ≠ a0) :
    MetFree l (⟨"com/example/bad_status/badstatus/model/ProtoReader", "readMessage", "(Lcom/example/bad_status/badstatus/model/Place;)Lcom/example/bad_status/badstatus/model/ProtoReader;"⟩ : MethodName) (head1 (Jvm.Cond.code (⟨"com/example/bad_status/badstatus/model/ProtoReader", "readMessage", "(Lcom/example/bad_status/badstatus/model/Place;)Lcom/example/bad_status/badstatus/model/ProtoReader;"⟩ : MethodName) prog_17_method_9_code 4 (some (.object "com/example/bad_status/badstatus/model/ProtoReader")) :: ws) ({ frames := 2, cells := 1, slots := 4, locals := 31 } : Room)) (fun a U => a = #[(.ref a0), (.ref a1)] ∧ Z.Warmed39 U.vm ∧ U.heap = h0) (fun _ _ _ _ _ => True) (fun _ U o U' => ∃ v L, o = .returned v ∧ Q_rmM30 Z a0 a1 ba k_ba v1 v2 h0 n0 v U'.heap L ∧ FrameEnd U o U' L ({ frames := 2, cells := 1, slots := 4, locals := 31 } : Room).cells ({ frames := 2, cells := 1, slots := 4, locals := 31 } : Room).slots) := by
  refine MetFree.of_bodySF (plainFor_of_name pn_0) hisR ?_
  intro p e s m args below meth c s₁ Bd hml0 hP hK
  obtain ⟨rfl, hZ, hh⟩ := hP
  have hx := Bd.exec
  have hby := Bd.bytes
  have hml : c.maxLocals = 4 := hml0
  have dd : ∀ {pc : Nat} {r : Except DecodeError (Instr × Nat)}, decode prog_17_method_9_code pc = r → decode c.code pc = r := fun q => hb hby q
  have hown : s.vm.findClass "com/example/bad_status/badstatus/model/ProtoReader" = some m.cls := findClass_of_methodNamed Bd.named
  have hnm := (name_of_methodNamed Bd.named Bd.method).1
  have X0 : Stand p l e ({ frames := 2, cells := 1, slots := 4, locals := 31 } : Room) s m #[(.ref a0), (.ref a1)] below meth c s₁ [] 0 0 := Stand.of_body Bd
  have e0 : s₁.heap = h0 := by rw [← hh, Bd.state]; rfl
  have N0 := Fr.nil n0
  have hret := Bd.returns
  have hlk := Bd.notSynchronized
  show Gz p e below s ({ frames := 2, cells := 1, slots := 4, locals := 31 } : Room).cells ({ frames := 2, cells := 1, slots := 4, locals := 31 } : Room).slots (Q_rmM30 Z a0 a1 ba k_ba v1 v2 h0 n0) (s₁.setTop (entryFrame m #[(.ref a0), (.ref a1)] 4))
  refine Gz.enter (ef_rmM30 m a0 a1) ?_
  refine Gz.aloadN 1 X0 hx (dd d6_0) rfl rfl rfl ?_
  refine Gz.aloadN 2 X0 hx (dd d6_1) rfl rfl rfl ?_
  obtain ⟨cq1, q1, q1'⟩ := E_a0.cell
  obtain ⟨_, _, ⟨T1, L1, k1, n1⟩, -, X1, ⟨Lc1, hQ1, l1, y1, z1⟩, st1⟩ := X0.privateBack hx (y := ym2) hown (mvT hZ (ww hw 40 rfl)) (mvT hZ (ww hw 41 rfl)) (own_selp (y := ym2) (y' := ym3) rfl (mvT hZ (ww hw 25 rfl)) (mvT hZ (ww hw 24 rfl)) (mvT hZ (ww hw 41 rfl)) (Cond.privateMethod_at (mvP hZ (ww hw 42 rfl) (args := #[]))) (by decide)) (Cond.privateMethod_at (mvP hZ (ww hw 42 rfl) (args := #[]))) (mvT hZ (ww hw 43 rfl)) (by decide) (backOf (W := 0) (rmL30 l Z av0 hw [] a0 a1 ba k_ba v1 v2 h0 n0 Z0 E_a0 F_bytes_a0 F_position_a0 F_end_a0 g_a0 V_ba ne_ba_a0) hZ (ww hw 43 rfl) (ww hw 4 rfl) (by decide) (by decide)) (g := (mkF m 2 #[.val (.ref a0), .val (.ref a1), .unset, .unset] [(.ref a1), (.ref a0)])) rfl (by rw [hml]; rfl) (Steps.refl _) (a := a0) (by rw [e0]; exact q1) q1' (argsL := [(.ref a1)]) (rest := []) (lenOf pd_2 rfl) rfl (Nat.le_refl _) (dd d6_2) (fun _ _ => ⟨rfl, e0, (by decide : 0 + 0 ≤ _), (by decide : 0 + 0 ≤ _)⟩)
  dsimp only [Pt.U, Pt.locs, Pt.cells, Pt.slots, Q_rmL30] at X1 l1 y1 z1 st1 hQ1
  subst l1 y1 z1
  obtain ⟨rfl, N1q, K1q, QE1_0, QF1_0, QF1_1, QF1_2⟩ := hQ1
  have N1 := Fr.app N0 N1q
  have f1_E_a0 := Exa.keep E_a0 K1q
  have f1_V_ba := Arv.keep V_ba K1q (ninS ne_ba_a0 nin0)
  have SZ1 := Nat.le_trans Z0 K1q.1
  have K1 := Keep.trans (Keep.refl h0 [a0]) K1q (allS (Or.inl (List.mem_of_getElem? (i := 0) rfl)) all0)
  refine Gz.tr st1 ?_
  refine Gz.istoreN 6 #[.val (.ref a0), .val (.ref a1), .val (.int (0 : Int32)), .unset] X1 hx (dd d6_5) rfl rfl ?_
  obtain ⟨T2, h2, X2, e2, E2, A2, D2, -, st2⟩ := newO X1 hx hZ hown (ww hw 45 rfl) (ww hw 3 rfl) (ww hw 4 rfl) rfl (g := (mkF m 6 #[.val (.ref a0), .val (.ref a1), .val (.int (0 : Int32)), .unset] [])) rfl (dd d6_6) (by decide) (by decide)
  obtain ⟨b2, g2⟩ : ∃ z, z = T1.heap.size := ⟨_, rfl⟩
  rw [← g2] at A2 D2 st2
  have ne_a0_b2 : a0 ≠ b2 := Nat.ne_of_lt (Nat.lt_of_lt_of_le (QE1_0).lt (Nat.le_of_eq g2.symm))
  have ne_ba_b2 : ba ≠ b2 := Nat.ne_of_lt (Nat.lt_of_lt_of_le (f1_V_ba).lt (Nat.le_of_eq g2.symm))
  have g_b2 : n0 ≤ b2 := Nat.le_trans SZ1 (Nat.le_of_eq g2.symm)
  have SZ2 : n0 ≤ h2.size := Nat.le_trans SZ1 E2.1
  have sz_b2 : h0.size ≤ b2 := Nat.le_trans K1.1 (Nat.le_of_eq g2.symm)
  have K2 := Keep.ext K1 E2
  have f2_E_a0 := Exa.ext E2 QE1_0
  have f2_V_ba := Arv.ext f1_V_ba E2
  have f2_F_bytes_a0 := Fld.ext E2 QF1_0
  have f2_F_position_a0 := Fld.ext E2 QF1_1
  have f2_F_end_a0 := Fld.ext E2 QF1_2
  have F_bytes_b2 : Fld Z h2 b2 "com/example/bad_status/badstatus/model/ProtoReader" "bytes" "[B" .null := D2 (Or.inr (ww hw 15 rfl)) (ty := (.array .byte)) (by decide)
  have F_position_b2 : Fld Z h2 b2 "com/example/bad_status/badstatus/model/ProtoReader" "position" "I" (.int (0 : Int32)) := D2 (Or.inl (ww hw 17 rfl)) (ty := .int) (by decide)
  have F_end_b2 : Fld Z h2 b2 "com/example/bad_status/badstatus/model/ProtoReader" "end" "I" (.int (0 : Int32)) := D2 (Or.inr (ww hw 19 rfl)) (ty := .int) (by decide)
  have F_place_b2 : Fld Z h2 b2 "com/example/bad_status/badstatus/model/ProtoReader" "place" "Lcom/example/bad_status/badstatus/model/Place;" .null := D2 (Or.inr (ww hw 21 rfl)) (ty := (.object "com/example/bad_status/badstatus/model/Place")) (by decide)
  refine Gz.st st2 ?_
  refine Gz.dup 10 X2 hx (dd d6_9) rfl rfl ?_
  refine Gz.aloadN 11 X2 hx (dd d6_10) rfl rfl rfl ?_
  refine Gz.getF 14 X2 hx hZ hown (dd d6_11) (host := "") (Or.inl (ww hw 14 rfl)) Via.refl e2 f2_F_bytes_a0 rfl fun T3 X3 e3 => ?_
  refine Gz.aloadN 15 X3 hx (dd d6_14) rfl rfl rfl ?_
  refine Gz.getF 18 X3 hx hZ hown (dd d6_15) (host := "") (Or.inl (ww hw 16 rfl)) Via.refl e3 f2_F_position_a0 rfl fun T4 X4 e4 => ?_
  refine Gz.aloadN 19 X4 hx (dd d6_18) rfl rfl rfl ?_
  refine Gz.getF 22 X4 hx hZ hown (dd d6_19) (host := "") (Or.inl (ww hw 16 rfl)) Via.refl e4 f2_F_position_a0 rfl fun T5 X5 e5 => ?_
  refine Gz.iloadN 23 X5 hx (dd d6_22) rfl rfl ?_
  refine Gz.iaddV 24 (1 : Int32) X5 hx (dd d6_23) rfl rfl ?_
  refine Gz.aloadN 25 X5 hx (dd d6_24) rfl rfl rfl ?_
  obtain ⟨_, _, ⟨T6, L6, k6, n6⟩, -, X6, ⟨Lc6, hQ6, l6, y6, z6⟩, st6⟩ := X5.specialBack hx (y := ym0) rfl hown (mvT hZ (ww hw 8 rfl)) (mvT hZ (ww hw 9 rfl)) (mvT hZ (ww hw 10 rfl)) (by decide) (backOf (W := 1) (rmI2 l Z av0 hw [] b2 ba (1 : Int32) (1 : Int32) a1  h2 n0 SZ2 A2 F_bytes_b2 F_position_b2 F_end_b2 F_place_b2 g_b2) hZ (ww hw 10 rfl) (ww hw 4 rfl) (by decide) (by decide)) (g := (mkF m 25 #[.val (.ref a0), .val (.ref a1), .val (.int (0 : Int32)), .unset] [(.ref a1), (.int (1 : Int32)), (.int (1 : Int32)), (.ref ba), (.ref b2), (.ref b2)])) rfl (by rw [hml]; rfl) (Steps.refl _) (a := b2) (argsL := [(.ref ba), (.int (1 : Int32)), (.int (1 : Int32)), (.ref a1)]) (rest := [(.ref b2)]) (lenOf pd_0 rfl) rfl (Nat.le_refl _) (dd d6_25) (fun _ _ => ⟨rfl, e5, (by decide : 1 + 0 ≤ _), (by decide : 4 + 0 ≤ _)⟩)
  dsimp only [Pt.U, Pt.locs, Pt.cells, Pt.slots, Q_rmI2] at X6 l6 y6 z6 st6 hQ6
  subst l6 y6 z6
  obtain ⟨rfl, N6q, K6q, QE6_0, QF6_0, QF6_1, QF6_2, QF6_3⟩ := hQ6
  have N6 := Fr.app N1 N6q
  have f6_E_a0 := Exa.keep f2_E_a0 K6q
  have f6_V_ba := Arv.keep f2_V_ba K6q (ninS ne_ba_b2 nin0)
  have f6_F_bytes_a0 := Fld.keep f2_F_bytes_a0 K6q (ninS ne_a0_b2 nin0)
  have f6_F_position_a0 := Fld.keep f2_F_position_a0 K6q (ninS ne_a0_b2 nin0)
  have f6_F_end_a0 := Fld.keep f2_F_end_a0 K6q (ninS ne_a0_b2 nin0)
  have f6_Eb2 := Exa.keep A2 K6q
  have SZ6 := Nat.le_trans SZ2 K6q.1
  have K6 := Keep.trans K2 K6q (allS (Or.inr sz_b2) all0)
  refine Gz.tr st6 ?_
  refine Gz.astoreN 29 #[.val (.ref a0), .val (.ref a1), .val (.int (0 : Int32)), .val (.ref b2)] X6 hx (dd d6_28) rfl rfl rfl ?_
  refine Gz.aloadN 30 X6 hx (dd d6_29) rfl rfl rfl ?_
  refine Gz.dup 31 X6 hx (dd d6_30) rfl rfl ?_
  refine Gz.getF 34 X6 hx hZ hown (dd d6_31) (host := "") (Or.inl (ww hw 16 rfl)) Via.refl rfl f6_F_position_a0 rfl fun T7 X7 e7 => ?_
  refine Gz.iloadN 35 X7 hx (dd d6_34) rfl rfl ?_
  refine Gz.iaddV 36 (1 : Int32) X7 hx (dd d6_35) rfl rfl ?_
  refine Gz.putF 39 X7 hx hZ hown .int (dd d6_36) (host := "") (Or.inl (ww hw 16 rfl)) Via.refl e7 f6_F_position_a0 f6_E_a0 (Or.inl (ww hw 17 rfl)) (ww hw 3 rfl) (by decide) rfl rfl rfl fun T8 h8 X8 e8 W8 => ?_
  have f8_E_a0 := Exa.wr W8 f6_E_a0
  have f8_V_ba := Arv.other f6_V_ba W8 ne_ba_a0
  have f8_F_bytes_a0 := Fld.other W8 f6_F_bytes_a0 (Or.inr (slot_ne (Or.inr (ww hw 15 rfl)) (Or.inl (ww hw 17 rfl)) (by decide) (t := (.array .byte)) (t' := .int) (by decide) (by decide)))
  have f8_F_end_a0 := Fld.other W8 f6_F_end_a0 (Or.inr (slot_ne (Or.inr (ww hw 19 rfl)) (Or.inl (ww hw 17 rfl)) (by decide) (t := .int) (t' := .int) (by decide) (by decide)))
  have f8_E_b2 := Exa.wr W8 QE6_0
  have f8_F_bytes_b2 := Fld.other W8 QF6_0 (Or.inl (Ne.symm ne_a0_b2))
  have f8_F_position_b2 := Fld.other W8 QF6_1 (Or.inl (Ne.symm ne_a0_b2))
  have f8_F_end_b2 := Fld.other W8 QF6_2 (Or.inl (Ne.symm ne_a0_b2))
  have f8_F_place_b2 := Fld.other W8 QF6_3 (Or.inl (Ne.symm ne_a0_b2))
  have f8_F_position_a0 := Fld.same W8 f6_F_position_a0
  have N8 := Fr.snoc X8 N6 g_a0
  have SZ8 : n0 ≤ h8.size := Nat.le_trans SZ6 (Keep.of_wr W8).1
  have K8 := Keep.wr K6 W8 (Or.inl (List.mem_of_getElem? (i := 0) rfl))
  refine Gz.aloadN 40 X8 hx (dd d6_39) rfl rfl rfl ?_
  refine Gz.fin X8 (v := some (.ref b2)) (fun h => by rw [hret] at h; cases h) hlk (by decide) (by decide) (fun fs hr => retA X8 hx hret (dd d6_40) hr rfl rfl) ?_
  rw [e8]
  exact ⟨b2, rfl, N8, K8, f8_E_a0, f8_F_bytes_a0, f8_F_position_a0, f8_F_end_a0, g_b2, sz_b2, f8_E_b2, f8_F_bytes_b2, f8_F_position_b2, f8_F_end_b2⟩
theorem ef_rmL31 (m : MethodId) (a0 : Addr) (a1 : Addr) : entryFrame m #[(.ref a0), (.ref a1)] 4 = mkF m 0 #[.val (.ref a0), .val (.ref a1), .unset, .unset] [] := by first | (simp [entryFrame, mkF, argsToLocals, Value.category]; done) | rfl
def Q_rmL31 (Z : State) (a0 : Addr) (a1 : Addr) (ba : Addr) (k_ba : ClassId) (v1 : Int32) (v2 : Int32) (h0 : Heap) (n0 : Nat) (v : Option Value) (h : Heap) (L : List Loc) : Prop := v = some (.int (1 : Int32)) ∧ Fr n0 L ∧ Keep h0 h [a0] ∧ Exa Z h a0 "com/example/bad_status/badstatus/model/ProtoReader" ∧ Fld Z h a0 "com/example/bad_status/badstatus/model/ProtoReader" "bytes" "[B" (.ref ba) ∧ Fld Z h a0 "com/example/bad_status/badstatus/model/ProtoReader" "position" "I" (.int (1 : Int32)) ∧ Fld Z h a0 "com/example/bad_status/badstatus/model/ProtoReader" "end" "I" (.int (3 : Int32))
set_option maxRecDepth 65536 in
set_option maxHeartbeats 40000000 in
theorem rmL31 (l : Launch) (Z : State) (av0 : Array Value) (hw : ∀ d ∈ tables_1, d.before av0 Z = true) (ws : List Jvm.Cond) (a0 : Addr) (a1 : Addr) (ba : Addr) (k_ba : ClassId) (v1 : Int32) (v2 : Int32) (h0 : Heap) (n0 : Nat) (Z0 : n0 ≤ h0.size) (E_a0 : Exa Z h0 a0 "com/example/bad_status/badstatus/model/ProtoReader") (F_bytes_a0 : Fld Z h0 a0 "com/example/bad_status/badstatus/model/ProtoReader" "bytes" "[B" (.ref ba)) (F_position_a0 : Fld Z h0 a0 "com/example/bad_status/badstatus/model/ProtoReader" "position" "I" (.int (0 : Int32))) (F_end_a0 : Fld Z h0 a0 "com/example/bad_status/badstatus/model/ProtoReader" "end" "I" (.int (3 : Int32))) (g_a0 : n0 ≤ a0) (V_ba : Arv Z h0 ba k_ba .byte (3 : Int32) [(.int (1 : Int32)), (.int v1), (.int v2)] (.int (0 : Int32))) (ne_ba_a0 : ba ≠ a0) :
    MetFree l (⟨"com/example/bad_status/badstatus/model/ProtoReader", "readLength", "(Lcom/example/bad_status/badstatus/model/Place;)I"⟩ : MethodName) (head1 (Jvm.Cond.code (⟨"com/example/bad_status/badstatus/model/ProtoReader", "readLength", "(Lcom/example/bad_status/badstatus/model/Place;)I"⟩ : MethodName) prog_17_method_14_code 4 (some .int) :: ws) ({ frames := 1, cells := 0, slots := 0, locals := 16 } : Room)) (fun a U => a = #[(.ref a0), (.ref a1)] ∧ Z.Warmed39 U.vm ∧ U.heap = h0) (fun _ _ _ _ _ => True) (fun _ U o U' => ∃ v L, o = .returned v ∧ Q_rmL31 Z a0 a1 ba k_ba v1 v2 h0 n0 v U'.heap L ∧ FrameEnd U o U' L ({ frames := 1, cells := 0, slots := 0, locals := 16 } : Room).cells ({ frames := 1, cells := 0, slots := 0, locals := 16 } : Room).slots) := by
  refine MetFree.of_bodySF (plainFor_of_name pn_0) hisR ?_
  intro p e s m args below meth c s₁ Bd hml0 hP hK
  obtain ⟨rfl, hZ, hh⟩ := hP
  have hx := Bd.exec
  have hby := Bd.bytes
  have hml : c.maxLocals = 4 := hml0
  have dd : ∀ {pc : Nat} {r : Except DecodeError (Instr × Nat)}, decode prog_17_method_14_code pc = r → decode c.code pc = r := fun q => hb hby q
  have hown : s.vm.findClass "com/example/bad_status/badstatus/model/ProtoReader" = some m.cls := findClass_of_methodNamed Bd.named
  have hnm := (name_of_methodNamed Bd.named Bd.method).1
  have X0 : Stand p l e ({ frames := 1, cells := 0, slots := 0, locals := 16 } : Room) s m #[(.ref a0), (.ref a1)] below meth c s₁ [] 0 0 := Stand.of_body Bd
  have e0 : s₁.heap = h0 := by rw [← hh, Bd.state]; rfl
  have N0 := Fr.nil n0
  have hret := Bd.returns
  have hlk := Bd.notSynchronized
  show Gz p e below s ({ frames := 1, cells := 0, slots := 0, locals := 16 } : Room).cells ({ frames := 1, cells := 0, slots := 0, locals := 16 } : Room).slots (Q_rmL31 Z a0 a1 ba k_ba v1 v2 h0 n0) (s₁.setTop (entryFrame m #[(.ref a0), (.ref a1)] 4))
  refine Gz.enter (ef_rmL31 m a0 a1) ?_
  refine Gz.aloadN 1 X0 hx (dd d7_0) rfl rfl rfl ?_
  obtain ⟨c1, A1, q1, S1, N1, H1, G1⟩ := id V_ba
  have hin2 : ¬ ((0 : Int32) < 0 ∨ c1.slots.size ≤ ((0 : Int32)).toNatClampNeg) := inb_of S1 ⟨by decide, by decide⟩
  have hat2 : c1.slots[((0 : Int32)).toNatClampNeg]? = some (.int (1 : Int32)) := Has.at H1 hin2 rfl
  obtain ⟨cq3, kq3, q3a, q3b, q3c⟩ := isOf hZ e0 E_a0
  obtain ⟨_, _, ⟨T3, L3, k3, n3⟩, -, X3, ⟨Lc3, hQ3, l3, y3, z3⟩, st3⟩ := X0.virtualBack hx (y := ym1) (z := ym1) hown (mvT hZ (ww hw 44 rfl)) (mvT hZ (ww hw 28 rfl)) (notFace_of_selects (args := #[]) (mvT hZ (ww hw 30 rfl))) (mvT hZ (ww hw 30 rfl)) (mvT hZ (ww hw 29 rfl)) (by decide) (backOf (W := 0) (rmV1 l Z av0 hw [] a0 ba (0 : Int32) (3 : Int32) c1 (1 : Int32) h0 n0 Z0 E_a0 F_bytes_a0 F_position_a0 F_end_a0 g_a0 A1 ne_ba_a0 hin2 hat2 (by decide : ¬ ((0 : Int32) = (3 : Int32))) (by decide : ¬ ((1 : Int32) < (0 : Int32)))) hZ (ww hw 31 rfl) (ww hw 4 rfl) (by decide) (by decide)) q3a q3c (g := (mkF m 1 #[.val (.ref a0), .val (.ref a1), .unset, .unset] [(.ref a0)])) rfl (by rw [hml]; rfl) (Steps.refl _) (argsL := []) (rest := []) (lenOf pd_1 rfl) rfl (Nat.le_refl _) (dd d7_1) (fun _ _ => ⟨rfl, e0, (by decide : 0 + 0 ≤ _), (by decide : 0 + 0 ≤ _)⟩)
  dsimp only [Pt.U, Pt.locs, Pt.cells, Pt.slots, Q_rmV1] at X3 l3 y3 z3 st3 hQ3
  subst l3 y3 z3
  obtain ⟨rfl, N3q, K3q, QE3_0, QF3_0, QF3_1, QF3_2⟩ := hQ3
  have N3 := Fr.app N0 N3q
  have f3_E_a0 := Exa.keep E_a0 K3q
  have f3_V_ba := Arv.keep V_ba K3q (ninS ne_ba_a0 nin0)
  have SZ3 := Nat.le_trans Z0 K3q.1
  have K3 := Keep.trans (Keep.refl h0 [a0]) K3q (allS (Or.inl (List.mem_of_getElem? (i := 0) rfl)) all0)
  replace QF3_1 : Fld Z T3.heap a0 "com/example/bad_status/badstatus/model/ProtoReader" "position" "I" (.int (1 : Int32)) := QF3_1
  refine Gz.tr st3 ?_
  refine Gz.lstoreN 5 #[.val (.ref a0), .val (.ref a1), .val (.long ((0 : Int64) ||| ((((1 : Int32) &&& (127 : Int32)).toInt64) <<< ((0 : Int32) &&& 0x3f).toInt64))), .second] X3 hx (dd d7_4) rfl rfl ?_
  refine Gz.lloadN 6 X3 hx (dd d7_5) rfl rfl ?_
  refine Gz.lconst 7 (0 : Int64) X3 hx (dd d7_6) rfl rfl ?_
  refine Gz.lcmp 8 X3 hx (dd d7_7) rfl ?_
  refine Gz.ifNo 11 X3 hx (dd d7_8) ((if0 _ _).trans (flt (fun q => ((by decide) : ¬ (((0 : Int64) ||| ((((1 : Int32) &&& (127 : Int32)).toInt64) <<< ((0 : Int32) &&& 0x3f).toInt64)) < (0 : Int64))) ((lw_lt _ _).mp q))).1) rfl ?_
  refine Gz.lloadN 12 X3 hx (dd d7_11) rfl rfl ?_
  refine Gz.aloadN 13 X3 hx (dd d7_12) rfl rfl rfl ?_
  refine Gz.getF 16 X3 hx hZ hown (dd d7_13) (host := "") (Or.inl (ww hw 18 rfl)) Via.refl rfl QF3_2 rfl fun T4 X4 e4 => ?_
  refine Gz.aloadN 17 X4 hx (dd d7_16) rfl rfl rfl ?_
  refine Gz.getF 20 X4 hx hZ hown (dd d7_17) (host := "") (Or.inl (ww hw 16 rfl)) Via.refl e4 QF3_1 rfl fun T5 X5 e5 => ?_
  refine Gz.isubV 21 (2 : Int32) X5 hx (dd d7_20) rfl rfl ?_
  refine Gz.i2lV 22 (2 : Int64) X5 hx (dd d7_21) rfl rfl ?_
  refine Gz.lcmp 23 X5 hx (dd d7_22) rfl ?_
  refine Gz.ifYes 31 X5 hx (dd d7_23) ((if0 _ _).trans (flt (fun q => ((by decide) : ¬ ((2 : Int64) < ((0 : Int64) ||| ((((1 : Int32) &&& (127 : Int32)).toInt64) <<< ((0 : Int32) &&& 0x3f).toInt64)))) ((lw_gt _ _).mp q))).2.2.2) (by decide) (by decide) ?_
  refine Gz.lloadN 32 X5 hx (dd d7_31) rfl rfl ?_
  refine Gz.l2i 33 X5 hx (dd d7_32) rfl ?_
  show Gz p e below s _ _ _ (T5.setTop (mkF m 33 #[.val (.ref a0), .val (.ref a1), .val (.long ((0 : Int64) ||| ((((1 : Int32) &&& (127 : Int32)).toInt64) <<< ((0 : Int32) &&& 0x3f).toInt64))), .second] [(.int (((0 : Int64) ||| ((((1 : Int32) &&& (127 : Int32)).toInt64) <<< ((0 : Int32) &&& 0x3f).toInt64)).toInt32))]))
  rw [show (((0 : Int64) ||| ((((1 : Int32) &&& (127 : Int32)).toInt64) <<< ((0 : Int32) &&& 0x3f).toInt64)).toInt32) = (1 : Int32) from by decide]
  refine Gz.fin X5 (v := some (.int (1 : Int32))) (fun h => by rw [hret] at h; cases h) hlk (by decide) (by decide) (fun fs hr => retI X5 hx hret (dd d7_33) hr) ?_
  rw [e5]
  exact ⟨rfl, N3, K3, QE3_0, QF3_0, QF3_1, QF3_2⟩
theorem ef_rmM31 (m : MethodId) (a0 : Addr) (a1 : Addr) : entryFrame m #[(.ref a0), (.ref a1)] 4 = mkF m 0 #[.val (.ref a0), .val (.ref a1), .unset, .unset] [] := by first | (simp [entryFrame, mkF, argsToLocals, Value.category]; done) | rfl
def Q_rmM31 (Z : State) (a0 : Addr) (a1 : Addr) (ba : Addr) (k_ba : ClassId) (v1 : Int32) (v2 : Int32) (h0 : Heap) (n0 : Nat) (v : Option Value) (h : Heap) (L : List Loc) : Prop := ∃ rd : Addr, v = some (.ref rd) ∧ Fr n0 L ∧ Keep h0 h [a0] ∧ Exa Z h a0 "com/example/bad_status/badstatus/model/ProtoReader" ∧ Fld Z h a0 "com/example/bad_status/badstatus/model/ProtoReader" "bytes" "[B" (.ref ba) ∧ Fld Z h a0 "com/example/bad_status/badstatus/model/ProtoReader" "position" "I" (.int (2 : Int32)) ∧ Fld Z h a0 "com/example/bad_status/badstatus/model/ProtoReader" "end" "I" (.int (3 : Int32)) ∧ n0 ≤ rd ∧ h0.size ≤ rd ∧ Exa Z h rd "com/example/bad_status/badstatus/model/ProtoReader" ∧ Fld Z h rd "com/example/bad_status/badstatus/model/ProtoReader" "bytes" "[B" (.ref ba) ∧ Fld Z h rd "com/example/bad_status/badstatus/model/ProtoReader" "position" "I" (.int (1 : Int32)) ∧ Fld Z h rd "com/example/bad_status/badstatus/model/ProtoReader" "end" "I" (.int (2 : Int32))
set_option maxRecDepth 65536 in
set_option maxHeartbeats 40000000 in
theorem rmM31 (l : Launch) (Z : State) (av0 : Array Value) (hw : ∀ d ∈ tables_1, d.before av0 Z = true) (ws : List Jvm.Cond) (a0 : Addr) (a1 : Addr) (ba : Addr) (k_ba : ClassId) (v1 : Int32) (v2 : Int32) (h0 : Heap) (n0 : Nat) (Z0 : n0 ≤ h0.size) (E_a0 : Exa Z h0 a0 "com/example/bad_status/badstatus/model/ProtoReader") (F_bytes_a0 : Fld Z h0 a0 "com/example/bad_status/badstatus/model/ProtoReader" "bytes" "[B" (.ref ba)) (F_position_a0 : Fld Z h0 a0 "com/example/bad_status/badstatus/model/ProtoReader" "position" "I" (.int (0 : Int32))) (F_end_a0 : Fld Z h0 a0 "com/example/bad_status/badstatus/model/ProtoReader" "end" "I" (.int (3 : Int32))) (g_a0 : n0 ≤ a0) (V_ba : Arv Z h0 ba k_ba .byte (3 : Int32) [(.int (1 : Int32)), (.int v1), (.int v2)] (.int (0 : Int32))) (ne_ba_a0 : ba ≠ a0) :
    MetFree l (⟨"com/example/bad_status/badstatus/model/ProtoReader", "readMessage", "(Lcom/example/bad_status/badstatus/model/Place;)Lcom/example/bad_status/badstatus/model/ProtoReader;"⟩ : MethodName) (head1 (Jvm.Cond.code (⟨"com/example/bad_status/badstatus/model/ProtoReader", "readMessage", "(Lcom/example/bad_status/badstatus/model/Place;)Lcom/example/bad_status/badstatus/model/ProtoReader;"⟩ : MethodName) prog_17_method_9_code 4 (some (.object "com/example/bad_status/badstatus/model/ProtoReader")) :: ws) ({ frames := 2, cells := 1, slots := 4, locals := 31 } : Room)) (fun a U => a = #[(.ref a0), (.ref a1)] ∧ Z.Warmed39 U.vm ∧ U.heap = h0) (fun _ _ _ _ _ => True) (fun _ U o U' => ∃ v L, o = .returned v ∧ Q_rmM31 Z a0 a1 ba k_ba v1 v2 h0 n0 v U'.heap L ∧ FrameEnd U o U' L ({ frames := 2, cells := 1, slots := 4, locals := 31 } : Room).cells ({ frames := 2, cells := 1, slots := 4, locals := 31 } : Room).slots) := by
  refine MetFree.of_bodySF (plainFor_of_name pn_0) hisR ?_
  intro p e s m args below meth c s₁ Bd hml0 hP hK
  obtain ⟨rfl, hZ, hh⟩ := hP
  have hx := Bd.exec
  have hby := Bd.bytes
  have hml : c.maxLocals = 4 := hml0
  have dd : ∀ {pc : Nat} {r : Except DecodeError (Instr × Nat)}, decode prog_17_method_9_code pc = r → decode c.code pc = r := fun q => hb hby q
  have hown : s.vm.findClass "com/example/bad_status/badstatus/model/ProtoReader" = some m.cls := findClass_of_methodNamed Bd.named
  have hnm := (name_of_methodNamed Bd.named Bd.method).1
  have X0 : Stand p l e ({ frames := 2, cells := 1, slots := 4, locals := 31 } : Room) s m #[(.ref a0), (.ref a1)] below meth c s₁ [] 0 0 := Stand.of_body Bd
  have e0 : s₁.heap = h0 := by rw [← hh, Bd.state]; rfl
  have N0 := Fr.nil n0
  have hret := Bd.returns
  have hlk := Bd.notSynchronized
  show Gz p e below s ({ frames := 2, cells := 1, slots := 4, locals := 31 } : Room).cells ({ frames := 2, cells := 1, slots := 4, locals := 31 } : Room).slots (Q_rmM31 Z a0 a1 ba k_ba v1 v2 h0 n0) (s₁.setTop (entryFrame m #[(.ref a0), (.ref a1)] 4))
  refine Gz.enter (ef_rmM31 m a0 a1) ?_
  refine Gz.aloadN 1 X0 hx (dd d6_0) rfl rfl rfl ?_
  refine Gz.aloadN 2 X0 hx (dd d6_1) rfl rfl rfl ?_
  obtain ⟨cq1, q1, q1'⟩ := E_a0.cell
  obtain ⟨_, _, ⟨T1, L1, k1, n1⟩, -, X1, ⟨Lc1, hQ1, l1, y1, z1⟩, st1⟩ := X0.privateBack hx (y := ym2) hown (mvT hZ (ww hw 40 rfl)) (mvT hZ (ww hw 41 rfl)) (own_selp (y := ym2) (y' := ym3) rfl (mvT hZ (ww hw 25 rfl)) (mvT hZ (ww hw 24 rfl)) (mvT hZ (ww hw 41 rfl)) (Cond.privateMethod_at (mvP hZ (ww hw 42 rfl) (args := #[]))) (by decide)) (Cond.privateMethod_at (mvP hZ (ww hw 42 rfl) (args := #[]))) (mvT hZ (ww hw 43 rfl)) (by decide) (backOf (W := 0) (rmL31 l Z av0 hw [] a0 a1 ba k_ba v1 v2 h0 n0 Z0 E_a0 F_bytes_a0 F_position_a0 F_end_a0 g_a0 V_ba ne_ba_a0) hZ (ww hw 43 rfl) (ww hw 4 rfl) (by decide) (by decide)) (g := (mkF m 2 #[.val (.ref a0), .val (.ref a1), .unset, .unset] [(.ref a1), (.ref a0)])) rfl (by rw [hml]; rfl) (Steps.refl _) (a := a0) (by rw [e0]; exact q1) q1' (argsL := [(.ref a1)]) (rest := []) (lenOf pd_2 rfl) rfl (Nat.le_refl _) (dd d6_2) (fun _ _ => ⟨rfl, e0, (by decide : 0 + 0 ≤ _), (by decide : 0 + 0 ≤ _)⟩)
  dsimp only [Pt.U, Pt.locs, Pt.cells, Pt.slots, Q_rmL31] at X1 l1 y1 z1 st1 hQ1
  subst l1 y1 z1
  obtain ⟨rfl, N1q, K1q, QE1_0, QF1_0, QF1_1, QF1_2⟩ := hQ1
  have N1 := Fr.app N0 N1q
  have f1_E_a0 := Exa.keep E_a0 K1q
  have f1_V_ba := Arv.keep V_ba K1q (ninS ne_ba_a0 nin0)
  have SZ1 := Nat.le_trans Z0 K1q.1
  have K1 := Keep.trans (Keep.refl h0 [a0]) K1q (allS (Or.inl (List.mem_of_getElem? (i := 0) rfl)) all0)
  refine Gz.tr st1 ?_
  refine Gz.istoreN 6 #[.val (.ref a0), .val (.ref a1), .val (.int (1 : Int32)), .unset] X1 hx (dd d6_5) rfl rfl ?_
  obtain ⟨T2, h2, X2, e2, E2, A2, D2, -, st2⟩ := newO X1 hx hZ hown (ww hw 45 rfl) (ww hw 3 rfl) (ww hw 4 rfl) rfl (g := (mkF m 6 #[.val (.ref a0), .val (.ref a1), .val (.int (1 : Int32)), .unset] [])) rfl (dd d6_6) (by decide) (by decide)
  obtain ⟨b2, g2⟩ : ∃ z, z = T1.heap.size := ⟨_, rfl⟩
  rw [← g2] at A2 D2 st2
  have ne_a0_b2 : a0 ≠ b2 := Nat.ne_of_lt (Nat.lt_of_lt_of_le (QE1_0).lt (Nat.le_of_eq g2.symm))
  have ne_ba_b2 : ba ≠ b2 := Nat.ne_of_lt (Nat.lt_of_lt_of_le (f1_V_ba).lt (Nat.le_of_eq g2.symm))
  have g_b2 : n0 ≤ b2 := Nat.le_trans SZ1 (Nat.le_of_eq g2.symm)
  have SZ2 : n0 ≤ h2.size := Nat.le_trans SZ1 E2.1
  have sz_b2 : h0.size ≤ b2 := Nat.le_trans K1.1 (Nat.le_of_eq g2.symm)
  have K2 := Keep.ext K1 E2
  have f2_E_a0 := Exa.ext E2 QE1_0
  have f2_V_ba := Arv.ext f1_V_ba E2
  have f2_F_bytes_a0 := Fld.ext E2 QF1_0
  have f2_F_position_a0 := Fld.ext E2 QF1_1
  have f2_F_end_a0 := Fld.ext E2 QF1_2
  have F_bytes_b2 : Fld Z h2 b2 "com/example/bad_status/badstatus/model/ProtoReader" "bytes" "[B" .null := D2 (Or.inr (ww hw 15 rfl)) (ty := (.array .byte)) (by decide)
  have F_position_b2 : Fld Z h2 b2 "com/example/bad_status/badstatus/model/ProtoReader" "position" "I" (.int (0 : Int32)) := D2 (Or.inl (ww hw 17 rfl)) (ty := .int) (by decide)
  have F_end_b2 : Fld Z h2 b2 "com/example/bad_status/badstatus/model/ProtoReader" "end" "I" (.int (0 : Int32)) := D2 (Or.inr (ww hw 19 rfl)) (ty := .int) (by decide)
  have F_place_b2 : Fld Z h2 b2 "com/example/bad_status/badstatus/model/ProtoReader" "place" "Lcom/example/bad_status/badstatus/model/Place;" .null := D2 (Or.inr (ww hw 21 rfl)) (ty := (.object "com/example/bad_status/badstatus/model/Place")) (by decide)
  refine Gz.st st2 ?_
  refine Gz.dup 10 X2 hx (dd d6_9) rfl rfl ?_
  refine Gz.aloadN 11 X2 hx (dd d6_10) rfl rfl rfl ?_
  refine Gz.getF 14 X2 hx hZ hown (dd d6_11) (host := "") (Or.inl (ww hw 14 rfl)) Via.refl e2 f2_F_bytes_a0 rfl fun T3 X3 e3 => ?_
  refine Gz.aloadN 15 X3 hx (dd d6_14) rfl rfl rfl ?_
  refine Gz.getF 18 X3 hx hZ hown (dd d6_15) (host := "") (Or.inl (ww hw 16 rfl)) Via.refl e3 f2_F_position_a0 rfl fun T4 X4 e4 => ?_
  refine Gz.aloadN 19 X4 hx (dd d6_18) rfl rfl rfl ?_
  refine Gz.getF 22 X4 hx hZ hown (dd d6_19) (host := "") (Or.inl (ww hw 16 rfl)) Via.refl e4 f2_F_position_a0 rfl fun T5 X5 e5 => ?_
  refine Gz.iloadN 23 X5 hx (dd d6_22) rfl rfl ?_
  refine Gz.iaddV 24 (2 : Int32) X5 hx (dd d6_23) rfl rfl ?_
  refine Gz.aloadN 25 X5 hx (dd d6_24) rfl rfl rfl ?_
  obtain ⟨_, _, ⟨T6, L6, k6, n6⟩, -, X6, ⟨Lc6, hQ6, l6, y6, z6⟩, st6⟩ := X5.specialBack hx (y := ym0) rfl hown (mvT hZ (ww hw 8 rfl)) (mvT hZ (ww hw 9 rfl)) (mvT hZ (ww hw 10 rfl)) (by decide) (backOf (W := 1) (rmI2 l Z av0 hw [] b2 ba (1 : Int32) (2 : Int32) a1  h2 n0 SZ2 A2 F_bytes_b2 F_position_b2 F_end_b2 F_place_b2 g_b2) hZ (ww hw 10 rfl) (ww hw 4 rfl) (by decide) (by decide)) (g := (mkF m 25 #[.val (.ref a0), .val (.ref a1), .val (.int (1 : Int32)), .unset] [(.ref a1), (.int (2 : Int32)), (.int (1 : Int32)), (.ref ba), (.ref b2), (.ref b2)])) rfl (by rw [hml]; rfl) (Steps.refl _) (a := b2) (argsL := [(.ref ba), (.int (1 : Int32)), (.int (2 : Int32)), (.ref a1)]) (rest := [(.ref b2)]) (lenOf pd_0 rfl) rfl (Nat.le_refl _) (dd d6_25) (fun _ _ => ⟨rfl, e5, (by decide : 1 + 0 ≤ _), (by decide : 4 + 0 ≤ _)⟩)
  dsimp only [Pt.U, Pt.locs, Pt.cells, Pt.slots, Q_rmI2] at X6 l6 y6 z6 st6 hQ6
  subst l6 y6 z6
  obtain ⟨rfl, N6q, K6q, QE6_0, QF6_0, QF6_1, QF6_2, QF6_3⟩ := hQ6
  have N6 := Fr.app N1 N6q
  have f6_E_a0 := Exa.keep f2_E_a0 K6q
  have f6_V_ba := Arv.keep f2_V_ba K6q (ninS ne_ba_b2 nin0)
  have f6_F_bytes_a0 := Fld.keep f2_F_bytes_a0 K6q (ninS ne_a0_b2 nin0)
  have f6_F_position_a0 := Fld.keep f2_F_position_a0 K6q (ninS ne_a0_b2 nin0)
  have f6_F_end_a0 := Fld.keep f2_F_end_a0 K6q (ninS ne_a0_b2 nin0)
  have f6_Eb2 := Exa.keep A2 K6q
  have SZ6 := Nat.le_trans SZ2 K6q.1
  have K6 := Keep.trans K2 K6q (allS (Or.inr sz_b2) all0)
  refine Gz.tr st6 ?_
  refine Gz.astoreN 29 #[.val (.ref a0), .val (.ref a1), .val (.int (1 : Int32)), .val (.ref b2)] X6 hx (dd d6_28) rfl rfl rfl ?_
  refine Gz.aloadN 30 X6 hx (dd d6_29) rfl rfl rfl ?_
  refine Gz.dup 31 X6 hx (dd d6_30) rfl rfl ?_
  refine Gz.getF 34 X6 hx hZ hown (dd d6_31) (host := "") (Or.inl (ww hw 16 rfl)) Via.refl rfl f6_F_position_a0 rfl fun T7 X7 e7 => ?_
  refine Gz.iloadN 35 X7 hx (dd d6_34) rfl rfl ?_
  refine Gz.iaddV 36 (2 : Int32) X7 hx (dd d6_35) rfl rfl ?_
  refine Gz.putF 39 X7 hx hZ hown .int (dd d6_36) (host := "") (Or.inl (ww hw 16 rfl)) Via.refl e7 f6_F_position_a0 f6_E_a0 (Or.inl (ww hw 17 rfl)) (ww hw 3 rfl) (by decide) rfl rfl rfl fun T8 h8 X8 e8 W8 => ?_
  have f8_E_a0 := Exa.wr W8 f6_E_a0
  have f8_V_ba := Arv.other f6_V_ba W8 ne_ba_a0
  have f8_F_bytes_a0 := Fld.other W8 f6_F_bytes_a0 (Or.inr (slot_ne (Or.inr (ww hw 15 rfl)) (Or.inl (ww hw 17 rfl)) (by decide) (t := (.array .byte)) (t' := .int) (by decide) (by decide)))
  have f8_F_end_a0 := Fld.other W8 f6_F_end_a0 (Or.inr (slot_ne (Or.inr (ww hw 19 rfl)) (Or.inl (ww hw 17 rfl)) (by decide) (t := .int) (t' := .int) (by decide) (by decide)))
  have f8_E_b2 := Exa.wr W8 QE6_0
  have f8_F_bytes_b2 := Fld.other W8 QF6_0 (Or.inl (Ne.symm ne_a0_b2))
  have f8_F_position_b2 := Fld.other W8 QF6_1 (Or.inl (Ne.symm ne_a0_b2))
  have f8_F_end_b2 := Fld.other W8 QF6_2 (Or.inl (Ne.symm ne_a0_b2))
  have f8_F_place_b2 := Fld.other W8 QF6_3 (Or.inl (Ne.symm ne_a0_b2))
  have f8_F_position_a0 := Fld.same W8 f6_F_position_a0
  have N8 := Fr.snoc X8 N6 g_a0
  have SZ8 : n0 ≤ h8.size := Nat.le_trans SZ6 (Keep.of_wr W8).1
  have K8 := Keep.wr K6 W8 (Or.inl (List.mem_of_getElem? (i := 0) rfl))
  refine Gz.aloadN 40 X8 hx (dd d6_39) rfl rfl rfl ?_
  refine Gz.fin X8 (v := some (.ref b2)) (fun h => by rw [hret] at h; cases h) hlk (by decide) (by decide) (fun fs hr => retA X8 hx hret (dd d6_40) hr rfl rfl) ?_
  rw [e8]
  exact ⟨b2, rfl, N8, K8, f8_E_a0, f8_F_bytes_a0, f8_F_position_a0, f8_F_end_a0, g_b2, sz_b2, f8_E_b2, f8_F_bytes_b2, f8_F_position_b2, f8_F_end_b2⟩
theorem ef_rmL32 (m : MethodId) (a0 : Addr) (a1 : Addr) : entryFrame m #[(.ref a0), (.ref a1)] 4 = mkF m 0 #[.val (.ref a0), .val (.ref a1), .unset, .unset] [] := by first | (simp [entryFrame, mkF, argsToLocals, Value.category]; done) | rfl
def Q_rmL32 (Z : State) (a0 : Addr) (a1 : Addr) (ba : Addr) (k_ba : ClassId) (v1 : Int32) (v2 : Int32) (h0 : Heap) (n0 : Nat) (v : Option Value) (h : Heap) (L : List Loc) : Prop := v = some (.int (2 : Int32)) ∧ Fr n0 L ∧ Keep h0 h [a0] ∧ Exa Z h a0 "com/example/bad_status/badstatus/model/ProtoReader" ∧ Fld Z h a0 "com/example/bad_status/badstatus/model/ProtoReader" "bytes" "[B" (.ref ba) ∧ Fld Z h a0 "com/example/bad_status/badstatus/model/ProtoReader" "position" "I" (.int (1 : Int32)) ∧ Fld Z h a0 "com/example/bad_status/badstatus/model/ProtoReader" "end" "I" (.int (3 : Int32))
set_option maxRecDepth 65536 in
set_option maxHeartbeats 40000000 in
theorem rmL32 (l : Launch) (Z : State) (av0 : Array Value) (hw : ∀ d ∈ tables_1, d.before av0 Z = true) (ws : List Jvm.Cond) (a0 : Addr) (a1 : Addr) (ba : Addr) (k_ba : ClassId) (v1 : Int32) (v2 : Int32) (h0 : Heap) (n0 : Nat) (Z0 : n0 ≤ h0.size) (E_a0 : Exa Z h0 a0 "com/example/bad_status/badstatus/model/ProtoReader") (F_bytes_a0 : Fld Z h0 a0 "com/example/bad_status/badstatus/model/ProtoReader" "bytes" "[B" (.ref ba)) (F_position_a0 : Fld Z h0 a0 "com/example/bad_status/badstatus/model/ProtoReader" "position" "I" (.int (0 : Int32))) (F_end_a0 : Fld Z h0 a0 "com/example/bad_status/badstatus/model/ProtoReader" "end" "I" (.int (3 : Int32))) (g_a0 : n0 ≤ a0) (V_ba : Arv Z h0 ba k_ba .byte (3 : Int32) [(.int (2 : Int32)), (.int v1), (.int v2)] (.int (0 : Int32))) (ne_ba_a0 : ba ≠ a0) :
    MetFree l (⟨"com/example/bad_status/badstatus/model/ProtoReader", "readLength", "(Lcom/example/bad_status/badstatus/model/Place;)I"⟩ : MethodName) (head1 (Jvm.Cond.code (⟨"com/example/bad_status/badstatus/model/ProtoReader", "readLength", "(Lcom/example/bad_status/badstatus/model/Place;)I"⟩ : MethodName) prog_17_method_14_code 4 (some .int) :: ws) ({ frames := 1, cells := 0, slots := 0, locals := 16 } : Room)) (fun a U => a = #[(.ref a0), (.ref a1)] ∧ Z.Warmed39 U.vm ∧ U.heap = h0) (fun _ _ _ _ _ => True) (fun _ U o U' => ∃ v L, o = .returned v ∧ Q_rmL32 Z a0 a1 ba k_ba v1 v2 h0 n0 v U'.heap L ∧ FrameEnd U o U' L ({ frames := 1, cells := 0, slots := 0, locals := 16 } : Room).cells ({ frames := 1, cells := 0, slots := 0, locals := 16 } : Room).slots) := by
  refine MetFree.of_bodySF (plainFor_of_name pn_0) hisR ?_
  intro p e s m args below meth c s₁ Bd hml0 hP hK
  obtain ⟨rfl, hZ, hh⟩ := hP
  have hx := Bd.exec
  have hby := Bd.bytes
  have hml : c.maxLocals = 4 := hml0
  have dd : ∀ {pc : Nat} {r : Except DecodeError (Instr × Nat)}, decode prog_17_method_14_code pc = r → decode c.code pc = r := fun q => hb hby q
  have hown : s.vm.findClass "com/example/bad_status/badstatus/model/ProtoReader" = some m.cls := findClass_of_methodNamed Bd.named
  have hnm := (name_of_methodNamed Bd.named Bd.method).1
  have X0 : Stand p l e ({ frames := 1, cells := 0, slots := 0, locals := 16 } : Room) s m #[(.ref a0), (.ref a1)] below meth c s₁ [] 0 0 := Stand.of_body Bd
  have e0 : s₁.heap = h0 := by rw [← hh, Bd.state]; rfl
  have N0 := Fr.nil n0
  have hret := Bd.returns
  have hlk := Bd.notSynchronized
  show Gz p e below s ({ frames := 1, cells := 0, slots := 0, locals := 16 } : Room).cells ({ frames := 1, cells := 0, slots := 0, locals := 16 } : Room).slots (Q_rmL32 Z a0 a1 ba k_ba v1 v2 h0 n0) (s₁.setTop (entryFrame m #[(.ref a0), (.ref a1)] 4))
  refine Gz.enter (ef_rmL32 m a0 a1) ?_
  refine Gz.aloadN 1 X0 hx (dd d7_0) rfl rfl rfl ?_
  obtain ⟨c1, A1, q1, S1, N1, H1, G1⟩ := id V_ba
  have hin2 : ¬ ((0 : Int32) < 0 ∨ c1.slots.size ≤ ((0 : Int32)).toNatClampNeg) := inb_of S1 ⟨by decide, by decide⟩
  have hat2 : c1.slots[((0 : Int32)).toNatClampNeg]? = some (.int (2 : Int32)) := Has.at H1 hin2 rfl
  obtain ⟨cq3, kq3, q3a, q3b, q3c⟩ := isOf hZ e0 E_a0
  obtain ⟨_, _, ⟨T3, L3, k3, n3⟩, -, X3, ⟨Lc3, hQ3, l3, y3, z3⟩, st3⟩ := X0.virtualBack hx (y := ym1) (z := ym1) hown (mvT hZ (ww hw 44 rfl)) (mvT hZ (ww hw 28 rfl)) (notFace_of_selects (args := #[]) (mvT hZ (ww hw 30 rfl))) (mvT hZ (ww hw 30 rfl)) (mvT hZ (ww hw 29 rfl)) (by decide) (backOf (W := 0) (rmV1 l Z av0 hw [] a0 ba (0 : Int32) (3 : Int32) c1 (2 : Int32) h0 n0 Z0 E_a0 F_bytes_a0 F_position_a0 F_end_a0 g_a0 A1 ne_ba_a0 hin2 hat2 (by decide : ¬ ((0 : Int32) = (3 : Int32))) (by decide : ¬ ((2 : Int32) < (0 : Int32)))) hZ (ww hw 31 rfl) (ww hw 4 rfl) (by decide) (by decide)) q3a q3c (g := (mkF m 1 #[.val (.ref a0), .val (.ref a1), .unset, .unset] [(.ref a0)])) rfl (by rw [hml]; rfl) (Steps.refl _) (argsL := []) (rest := []) (lenOf pd_1 rfl) rfl (Nat.le_refl _) (dd d7_1) (fun _ _ => ⟨rfl, e0, (by decide : 0 + 0 ≤ _), (by decide : 0 + 0 ≤ _)⟩)
  dsimp only [Pt.U, Pt.locs, Pt.cells, Pt.slots, Q_rmV1] at X3 l3 y3 z3 st3 hQ3
  subst l3 y3 z3
  obtain ⟨rfl, N3q, K3q, QE3_0, QF3_0, QF3_1, QF3_2⟩ := hQ3
  have N3 := Fr.app N0 N3q
  have f3_E_a0 := Exa.keep E_a0 K3q
  have f3_V_ba := Arv.keep V_ba K3q (ninS ne_ba_a0 nin0)
  have SZ3 := Nat.le_trans Z0 K3q.1
  have K3 := Keep.trans (Keep.refl h0 [a0]) K3q (allS (Or.inl (List.mem_of_getElem? (i := 0) rfl)) all0)
  replace QF3_1 : Fld Z T3.heap a0 "com/example/bad_status/badstatus/model/ProtoReader" "position" "I" (.int (1 : Int32)) := QF3_1
  refine Gz.tr st3 ?_
  refine Gz.lstoreN 5 #[.val (.ref a0), .val (.ref a1), .val (.long ((0 : Int64) ||| ((((2 : Int32) &&& (127 : Int32)).toInt64) <<< ((0 : Int32) &&& 0x3f).toInt64))), .second] X3 hx (dd d7_4) rfl rfl ?_
  refine Gz.lloadN 6 X3 hx (dd d7_5) rfl rfl ?_
  refine Gz.lconst 7 (0 : Int64) X3 hx (dd d7_6) rfl rfl ?_
  refine Gz.lcmp 8 X3 hx (dd d7_7) rfl ?_
  refine Gz.ifNo 11 X3 hx (dd d7_8) ((if0 _ _).trans (flt (fun q => ((by decide) : ¬ (((0 : Int64) ||| ((((2 : Int32) &&& (127 : Int32)).toInt64) <<< ((0 : Int32) &&& 0x3f).toInt64)) < (0 : Int64))) ((lw_lt _ _).mp q))).1) rfl ?_
  refine Gz.lloadN 12 X3 hx (dd d7_11) rfl rfl ?_
  refine Gz.aloadN 13 X3 hx (dd d7_12) rfl rfl rfl ?_
  refine Gz.getF 16 X3 hx hZ hown (dd d7_13) (host := "") (Or.inl (ww hw 18 rfl)) Via.refl rfl QF3_2 rfl fun T4 X4 e4 => ?_
  refine Gz.aloadN 17 X4 hx (dd d7_16) rfl rfl rfl ?_
  refine Gz.getF 20 X4 hx hZ hown (dd d7_17) (host := "") (Or.inl (ww hw 16 rfl)) Via.refl e4 QF3_1 rfl fun T5 X5 e5 => ?_
  refine Gz.isubV 21 (2 : Int32) X5 hx (dd d7_20) rfl rfl ?_
  refine Gz.i2lV 22 (2 : Int64) X5 hx (dd d7_21) rfl rfl ?_
  refine Gz.lcmp 23 X5 hx (dd d7_22) rfl ?_
  refine Gz.ifYes 31 X5 hx (dd d7_23) ((if0 _ _).trans (flt (fun q => ((by decide) : ¬ ((2 : Int64) < ((0 : Int64) ||| ((((2 : Int32) &&& (127 : Int32)).toInt64) <<< ((0 : Int32) &&& 0x3f).toInt64)))) ((lw_gt _ _).mp q))).2.2.2) (by decide) (by decide) ?_
  refine Gz.lloadN 32 X5 hx (dd d7_31) rfl rfl ?_
  refine Gz.l2i 33 X5 hx (dd d7_32) rfl ?_
  show Gz p e below s _ _ _ (T5.setTop (mkF m 33 #[.val (.ref a0), .val (.ref a1), .val (.long ((0 : Int64) ||| ((((2 : Int32) &&& (127 : Int32)).toInt64) <<< ((0 : Int32) &&& 0x3f).toInt64))), .second] [(.int (((0 : Int64) ||| ((((2 : Int32) &&& (127 : Int32)).toInt64) <<< ((0 : Int32) &&& 0x3f).toInt64)).toInt32))]))
  rw [show (((0 : Int64) ||| ((((2 : Int32) &&& (127 : Int32)).toInt64) <<< ((0 : Int32) &&& 0x3f).toInt64)).toInt32) = (2 : Int32) from by decide]
  refine Gz.fin X5 (v := some (.int (2 : Int32))) (fun h => by rw [hret] at h; cases h) hlk (by decide) (by decide) (fun fs hr => retI X5 hx hret (dd d7_33) hr) ?_
  rw [e5]
  exact ⟨rfl, N3, K3, QE3_0, QF3_0, QF3_1, QF3_2⟩
theorem ef_rmM32 (m : MethodId) (a0 : Addr) (a1 : Addr) : entryFrame m #[(.ref a0), (.ref a1)] 4 = mkF m 0 #[.val (.ref a0), .val (.ref a1), .unset, .unset] [] := by first | (simp [entryFrame, mkF, argsToLocals, Value.category]; done) | rfl
def Q_rmM32 (Z : State) (a0 : Addr) (a1 : Addr) (ba : Addr) (k_ba : ClassId) (v1 : Int32) (v2 : Int32) (h0 : Heap) (n0 : Nat) (v : Option Value) (h : Heap) (L : List Loc) : Prop := ∃ rd : Addr, v = some (.ref rd) ∧ Fr n0 L ∧ Keep h0 h [a0] ∧ Exa Z h a0 "com/example/bad_status/badstatus/model/ProtoReader" ∧ Fld Z h a0 "com/example/bad_status/badstatus/model/ProtoReader" "bytes" "[B" (.ref ba) ∧ Fld Z h a0 "com/example/bad_status/badstatus/model/ProtoReader" "position" "I" (.int (3 : Int32)) ∧ Fld Z h a0 "com/example/bad_status/badstatus/model/ProtoReader" "end" "I" (.int (3 : Int32)) ∧ n0 ≤ rd ∧ h0.size ≤ rd ∧ Exa Z h rd "com/example/bad_status/badstatus/model/ProtoReader" ∧ Fld Z h rd "com/example/bad_status/badstatus/model/ProtoReader" "bytes" "[B" (.ref ba) ∧ Fld Z h rd "com/example/bad_status/badstatus/model/ProtoReader" "position" "I" (.int (1 : Int32)) ∧ Fld Z h rd "com/example/bad_status/badstatus/model/ProtoReader" "end" "I" (.int (3 : Int32))
set_option maxRecDepth 65536 in
set_option maxHeartbeats 40000000 in
theorem rmM32 (l : Launch) (Z : State) (av0 : Array Value) (hw : ∀ d ∈ tables_1, d.before av0 Z = true) (ws : List Jvm.Cond) (a0 : Addr) (a1 : Addr) (ba : Addr) (k_ba : ClassId) (v1 : Int32) (v2 : Int32) (h0 : Heap) (n0 : Nat) (Z0 : n0 ≤ h0.size) (E_a0 : Exa Z h0 a0 "com/example/bad_status/badstatus/model/ProtoReader") (F_bytes_a0 : Fld Z h0 a0 "com/example/bad_status/badstatus/model/ProtoReader" "bytes" "[B" (.ref ba)) (F_position_a0 : Fld Z h0 a0 "com/example/bad_status/badstatus/model/ProtoReader" "position" "I" (.int (0 : Int32))) (F_end_a0 : Fld Z h0 a0 "com/example/bad_status/badstatus/model/ProtoReader" "end" "I" (.int (3 : Int32))) (g_a0 : n0 ≤ a0) (V_ba : Arv Z h0 ba k_ba .byte (3 : Int32) [(.int (2 : Int32)), (.int v1), (.int v2)] (.int (0 : Int32))) (ne_ba_a0 : ba ≠ a0) :
    MetFree l (⟨"com/example/bad_status/badstatus/model/ProtoReader", "readMessage", "(Lcom/example/bad_status/badstatus/model/Place;)Lcom/example/bad_status/badstatus/model/ProtoReader;"⟩ : MethodName) (head1 (Jvm.Cond.code (⟨"com/example/bad_status/badstatus/model/ProtoReader", "readMessage", "(Lcom/example/bad_status/badstatus/model/Place;)Lcom/example/bad_status/badstatus/model/ProtoReader;"⟩ : MethodName) prog_17_method_9_code 4 (some (.object "com/example/bad_status/badstatus/model/ProtoReader")) :: ws) ({ frames := 2, cells := 1, slots := 4, locals := 31 } : Room)) (fun a U => a = #[(.ref a0), (.ref a1)] ∧ Z.Warmed39 U.vm ∧ U.heap = h0) (fun _ _ _ _ _ => True) (fun _ U o U' => ∃ v L, o = .returned v ∧ Q_rmM32 Z a0 a1 ba k_ba v1 v2 h0 n0 v U'.heap L ∧ FrameEnd U o U' L ({ frames := 2, cells := 1, slots := 4, locals := 31 } : Room).cells ({ frames := 2, cells := 1, slots := 4, locals := 31 } : Room).slots) := by
  refine MetFree.of_bodySF (plainFor_of_name pn_0) hisR ?_
  intro p e s m args below meth c s₁ Bd hml0 hP hK
  obtain ⟨rfl, hZ, hh⟩ := hP
  have hx := Bd.exec
  have hby := Bd.bytes
  have hml : c.maxLocals = 4 := hml0
  have dd : ∀ {pc : Nat} {r : Except DecodeError (Instr × Nat)}, decode prog_17_method_9_code pc = r → decode c.code pc = r := fun q => hb hby q
  have hown : s.vm.findClass "com/example/bad_status/badstatus/model/ProtoReader" = some m.cls := findClass_of_methodNamed Bd.named
  have hnm := (name_of_methodNamed Bd.named Bd.method).1
  have X0 : Stand p l e ({ frames := 2, cells := 1, slots := 4, locals := 31 } : Room) s m #[(.ref a0), (.ref a1)] below meth c s₁ [] 0 0 := Stand.of_body Bd
  have e0 : s₁.heap = h0 := by rw [← hh, Bd.state]; rfl
  have N0 := Fr.nil n0
  have hret := Bd.returns
  have hlk := Bd.notSynchronized
  show Gz p e below s ({ frames := 2, cells := 1, slots := 4, locals := 31 } : Room).cells ({ frames := 2, cells := 1, slots := 4, locals := 31 } : Room).slots (Q_rmM32 Z a0 a1 ba k_ba v1 v2 h0 n0) (s₁.setTop (entryFrame m #[(.ref a0), (.ref a1)] 4))
  refine Gz.enter (ef_rmM32 m a0 a1) ?_
  refine Gz.aloadN 1 X0 hx (dd d6_0) rfl rfl rfl ?_
  refine Gz.aloadN 2 X0 hx (dd d6_1) rfl rfl rfl ?_
  obtain ⟨cq1, q1, q1'⟩ := E_a0.cell
  obtain ⟨_, _, ⟨T1, L1, k1, n1⟩, -, X1, ⟨Lc1, hQ1, l1, y1, z1⟩, st1⟩ := X0.privateBack hx (y := ym2) hown (mvT hZ (ww hw 40 rfl)) (mvT hZ (ww hw 41 rfl)) (own_selp (y := ym2) (y' := ym3) rfl (mvT hZ (ww hw 25 rfl)) (mvT hZ (ww hw 24 rfl)) (mvT hZ (ww hw 41 rfl)) (Cond.privateMethod_at (mvP hZ (ww hw 42 rfl) (args := #[]))) (by decide)) (Cond.privateMethod_at (mvP hZ (ww hw 42 rfl) (args := #[]))) (mvT hZ (ww hw 43 rfl)) (by decide) (backOf (W := 0) (rmL32 l Z av0 hw [] a0 a1 ba k_ba v1 v2 h0 n0 Z0 E_a0 F_bytes_a0 F_position_a0 F_end_a0 g_a0 V_ba ne_ba_a0) hZ (ww hw 43 rfl) (ww hw 4 rfl) (by decide) (by decide)) (g := (mkF m 2 #[.val (.ref a0), .val (.ref a1), .unset, .unset] [(.ref a1), (.ref a0)])) rfl (by rw [hml]; rfl) (Steps.refl _) (a := a0) (by rw [e0]; exact q1) q1' (argsL := [(.ref a1)]) (rest := []) (lenOf pd_2 rfl) rfl (Nat.le_refl _) (dd d6_2) (fun _ _ => ⟨rfl, e0, (by decide : 0 + 0 ≤ _), (by decide : 0 + 0 ≤ _)⟩)
  dsimp only [Pt.U, Pt.locs, Pt.cells, Pt.slots, Q_rmL32] at X1 l1 y1 z1 st1 hQ1
  subst l1 y1 z1
  obtain ⟨rfl, N1q, K1q, QE1_0, QF1_0, QF1_1, QF1_2⟩ := hQ1
  have N1 := Fr.app N0 N1q
  have f1_E_a0 := Exa.keep E_a0 K1q
  have f1_V_ba := Arv.keep V_ba K1q (ninS ne_ba_a0 nin0)
  have SZ1 := Nat.le_trans Z0 K1q.1
  have K1 := Keep.trans (Keep.refl h0 [a0]) K1q (allS (Or.inl (List.mem_of_getElem? (i := 0) rfl)) all0)
  refine Gz.tr st1 ?_
  refine Gz.istoreN 6 #[.val (.ref a0), .val (.ref a1), .val (.int (2 : Int32)), .unset] X1 hx (dd d6_5) rfl rfl ?_
  obtain ⟨T2, h2, X2, e2, E2, A2, D2, -, st2⟩ := newO X1 hx hZ hown (ww hw 45 rfl) (ww hw 3 rfl) (ww hw 4 rfl) rfl (g := (mkF m 6 #[.val (.ref a0), .val (.ref a1), .val (.int (2 : Int32)), .unset] [])) rfl (dd d6_6) (by decide) (by decide)
  obtain ⟨b2, g2⟩ : ∃ z, z = T1.heap.size := ⟨_, rfl⟩
  rw [← g2] at A2 D2 st2
  have ne_a0_b2 : a0 ≠ b2 := Nat.ne_of_lt (Nat.lt_of_lt_of_le (QE1_0).lt (Nat.le_of_eq g2.symm))
  have ne_ba_b2 : ba ≠ b2 := Nat.ne_of_lt (Nat.lt_of_lt_of_le (f1_V_ba).lt (Nat.le_of_eq g2.symm))
  have g_b2 : n0 ≤ b2 := Nat.le_trans SZ1 (Nat.le_of_eq g2.symm)
  have SZ2 : n0 ≤ h2.size := Nat.le_trans SZ1 E2.1
  have sz_b2 : h0.size ≤ b2 := Nat.le_trans K1.1 (Nat.le_of_eq g2.symm)
  have K2 := Keep.ext K1 E2
  have f2_E_a0 := Exa.ext E2 QE1_0
  have f2_V_ba := Arv.ext f1_V_ba E2
  have f2_F_bytes_a0 := Fld.ext E2 QF1_0
  have f2_F_position_a0 := Fld.ext E2 QF1_1
  have f2_F_end_a0 := Fld.ext E2 QF1_2
  have F_bytes_b2 : Fld Z h2 b2 "com/example/bad_status/badstatus/model/ProtoReader" "bytes" "[B" .null := D2 (Or.inr (ww hw 15 rfl)) (ty := (.array .byte)) (by decide)
  have F_position_b2 : Fld Z h2 b2 "com/example/bad_status/badstatus/model/ProtoReader" "position" "I" (.int (0 : Int32)) := D2 (Or.inl (ww hw 17 rfl)) (ty := .int) (by decide)
  have F_end_b2 : Fld Z h2 b2 "com/example/bad_status/badstatus/model/ProtoReader" "end" "I" (.int (0 : Int32)) := D2 (Or.inr (ww hw 19 rfl)) (ty := .int) (by decide)
  have F_place_b2 : Fld Z h2 b2 "com/example/bad_status/badstatus/model/ProtoReader" "place" "Lcom/example/bad_status/badstatus/model/Place;" .null := D2 (Or.inr (ww hw 21 rfl)) (ty := (.object "com/example/bad_status/badstatus/model/Place")) (by decide)
  refine Gz.st st2 ?_
  refine Gz.dup 10 X2 hx (dd d6_9) rfl rfl ?_
  refine Gz.aloadN 11 X2 hx (dd d6_10) rfl rfl rfl ?_
  refine Gz.getF 14 X2 hx hZ hown (dd d6_11) (host := "") (Or.inl (ww hw 14 rfl)) Via.refl e2 f2_F_bytes_a0 rfl fun T3 X3 e3 => ?_
  refine Gz.aloadN 15 X3 hx (dd d6_14) rfl rfl rfl ?_
  refine Gz.getF 18 X3 hx hZ hown (dd d6_15) (host := "") (Or.inl (ww hw 16 rfl)) Via.refl e3 f2_F_position_a0 rfl fun T4 X4 e4 => ?_
  refine Gz.aloadN 19 X4 hx (dd d6_18) rfl rfl rfl ?_
  refine Gz.getF 22 X4 hx hZ hown (dd d6_19) (host := "") (Or.inl (ww hw 16 rfl)) Via.refl e4 f2_F_position_a0 rfl fun T5 X5 e5 => ?_
  refine Gz.iloadN 23 X5 hx (dd d6_22) rfl rfl ?_
  refine Gz.iaddV 24 (3 : Int32) X5 hx (dd d6_23) rfl rfl ?_
  refine Gz.aloadN 25 X5 hx (dd d6_24) rfl rfl rfl ?_
  obtain ⟨_, _, ⟨T6, L6, k6, n6⟩, -, X6, ⟨Lc6, hQ6, l6, y6, z6⟩, st6⟩ := X5.specialBack hx (y := ym0) rfl hown (mvT hZ (ww hw 8 rfl)) (mvT hZ (ww hw 9 rfl)) (mvT hZ (ww hw 10 rfl)) (by decide) (backOf (W := 1) (rmI2 l Z av0 hw [] b2 ba (1 : Int32) (3 : Int32) a1  h2 n0 SZ2 A2 F_bytes_b2 F_position_b2 F_end_b2 F_place_b2 g_b2) hZ (ww hw 10 rfl) (ww hw 4 rfl) (by decide) (by decide)) (g := (mkF m 25 #[.val (.ref a0), .val (.ref a1), .val (.int (2 : Int32)), .unset] [(.ref a1), (.int (3 : Int32)), (.int (1 : Int32)), (.ref ba), (.ref b2), (.ref b2)])) rfl (by rw [hml]; rfl) (Steps.refl _) (a := b2) (argsL := [(.ref ba), (.int (1 : Int32)), (.int (3 : Int32)), (.ref a1)]) (rest := [(.ref b2)]) (lenOf pd_0 rfl) rfl (Nat.le_refl _) (dd d6_25) (fun _ _ => ⟨rfl, e5, (by decide : 1 + 0 ≤ _), (by decide : 4 + 0 ≤ _)⟩)
  dsimp only [Pt.U, Pt.locs, Pt.cells, Pt.slots, Q_rmI2] at X6 l6 y6 z6 st6 hQ6
  subst l6 y6 z6
  obtain ⟨rfl, N6q, K6q, QE6_0, QF6_0, QF6_1, QF6_2, QF6_3⟩ := hQ6
  have N6 := Fr.app N1 N6q
  have f6_E_a0 := Exa.keep f2_E_a0 K6q
  have f6_V_ba := Arv.keep f2_V_ba K6q (ninS ne_ba_b2 nin0)
  have f6_F_bytes_a0 := Fld.keep f2_F_bytes_a0 K6q (ninS ne_a0_b2 nin0)
  have f6_F_position_a0 := Fld.keep f2_F_position_a0 K6q (ninS ne_a0_b2 nin0)
  have f6_F_end_a0 := Fld.keep f2_F_end_a0 K6q (ninS ne_a0_b2 nin0)
  have f6_Eb2 := Exa.keep A2 K6q
  have SZ6 := Nat.le_trans SZ2 K6q.1
  have K6 := Keep.trans K2 K6q (allS (Or.inr sz_b2) all0)
  refine Gz.tr st6 ?_
  refine Gz.astoreN 29 #[.val (.ref a0), .val (.ref a1), .val (.int (2 : Int32)), .val (.ref b2)] X6 hx (dd d6_28) rfl rfl rfl ?_
  refine Gz.aloadN 30 X6 hx (dd d6_29) rfl rfl rfl ?_
  refine Gz.dup 31 X6 hx (dd d6_30) rfl rfl ?_
  refine Gz.getF 34 X6 hx hZ hown (dd d6_31) (host := "") (Or.inl (ww hw 16 rfl)) Via.refl rfl f6_F_position_a0 rfl fun T7 X7 e7 => ?_
  refine Gz.iloadN 35 X7 hx (dd d6_34) rfl rfl ?_
  refine Gz.iaddV 36 (3 : Int32) X7 hx (dd d6_35) rfl rfl ?_
  refine Gz.putF 39 X7 hx hZ hown .int (dd d6_36) (host := "") (Or.inl (ww hw 16 rfl)) Via.refl e7 f6_F_position_a0 f6_E_a0 (Or.inl (ww hw 17 rfl)) (ww hw 3 rfl) (by decide) rfl rfl rfl fun T8 h8 X8 e8 W8 => ?_
  have f8_E_a0 := Exa.wr W8 f6_E_a0
  have f8_V_ba := Arv.other f6_V_ba W8 ne_ba_a0
  have f8_F_bytes_a0 := Fld.other W8 f6_F_bytes_a0 (Or.inr (slot_ne (Or.inr (ww hw 15 rfl)) (Or.inl (ww hw 17 rfl)) (by decide) (t := (.array .byte)) (t' := .int) (by decide) (by decide)))
  have f8_F_end_a0 := Fld.other W8 f6_F_end_a0 (Or.inr (slot_ne (Or.inr (ww hw 19 rfl)) (Or.inl (ww hw 17 rfl)) (by decide) (t := .int) (t' := .int) (by decide) (by decide)))
  have f8_E_b2 := Exa.wr W8 QE6_0
  have f8_F_bytes_b2 := Fld.other W8 QF6_0 (Or.inl (Ne.symm ne_a0_b2))
  have f8_F_position_b2 := Fld.other W8 QF6_1 (Or.inl (Ne.symm ne_a0_b2))
  have f8_F_end_b2 := Fld.other W8 QF6_2 (Or.inl (Ne.symm ne_a0_b2))
  have f8_F_place_b2 := Fld.other W8 QF6_3 (Or.inl (Ne.symm ne_a0_b2))
  have f8_F_position_a0 := Fld.same W8 f6_F_position_a0
  have N8 := Fr.snoc X8 N6 g_a0
  have SZ8 : n0 ≤ h8.size := Nat.le_trans SZ6 (Keep.of_wr W8).1
  have K8 := Keep.wr K6 W8 (Or.inl (List.mem_of_getElem? (i := 0) rfl))
  refine Gz.aloadN 40 X8 hx (dd d6_39) rfl rfl rfl ?_
  refine Gz.fin X8 (v := some (.ref b2)) (fun h => by rw [hret] at h; cases h) hlk (by decide) (by decide) (fun fs hr => retA X8 hx hret (dd d6_40) hr rfl rfl) ?_
  rw [e8]
  exact ⟨b2, rfl, N8, K8, f8_E_a0, f8_F_bytes_a0, f8_F_position_a0, f8_F_end_a0, g_b2, sz_b2, f8_E_b2, f8_F_bytes_b2, f8_F_position_b2, f8_F_end_b2⟩
theorem ef_rmL40 (m : MethodId) (a0 : Addr) (a1 : Addr) : entryFrame m #[(.ref a0), (.ref a1)] 4 = mkF m 0 #[.val (.ref a0), .val (.ref a1), .unset, .unset] [] := by first | (simp [entryFrame, mkF, argsToLocals, Value.category]; done) | rfl
def Q_rmL40 (Z : State) (a0 : Addr) (a1 : Addr) (ba : Addr) (k_ba : ClassId) (v1 : Int32) (v2 : Int32) (v3 : Int32) (h0 : Heap) (n0 : Nat) (v : Option Value) (h : Heap) (L : List Loc) : Prop := v = some (.int (0 : Int32)) ∧ Fr n0 L ∧ Keep h0 h [a0] ∧ Exa Z h a0 "com/example/bad_status/badstatus/model/ProtoReader" ∧ Fld Z h a0 "com/example/bad_status/badstatus/model/ProtoReader" "bytes" "[B" (.ref ba) ∧ Fld Z h a0 "com/example/bad_status/badstatus/model/ProtoReader" "position" "I" (.int (1 : Int32)) ∧ Fld Z h a0 "com/example/bad_status/badstatus/model/ProtoReader" "end" "I" (.int (4 : Int32))
set_option maxRecDepth 65536 in
set_option maxHeartbeats 40000000 in
theorem rmL40 (l : Launch) (Z : State) (av0 : Array Value) (hw : ∀ d ∈ tables_1, d.before av0 Z = true) (ws : List Jvm.Cond) (a0 : Addr) (a1 : Addr) (ba : Addr) (k_ba : ClassId) (v1 : Int32) (v2 : Int32) (v3 : Int32) (h0 : Heap) (n0 : Nat) (Z0 : n0 ≤ h0.size) (E_a0 : Exa Z h0 a0 "com/example/bad_status/badstatus/model/ProtoReader") (F_bytes_a0 : Fld Z h0 a0 "com/example/bad_status/badstatus/model/ProtoReader" "bytes" "[B" (.ref ba)) (F_position_a0 : Fld Z h0 a0 "com/example/bad_status/badstatus/model/ProtoReader" "position" "I" (.int (0 : Int32))) (F_end_a0 : Fld Z h0 a0 "com/example/bad_status/badstatus/model/ProtoReader" "end" "I" (.int (4 : Int32))) (g_a0 : n0 ≤ a0) (V_ba : Arv Z h0 ba k_ba .byte (4 : Int32) [(.int (0 : Int32)), (.int v1), (.int v2), (.int v3)] (.int (0 : Int32))) (ne_ba_a0 : ba ≠ a0) :
    MetFree l (⟨"com/example/bad_status/badstatus/model/ProtoReader", "readLength", "(Lcom/example/bad_status/badstatus/model/Place;)I"⟩ : MethodName) (head1 (Jvm.Cond.code (⟨"com/example/bad_status/badstatus/model/ProtoReader", "readLength", "(Lcom/example/bad_status/badstatus/model/Place;)I"⟩ : MethodName) prog_17_method_14_code 4 (some .int) :: ws) ({ frames := 1, cells := 0, slots := 0, locals := 16 } : Room)) (fun a U => a = #[(.ref a0), (.ref a1)] ∧ Z.Warmed39 U.vm ∧ U.heap = h0) (fun _ _ _ _ _ => True) (fun _ U o U' => ∃ v L, o = .returned v ∧ Q_rmL40 Z a0 a1 ba k_ba v1 v2 v3 h0 n0 v U'.heap L ∧ FrameEnd U o U' L ({ frames := 1, cells := 0, slots := 0, locals := 16 } : Room).cells ({ frames := 1, cells := 0, slots := 0, locals := 16 } : Room).slots) := by
  refine MetFree.of_bodySF (plainFor_of_name pn_0) hisR ?_
  intro p e s m args below meth c s₁ Bd hml0 hP hK
  obtain ⟨rfl, hZ, hh⟩ := hP
  have hx := Bd.exec
  have hby := Bd.bytes
  have hml : c.maxLocals = 4 := hml0
  have dd : ∀ {pc : Nat} {r : Except DecodeError (Instr × Nat)}, decode prog_17_method_14_code pc = r → decode c.code pc = r := fun q => hb hby q
  have hown : s.vm.findClass "com/example/bad_status/badstatus/model/ProtoReader" = some m.cls := findClass_of_methodNamed Bd.named
  have hnm := (name_of_methodNamed Bd.named Bd.method).1
  have X0 : Stand p l e ({ frames := 1, cells := 0, slots := 0, locals := 16 } : Room) s m #[(.ref a0), (.ref a1)] below meth c s₁ [] 0 0 := Stand.of_body Bd
  have e0 : s₁.heap = h0 := by rw [← hh, Bd.state]; rfl
  have N0 := Fr.nil n0
  have hret := Bd.returns
  have hlk := Bd.notSynchronized
  show Gz p e below s ({ frames := 1, cells := 0, slots := 0, locals := 16 } : Room).cells ({ frames := 1, cells := 0, slots := 0, locals := 16 } : Room).slots (Q_rmL40 Z a0 a1 ba k_ba v1 v2 v3 h0 n0) (s₁.setTop (entryFrame m #[(.ref a0), (.ref a1)] 4))
  refine Gz.enter (ef_rmL40 m a0 a1) ?_
  refine Gz.aloadN 1 X0 hx (dd d7_0) rfl rfl rfl ?_
  obtain ⟨c1, A1, q1, S1, N1, H1, G1⟩ := id V_ba
  have hin2 : ¬ ((0 : Int32) < 0 ∨ c1.slots.size ≤ ((0 : Int32)).toNatClampNeg) := inb_of S1 ⟨by decide, by decide⟩
  have hat2 : c1.slots[((0 : Int32)).toNatClampNeg]? = some (.int (0 : Int32)) := Has.at H1 hin2 rfl
  obtain ⟨cq3, kq3, q3a, q3b, q3c⟩ := isOf hZ e0 E_a0
  obtain ⟨_, _, ⟨T3, L3, k3, n3⟩, -, X3, ⟨Lc3, hQ3, l3, y3, z3⟩, st3⟩ := X0.virtualBack hx (y := ym1) (z := ym1) hown (mvT hZ (ww hw 44 rfl)) (mvT hZ (ww hw 28 rfl)) (notFace_of_selects (args := #[]) (mvT hZ (ww hw 30 rfl))) (mvT hZ (ww hw 30 rfl)) (mvT hZ (ww hw 29 rfl)) (by decide) (backOf (W := 0) (rmV1 l Z av0 hw [] a0 ba (0 : Int32) (4 : Int32) c1 (0 : Int32) h0 n0 Z0 E_a0 F_bytes_a0 F_position_a0 F_end_a0 g_a0 A1 ne_ba_a0 hin2 hat2 (by decide : ¬ ((0 : Int32) = (4 : Int32))) (by decide : ¬ ((0 : Int32) < (0 : Int32)))) hZ (ww hw 31 rfl) (ww hw 4 rfl) (by decide) (by decide)) q3a q3c (g := (mkF m 1 #[.val (.ref a0), .val (.ref a1), .unset, .unset] [(.ref a0)])) rfl (by rw [hml]; rfl) (Steps.refl _) (argsL := []) (rest := []) (lenOf pd_1 rfl) rfl (Nat.le_refl _) (dd d7_1) (fun _ _ => ⟨rfl, e0, (by decide : 0 + 0 ≤ _), (by decide : 0 + 0 ≤ _)⟩)
  dsimp only [Pt.U, Pt.locs, Pt.cells, Pt.slots, Q_rmV1] at X3 l3 y3 z3 st3 hQ3
  subst l3 y3 z3
  obtain ⟨rfl, N3q, K3q, QE3_0, QF3_0, QF3_1, QF3_2⟩ := hQ3
  have N3 := Fr.app N0 N3q
  have f3_E_a0 := Exa.keep E_a0 K3q
  have f3_V_ba := Arv.keep V_ba K3q (ninS ne_ba_a0 nin0)
  have SZ3 := Nat.le_trans Z0 K3q.1
  have K3 := Keep.trans (Keep.refl h0 [a0]) K3q (allS (Or.inl (List.mem_of_getElem? (i := 0) rfl)) all0)
  replace QF3_1 : Fld Z T3.heap a0 "com/example/bad_status/badstatus/model/ProtoReader" "position" "I" (.int (1 : Int32)) := QF3_1
  refine Gz.tr st3 ?_
  refine Gz.lstoreN 5 #[.val (.ref a0), .val (.ref a1), .val (.long ((0 : Int64) ||| ((((0 : Int32) &&& (127 : Int32)).toInt64) <<< ((0 : Int32) &&& 0x3f).toInt64))), .second] X3 hx (dd d7_4) rfl rfl ?_
  refine Gz.lloadN 6 X3 hx (dd d7_5) rfl rfl ?_
  refine Gz.lconst 7 (0 : Int64) X3 hx (dd d7_6) rfl rfl ?_
  refine Gz.lcmp 8 X3 hx (dd d7_7) rfl ?_
  refine Gz.ifNo 11 X3 hx (dd d7_8) ((if0 _ _).trans (flt (fun q => ((by decide) : ¬ (((0 : Int64) ||| ((((0 : Int32) &&& (127 : Int32)).toInt64) <<< ((0 : Int32) &&& 0x3f).toInt64)) < (0 : Int64))) ((lw_lt _ _).mp q))).1) rfl ?_
  refine Gz.lloadN 12 X3 hx (dd d7_11) rfl rfl ?_
  refine Gz.aloadN 13 X3 hx (dd d7_12) rfl rfl rfl ?_
  refine Gz.getF 16 X3 hx hZ hown (dd d7_13) (host := "") (Or.inl (ww hw 18 rfl)) Via.refl rfl QF3_2 rfl fun T4 X4 e4 => ?_
  refine Gz.aloadN 17 X4 hx (dd d7_16) rfl rfl rfl ?_
  refine Gz.getF 20 X4 hx hZ hown (dd d7_17) (host := "") (Or.inl (ww hw 16 rfl)) Via.refl e4 QF3_1 rfl fun T5 X5 e5 => ?_
  refine Gz.isubV 21 (3 : Int32) X5 hx (dd d7_20) rfl rfl ?_
  refine Gz.i2lV 22 (3 : Int64) X5 hx (dd d7_21) rfl rfl ?_
  refine Gz.lcmp 23 X5 hx (dd d7_22) rfl ?_
  refine Gz.ifYes 31 X5 hx (dd d7_23) ((if0 _ _).trans (flt (fun q => ((by decide) : ¬ ((3 : Int64) < ((0 : Int64) ||| ((((0 : Int32) &&& (127 : Int32)).toInt64) <<< ((0 : Int32) &&& 0x3f).toInt64)))) ((lw_gt _ _).mp q))).2.2.2) (by decide) (by decide) ?_
  refine Gz.lloadN 32 X5 hx (dd d7_31) rfl rfl ?_
  refine Gz.l2i 33 X5 hx (dd d7_32) rfl ?_
  show Gz p e below s _ _ _ (T5.setTop (mkF m 33 #[.val (.ref a0), .val (.ref a1), .val (.long ((0 : Int64) ||| ((((0 : Int32) &&& (127 : Int32)).toInt64) <<< ((0 : Int32) &&& 0x3f).toInt64))), .second] [(.int (((0 : Int64) ||| ((((0 : Int32) &&& (127 : Int32)).toInt64) <<< ((0 : Int32) &&& 0x3f).toInt64)).toInt32))]))
  rw [show (((0 : Int64) ||| ((((0 : Int32) &&& (127 : Int32)).toInt64) <<< ((0 : Int32) &&& 0x3f).toInt64)).toInt32) = (0 : Int32) from by decide]
  refine Gz.fin X5 (v := some (.int (0 : Int32))) (fun h => by rw [hret] at h; cases h) hlk (by decide) (by decide) (fun fs hr => retI X5 hx hret (dd d7_33) hr) ?_
  rw [e5]
  exact ⟨rfl, N3, K3, QE3_0, QF3_0, QF3_1, QF3_2⟩
theorem ef_rmM40 (m : MethodId) (a0 : Addr) (a1 : Addr) : entryFrame m #[(.ref a0), (.ref a1)] 4 = mkF m 0 #[.val (.ref a0), .val (.ref a1), .unset, .unset] [] := by first | (simp [entryFrame, mkF, argsToLocals, Value.category]; done) | rfl
def Q_rmM40 (Z : State) (a0 : Addr) (a1 : Addr) (ba : Addr) (k_ba : ClassId) (v1 : Int32) (v2 : Int32) (v3 : Int32) (h0 : Heap) (n0 : Nat) (v : Option Value) (h : Heap) (L : List Loc) : Prop := ∃ rd : Addr, v = some (.ref rd) ∧ Fr n0 L ∧ Keep h0 h [a0] ∧ Exa Z h a0 "com/example/bad_status/badstatus/model/ProtoReader" ∧ Fld Z h a0 "com/example/bad_status/badstatus/model/ProtoReader" "bytes" "[B" (.ref ba) ∧ Fld Z h a0 "com/example/bad_status/badstatus/model/ProtoReader" "position" "I" (.int (1 : Int32)) ∧ Fld Z h a0 "com/example/bad_status/badstatus/model/ProtoReader" "end" "I" (.int (4 : Int32)) ∧ n0 ≤ rd ∧ h0.size ≤ rd ∧ Exa Z h rd "com/example/bad_status/badstatus/model/ProtoReader" ∧ Fld Z h rd "com/example/bad_status/badstatus/model/ProtoReader" "bytes" "[B" (.ref ba) ∧ Fld Z h rd "com/example/bad_status/badstatus/model/ProtoReader" "position" "I" (.int (1 : Int32)) ∧ Fld Z h rd "com/example/bad_status/badstatus/model/ProtoReader" "end" "I" (.int (1 : Int32))
set_option maxRecDepth 65536 in
set_option maxHeartbeats 40000000 in
theorem rmM40 (l : Launch) (Z : State) (av0 : Array Value) (hw : ∀ d ∈ tables_1, d.before av0 Z = true) (ws : List Jvm.Cond) (a0 : Addr) (a1 : Addr) (ba : Addr) (k_ba : ClassId) (v1 : Int32) (v2 : Int32) (v3 : Int32) (h0 : Heap) (n0 : Nat) (Z0 : n0 ≤ h0.size) (E_a0 : Exa Z h0 a0 "com/example/bad_status/badstatus/model/ProtoReader") (F_bytes_a0 : Fld Z h0 a0 "com/example/bad_status/badstatus/model/ProtoReader" "bytes" "[B" (.ref ba)) (F_position_a0 : Fld Z h0 a0 "com/example/bad_status/badstatus/model/ProtoReader" "position" "I" (.int (0 : Int32))) (F_end_a0 : Fld Z h0 a0 "com/example/bad_status/badstatus/model/ProtoReader" "end" "I" (.int (4 : Int32))) (g_a0 : n0 ≤ a0) (V_ba : Arv Z h0 ba k_ba .byte (4 : Int32) [(.int (0 : Int32)), (.int v1), (.int v2), (.int v3)] (.int (0 : Int32))) (ne_ba_a0 : ba ≠ a0) :
    MetFree l (⟨"com/example/bad_status/badstatus/model/ProtoReader", "readMessage", "(Lcom/example/bad_status/badstatus/model/Place;)Lcom/example/bad_status/badstatus/model/ProtoReader;"⟩ : MethodName) (head1 (Jvm.Cond.code (⟨"com/example/bad_status/badstatus/model/ProtoReader", "readMessage", "(Lcom/example/bad_status/badstatus/model/Place;)Lcom/example/bad_status/badstatus/model/ProtoReader;"⟩ : MethodName) prog_17_method_9_code 4 (some (.object "com/example/bad_status/badstatus/model/ProtoReader")) :: ws) ({ frames := 2, cells := 1, slots := 4, locals := 31 } : Room)) (fun a U => a = #[(.ref a0), (.ref a1)] ∧ Z.Warmed39 U.vm ∧ U.heap = h0) (fun _ _ _ _ _ => True) (fun _ U o U' => ∃ v L, o = .returned v ∧ Q_rmM40 Z a0 a1 ba k_ba v1 v2 v3 h0 n0 v U'.heap L ∧ FrameEnd U o U' L ({ frames := 2, cells := 1, slots := 4, locals := 31 } : Room).cells ({ frames := 2, cells := 1, slots := 4, locals := 31 } : Room).slots) := by
  refine MetFree.of_bodySF (plainFor_of_name pn_0) hisR ?_
  intro p e s m args below meth c s₁ Bd hml0 hP hK
  obtain ⟨rfl, hZ, hh⟩ := hP
  have hx := Bd.exec
  have hby := Bd.bytes
  have hml : c.maxLocals = 4 := hml0
  have dd : ∀ {pc : Nat} {r : Except DecodeError (Instr × Nat)}, decode prog_17_method_9_code pc = r → decode c.code pc = r := fun q => hb hby q
  have hown : s.vm.findClass "com/example/bad_status/badstatus/model/ProtoReader" = some m.cls := findClass_of_methodNamed Bd.named
  have hnm := (name_of_methodNamed Bd.named Bd.method).1
  have X0 : Stand p l e ({ frames := 2, cells := 1, slots := 4, locals := 31 } : Room) s m #[(.ref a0), (.ref a1)] below meth c s₁ [] 0 0 := Stand.of_body Bd
  have e0 : s₁.heap = h0 := by rw [← hh, Bd.state]; rfl
  have N0 := Fr.nil n0
  have hret := Bd.returns
  have hlk := Bd.notSynchronized
  show Gz p e below s ({ frames := 2, cells := 1, slots := 4, locals := 31 } : Room).cells ({ frames := 2, cells := 1, slots := 4, locals := 31 } : Room).slots (Q_rmM40 Z a0 a1 ba k_ba v1 v2 v3 h0 n0) (s₁.setTop (entryFrame m #[(.ref a0), (.ref a1)] 4))
  refine Gz.enter (ef_rmM40 m a0 a1) ?_
  refine Gz.aloadN 1 X0 hx (dd d6_0) rfl rfl rfl ?_
  refine Gz.aloadN 2 X0 hx (dd d6_1) rfl rfl rfl ?_
  obtain ⟨cq1, q1, q1'⟩ := E_a0.cell
  obtain ⟨_, _, ⟨T1, L1, k1, n1⟩, -, X1, ⟨Lc1, hQ1, l1, y1, z1⟩, st1⟩ := X0.privateBack hx (y := ym2) hown (mvT hZ (ww hw 40 rfl)) (mvT hZ (ww hw 41 rfl)) (own_selp (y := ym2) (y' := ym3) rfl (mvT hZ (ww hw 25 rfl)) (mvT hZ (ww hw 24 rfl)) (mvT hZ (ww hw 41 rfl)) (Cond.privateMethod_at (mvP hZ (ww hw 42 rfl) (args := #[]))) (by decide)) (Cond.privateMethod_at (mvP hZ (ww hw 42 rfl) (args := #[]))) (mvT hZ (ww hw 43 rfl)) (by decide) (backOf (W := 0) (rmL40 l Z av0 hw [] a0 a1 ba k_ba v1 v2 v3 h0 n0 Z0 E_a0 F_bytes_a0 F_position_a0 F_end_a0 g_a0 V_ba ne_ba_a0) hZ (ww hw 43 rfl) (ww hw 4 rfl) (by decide) (by decide)) (g := (mkF m 2 #[.val (.ref a0), .val (.ref a1), .unset, .unset] [(.ref a1), (.ref a0)])) rfl (by rw [hml]; rfl) (Steps.refl _) (a := a0) (by rw [e0]; exact q1) q1' (argsL := [(.ref a1)]) (rest := []) (lenOf pd_2 rfl) rfl (Nat.le_refl _) (dd d6_2) (fun _ _ => ⟨rfl, e0, (by decide : 0 + 0 ≤ _), (by decide : 0 + 0 ≤ _)⟩)
  dsimp only [Pt.U, Pt.locs, Pt.cells, Pt.slots, Q_rmL40] at X1 l1 y1 z1 st1 hQ1
  subst l1 y1 z1
  obtain ⟨rfl, N1q, K1q, QE1_0, QF1_0, QF1_1, QF1_2⟩ := hQ1
  have N1 := Fr.app N0 N1q
  have f1_E_a0 := Exa.keep E_a0 K1q
  have f1_V_ba := Arv.keep V_ba K1q (ninS ne_ba_a0 nin0)
  have SZ1 := Nat.le_trans Z0 K1q.1
  have K1 := Keep.trans (Keep.refl h0 [a0]) K1q (allS (Or.inl (List.mem_of_getElem? (i := 0) rfl)) all0)
  refine Gz.tr st1 ?_
  refine Gz.istoreN 6 #[.val (.ref a0), .val (.ref a1), .val (.int (0 : Int32)), .unset] X1 hx (dd d6_5) rfl rfl ?_
  obtain ⟨T2, h2, X2, e2, E2, A2, D2, -, st2⟩ := newO X1 hx hZ hown (ww hw 45 rfl) (ww hw 3 rfl) (ww hw 4 rfl) rfl (g := (mkF m 6 #[.val (.ref a0), .val (.ref a1), .val (.int (0 : Int32)), .unset] [])) rfl (dd d6_6) (by decide) (by decide)
  obtain ⟨b2, g2⟩ : ∃ z, z = T1.heap.size := ⟨_, rfl⟩
  rw [← g2] at A2 D2 st2
  have ne_a0_b2 : a0 ≠ b2 := Nat.ne_of_lt (Nat.lt_of_lt_of_le (QE1_0).lt (Nat.le_of_eq g2.symm))
  have ne_ba_b2 : ba ≠ b2 := Nat.ne_of_lt (Nat.lt_of_lt_of_le (f1_V_ba).lt (Nat.le_of_eq g2.symm))
  have g_b2 : n0 ≤ b2 := Nat.le_trans SZ1 (Nat.le_of_eq g2.symm)
  have SZ2 : n0 ≤ h2.size := Nat.le_trans SZ1 E2.1
  have sz_b2 : h0.size ≤ b2 := Nat.le_trans K1.1 (Nat.le_of_eq g2.symm)
  have K2 := Keep.ext K1 E2
  have f2_E_a0 := Exa.ext E2 QE1_0
  have f2_V_ba := Arv.ext f1_V_ba E2
  have f2_F_bytes_a0 := Fld.ext E2 QF1_0
  have f2_F_position_a0 := Fld.ext E2 QF1_1
  have f2_F_end_a0 := Fld.ext E2 QF1_2
  have F_bytes_b2 : Fld Z h2 b2 "com/example/bad_status/badstatus/model/ProtoReader" "bytes" "[B" .null := D2 (Or.inr (ww hw 15 rfl)) (ty := (.array .byte)) (by decide)
  have F_position_b2 : Fld Z h2 b2 "com/example/bad_status/badstatus/model/ProtoReader" "position" "I" (.int (0 : Int32)) := D2 (Or.inl (ww hw 17 rfl)) (ty := .int) (by decide)
  have F_end_b2 : Fld Z h2 b2 "com/example/bad_status/badstatus/model/ProtoReader" "end" "I" (.int (0 : Int32)) := D2 (Or.inr (ww hw 19 rfl)) (ty := .int) (by decide)
  have F_place_b2 : Fld Z h2 b2 "com/example/bad_status/badstatus/model/ProtoReader" "place" "Lcom/example/bad_status/badstatus/model/Place;" .null := D2 (Or.inr (ww hw 21 rfl)) (ty := (.object "com/example/bad_status/badstatus/model/Place")) (by decide)
  refine Gz.st st2 ?_
  refine Gz.dup 10 X2 hx (dd d6_9) rfl rfl ?_
  refine Gz.aloadN 11 X2 hx (dd d6_10) rfl rfl rfl ?_
  refine Gz.getF 14 X2 hx hZ hown (dd d6_11) (host := "") (Or.inl (ww hw 14 rfl)) Via.refl e2 f2_F_bytes_a0 rfl fun T3 X3 e3 => ?_
  refine Gz.aloadN 15 X3 hx (dd d6_14) rfl rfl rfl ?_
  refine Gz.getF 18 X3 hx hZ hown (dd d6_15) (host := "") (Or.inl (ww hw 16 rfl)) Via.refl e3 f2_F_position_a0 rfl fun T4 X4 e4 => ?_
  refine Gz.aloadN 19 X4 hx (dd d6_18) rfl rfl rfl ?_
  refine Gz.getF 22 X4 hx hZ hown (dd d6_19) (host := "") (Or.inl (ww hw 16 rfl)) Via.refl e4 f2_F_position_a0 rfl fun T5 X5 e5 => ?_
  refine Gz.iloadN 23 X5 hx (dd d6_22) rfl rfl ?_
  refine Gz.iaddV 24 (1 : Int32) X5 hx (dd d6_23) rfl rfl ?_
  refine Gz.aloadN 25 X5 hx (dd d6_24) rfl rfl rfl ?_
  obtain ⟨_, _, ⟨T6, L6, k6, n6⟩, -, X6, ⟨Lc6, hQ6, l6, y6, z6⟩, st6⟩ := X5.specialBack hx (y := ym0) rfl hown (mvT hZ (ww hw 8 rfl)) (mvT hZ (ww hw 9 rfl)) (mvT hZ (ww hw 10 rfl)) (by decide) (backOf (W := 1) (rmI2 l Z av0 hw [] b2 ba (1 : Int32) (1 : Int32) a1  h2 n0 SZ2 A2 F_bytes_b2 F_position_b2 F_end_b2 F_place_b2 g_b2) hZ (ww hw 10 rfl) (ww hw 4 rfl) (by decide) (by decide)) (g := (mkF m 25 #[.val (.ref a0), .val (.ref a1), .val (.int (0 : Int32)), .unset] [(.ref a1), (.int (1 : Int32)), (.int (1 : Int32)), (.ref ba), (.ref b2), (.ref b2)])) rfl (by rw [hml]; rfl) (Steps.refl _) (a := b2) (argsL := [(.ref ba), (.int (1 : Int32)), (.int (1 : Int32)), (.ref a1)]) (rest := [(.ref b2)]) (lenOf pd_0 rfl) rfl (Nat.le_refl _) (dd d6_25) (fun _ _ => ⟨rfl, e5, (by decide : 1 + 0 ≤ _), (by decide : 4 + 0 ≤ _)⟩)
  dsimp only [Pt.U, Pt.locs, Pt.cells, Pt.slots, Q_rmI2] at X6 l6 y6 z6 st6 hQ6
  subst l6 y6 z6
  obtain ⟨rfl, N6q, K6q, QE6_0, QF6_0, QF6_1, QF6_2, QF6_3⟩ := hQ6
  have N6 := Fr.app N1 N6q
  have f6_E_a0 := Exa.keep f2_E_a0 K6q
  have f6_V_ba := Arv.keep f2_V_ba K6q (ninS ne_ba_b2 nin0)
  have f6_F_bytes_a0 := Fld.keep f2_F_bytes_a0 K6q (ninS ne_a0_b2 nin0)
  have f6_F_position_a0 := Fld.keep f2_F_position_a0 K6q (ninS ne_a0_b2 nin0)
  have f6_F_end_a0 := Fld.keep f2_F_end_a0 K6q (ninS ne_a0_b2 nin0)
  have f6_Eb2 := Exa.keep A2 K6q
  have SZ6 := Nat.le_trans SZ2 K6q.1
  have K6 := Keep.trans K2 K6q (allS (Or.inr sz_b2) all0)
  refine Gz.tr st6 ?_
  refine Gz.astoreN 29 #[.val (.ref a0), .val (.ref a1), .val (.int (0 : Int32)), .val (.ref b2)] X6 hx (dd d6_28) rfl rfl rfl ?_
  refine Gz.aloadN 30 X6 hx (dd d6_29) rfl rfl rfl ?_
  refine Gz.dup 31 X6 hx (dd d6_30) rfl rfl ?_
  refine Gz.getF 34 X6 hx hZ hown (dd d6_31) (host := "") (Or.inl (ww hw 16 rfl)) Via.refl rfl f6_F_position_a0 rfl fun T7 X7 e7 => ?_
  refine Gz.iloadN 35 X7 hx (dd d6_34) rfl rfl ?_
  refine Gz.iaddV 36 (1 : Int32) X7 hx (dd d6_35) rfl rfl ?_
  refine Gz.putF 39 X7 hx hZ hown .int (dd d6_36) (host := "") (Or.inl (ww hw 16 rfl)) Via.refl e7 f6_F_position_a0 f6_E_a0 (Or.inl (ww hw 17 rfl)) (ww hw 3 rfl) (by decide) rfl rfl rfl fun T8 h8 X8 e8 W8 => ?_
  have f8_E_a0 := Exa.wr W8 f6_E_a0
  have f8_V_ba := Arv.other f6_V_ba W8 ne_ba_a0
  have f8_F_bytes_a0 := Fld.other W8 f6_F_bytes_a0 (Or.inr (slot_ne (Or.inr (ww hw 15 rfl)) (Or.inl (ww hw 17 rfl)) (by decide) (t := (.array .byte)) (t' := .int) (by decide) (by decide)))
  have f8_F_end_a0 := Fld.other W8 f6_F_end_a0 (Or.inr (slot_ne (Or.inr (ww hw 19 rfl)) (Or.inl (ww hw 17 rfl)) (by decide) (t := .int) (t' := .int) (by decide) (by decide)))
  have f8_E_b2 := Exa.wr W8 QE6_0
  have f8_F_bytes_b2 := Fld.other W8 QF6_0 (Or.inl (Ne.symm ne_a0_b2))
  have f8_F_position_b2 := Fld.other W8 QF6_1 (Or.inl (Ne.symm ne_a0_b2))
  have f8_F_end_b2 := Fld.other W8 QF6_2 (Or.inl (Ne.symm ne_a0_b2))
  have f8_F_place_b2 := Fld.other W8 QF6_3 (Or.inl (Ne.symm ne_a0_b2))
  have f8_F_position_a0 := Fld.same W8 f6_F_position_a0
  have N8 := Fr.snoc X8 N6 g_a0
  have SZ8 : n0 ≤ h8.size := Nat.le_trans SZ6 (Keep.of_wr W8).1
  have K8 := Keep.wr K6 W8 (Or.inl (List.mem_of_getElem? (i := 0) rfl))
  refine Gz.aloadN 40 X8 hx (dd d6_39) rfl rfl rfl ?_
  refine Gz.fin X8 (v := some (.ref b2)) (fun h => by rw [hret] at h; cases h) hlk (by decide) (by decide) (fun fs hr => retA X8 hx hret (dd d6_40) hr rfl rfl) ?_
  rw [e8]
  exact ⟨b2, rfl, N8, K8, f8_E_a0, f8_F_bytes_a0, f8_F_position_a0, f8_F_end_a0, g_b2, sz_b2, f8_E_b2, f8_F_bytes_b2, f8_F_position_b2, f8_F_end_b2⟩
theorem ef_rmL41 (m : MethodId) (a0 : Addr) (a1 : Addr) : entryFrame m #[(.ref a0), (.ref a1)] 4 = mkF m 0 #[.val (.ref a0), .val (.ref a1), .unset, .unset] [] := by first | (simp [entryFrame, mkF, argsToLocals, Value.category]; done) | rfl
def Q_rmL41 (Z : State) (a0 : Addr) (a1 : Addr) (ba : Addr) (k_ba : ClassId) (v1 : Int32) (v2 : Int32) (v3 : Int32) (h0 : Heap) (n0 : Nat) (v : Option Value) (h : Heap) (L : List Loc) : Prop := v = some (.int (1 : Int32)) ∧ Fr n0 L ∧ Keep h0 h [a0] ∧ Exa Z h a0 "com/example/bad_status/badstatus/model/ProtoReader" ∧ Fld Z h a0 "com/example/bad_status/badstatus/model/ProtoReader" "bytes" "[B" (.ref ba) ∧ Fld Z h a0 "com/example/bad_status/badstatus/model/ProtoReader" "position" "I" (.int (1 : Int32)) ∧ Fld Z h a0 "com/example/bad_status/badstatus/model/ProtoReader" "end" "I" (.int (4 : Int32))
set_option maxRecDepth 65536 in
set_option maxHeartbeats 40000000 in
theorem rmL41 (l : Launch) (Z : State) (av0 : Array Value) (hw : ∀ d ∈ tables_1, d.before av0 Z = true) (ws : List Jvm.Cond) (a0 : Addr) (a1 : Addr) (ba : Addr) (k_ba : ClassId) (v1 : Int32) (v2 : Int32) (v3 : Int32) (h0 : Heap) (n0 : Nat) (Z0 : n0 ≤ h0.size) (E_a0 : Exa Z h0 a0 "com/example/bad_status/badstatus/model/ProtoReader") (F_bytes_a0 : Fld Z h0 a0 "com/example/bad_status/badstatus/model/ProtoReader" "bytes" "[B" (.ref ba)) (F_position_a0 : Fld Z h0 a0 "com/example/bad_status/badstatus/model/ProtoReader" "position" "I" (.int (0 : Int32))) (F_end_a0 : Fld Z h0 a0 "com/example/bad_status/badstatus/model/ProtoReader" "end" "I" (.int (4 : Int32))) (g_a0 : n0 ≤ a0) (V_ba : Arv Z h0 ba k_ba .byte (4 : Int32) [(.int (1 : Int32)), (.int v1), (.int v2), (.int v3)] (.int (0 : Int32))) (ne_ba_a0 : ba ≠ a0) :
    MetFree l (⟨"com/example/bad_status/badstatus/model/ProtoReader", "readLength", "(Lcom/example/bad_status/badstatus/model/Place;)I"⟩ : MethodName) (head1 (Jvm.Cond.code (⟨"com/example/bad_status/badstatus/model/ProtoReader", "readLength", "(Lcom/example/bad_status/badstatus/model/Place;)I"⟩ : MethodName) prog_17_method_14_code 4 (some .int) :: ws) ({ frames := 1, cells := 0, slots := 0, locals := 16 } : Room)) (fun a U => a = #[(.ref a0), (.ref a1)] ∧ Z.Warmed39 U.vm ∧ U.heap = h0) (fun _ _ _ _ _ => True) (fun _ U o U' => ∃ v L, o = .returned v ∧ Q_rmL41 Z a0 a1 ba k_ba v1 v2 v3 h0 n0 v U'.heap L ∧ FrameEnd U o U' L ({ frames := 1, cells := 0, slots := 0, locals := 16 } : Room).cells ({ frames := 1, cells := 0, slots := 0, locals := 16 } : Room).slots) := by
  refine MetFree.of_bodySF (plainFor_of_name pn_0) hisR ?_
  intro p e s m args below meth c s₁ Bd hml0 hP hK
  obtain ⟨rfl, hZ, hh⟩ := hP
  have hx := Bd.exec
  have hby := Bd.bytes
  have hml : c.maxLocals = 4 := hml0
  have dd : ∀ {pc : Nat} {r : Except DecodeError (Instr × Nat)}, decode prog_17_method_14_code pc = r → decode c.code pc = r := fun q => hb hby q
  have hown : s.vm.findClass "com/example/bad_status/badstatus/model/ProtoReader" = some m.cls := findClass_of_methodNamed Bd.named
  have hnm := (name_of_methodNamed Bd.named Bd.method).1
  have X0 : Stand p l e ({ frames := 1, cells := 0, slots := 0, locals := 16 } : Room) s m #[(.ref a0), (.ref a1)] below meth c s₁ [] 0 0 := Stand.of_body Bd
  have e0 : s₁.heap = h0 := by rw [← hh, Bd.state]; rfl
  have N0 := Fr.nil n0
  have hret := Bd.returns
  have hlk := Bd.notSynchronized
  show Gz p e below s ({ frames := 1, cells := 0, slots := 0, locals := 16 } : Room).cells ({ frames := 1, cells := 0, slots := 0, locals := 16 } : Room).slots (Q_rmL41 Z a0 a1 ba k_ba v1 v2 v3 h0 n0) (s₁.setTop (entryFrame m #[(.ref a0), (.ref a1)] 4))
  refine Gz.enter (ef_rmL41 m a0 a1) ?_
  refine Gz.aloadN 1 X0 hx (dd d7_0) rfl rfl rfl ?_
  obtain ⟨c1, A1, q1, S1, N1, H1, G1⟩ := id V_ba
  have hin2 : ¬ ((0 : Int32) < 0 ∨ c1.slots.size ≤ ((0 : Int32)).toNatClampNeg) := inb_of S1 ⟨by decide, by decide⟩
  have hat2 : c1.slots[((0 : Int32)).toNatClampNeg]? = some (.int (1 : Int32)) := Has.at H1 hin2 rfl
  obtain ⟨cq3, kq3, q3a, q3b, q3c⟩ := isOf hZ e0 E_a0
  obtain ⟨_, _, ⟨T3, L3, k3, n3⟩, -, X3, ⟨Lc3, hQ3, l3, y3, z3⟩, st3⟩ := X0.virtualBack hx (y := ym1) (z := ym1) hown (mvT hZ (ww hw 44 rfl)) (mvT hZ (ww hw 28 rfl)) (notFace_of_selects (args := #[]) (mvT hZ (ww hw 30 rfl))) (mvT hZ (ww hw 30 rfl)) (mvT hZ (ww hw 29 rfl)) (by decide) (backOf (W := 0) (rmV1 l Z av0 hw [] a0 ba (0 : Int32) (4 : Int32) c1 (1 : Int32) h0 n0 Z0 E_a0 F_bytes_a0 F_position_a0 F_end_a0 g_a0 A1 ne_ba_a0 hin2 hat2 (by decide : ¬ ((0 : Int32) = (4 : Int32))) (by decide : ¬ ((1 : Int32) < (0 : Int32)))) hZ (ww hw 31 rfl) (ww hw 4 rfl) (by decide) (by decide)) q3a q3c (g := (mkF m 1 #[.val (.ref a0), .val (.ref a1), .unset, .unset] [(.ref a0)])) rfl (by rw [hml]; rfl) (Steps.refl _) (argsL := []) (rest := []) (lenOf pd_1 rfl) rfl (Nat.le_refl _) (dd d7_1) (fun _ _ => ⟨rfl, e0, (by decide : 0 + 0 ≤ _), (by decide : 0 + 0 ≤ _)⟩)
  dsimp only [Pt.U, Pt.locs, Pt.cells, Pt.slots, Q_rmV1] at X3 l3 y3 z3 st3 hQ3
  subst l3 y3 z3
  obtain ⟨rfl, N3q, K3q, QE3_0, QF3_0, QF3_1, QF3_2⟩ := hQ3
  have N3 := Fr.app N0 N3q
  have f3_E_a0 := Exa.keep E_a0 K3q
  have f3_V_ba := Arv.keep V_ba K3q (ninS ne_ba_a0 nin0)
  have SZ3 := Nat.le_trans Z0 K3q.1
  have K3 := Keep.trans (Keep.refl h0 [a0]) K3q (allS (Or.inl (List.mem_of_getElem? (i := 0) rfl)) all0)
  replace QF3_1 : Fld Z T3.heap a0 "com/example/bad_status/badstatus/model/ProtoReader" "position" "I" (.int (1 : Int32)) := QF3_1
  refine Gz.tr st3 ?_
  refine Gz.lstoreN 5 #[.val (.ref a0), .val (.ref a1), .val (.long ((0 : Int64) ||| ((((1 : Int32) &&& (127 : Int32)).toInt64) <<< ((0 : Int32) &&& 0x3f).toInt64))), .second] X3 hx (dd d7_4) rfl rfl ?_
  refine Gz.lloadN 6 X3 hx (dd d7_5) rfl rfl ?_
  refine Gz.lconst 7 (0 : Int64) X3 hx (dd d7_6) rfl rfl ?_
  refine Gz.lcmp 8 X3 hx (dd d7_7) rfl ?_
  refine Gz.ifNo 11 X3 hx (dd d7_8) ((if0 _ _).trans (flt (fun q => ((by decide) : ¬ (((0 : Int64) ||| ((((1 : Int32) &&& (127 : Int32)).toInt64) <<< ((0 : Int32) &&& 0x3f).toInt64)) < (0 : Int64))) ((lw_lt _ _).mp q))).1) rfl ?_
  refine Gz.lloadN 12 X3 hx (dd d7_11) rfl rfl ?_
  refine Gz.aloadN 13 X3 hx (dd d7_12) rfl rfl rfl ?_
  refine Gz.getF 16 X3 hx hZ hown (dd d7_13) (host := "") (Or.inl (ww hw 18 rfl)) Via.refl rfl QF3_2 rfl fun T4 X4 e4 => ?_
  refine Gz.aloadN 17 X4 hx (dd d7_16) rfl rfl rfl ?_
  refine Gz.getF 20 X4 hx hZ hown (dd d7_17) (host := "") (Or.inl (ww hw 16 rfl)) Via.refl e4 QF3_1 rfl fun T5 X5 e5 => ?_
  refine Gz.isubV 21 (3 : Int32) X5 hx (dd d7_20) rfl rfl ?_
  refine Gz.i2lV 22 (3 : Int64) X5 hx (dd d7_21) rfl rfl ?_
  refine Gz.lcmp 23 X5 hx (dd d7_22) rfl ?_
  refine Gz.ifYes 31 X5 hx (dd d7_23) ((if0 _ _).trans (flt (fun q => ((by decide) : ¬ ((3 : Int64) < ((0 : Int64) ||| ((((1 : Int32) &&& (127 : Int32)).toInt64) <<< ((0 : Int32) &&& 0x3f).toInt64)))) ((lw_gt _ _).mp q))).2.2.2) (by decide) (by decide) ?_
  refine Gz.lloadN 32 X5 hx (dd d7_31) rfl rfl ?_
  refine Gz.l2i 33 X5 hx (dd d7_32) rfl ?_
  show Gz p e below s _ _ _ (T5.setTop (mkF m 33 #[.val (.ref a0), .val (.ref a1), .val (.long ((0 : Int64) ||| ((((1 : Int32) &&& (127 : Int32)).toInt64) <<< ((0 : Int32) &&& 0x3f).toInt64))), .second] [(.int (((0 : Int64) ||| ((((1 : Int32) &&& (127 : Int32)).toInt64) <<< ((0 : Int32) &&& 0x3f).toInt64)).toInt32))]))
  rw [show (((0 : Int64) ||| ((((1 : Int32) &&& (127 : Int32)).toInt64) <<< ((0 : Int32) &&& 0x3f).toInt64)).toInt32) = (1 : Int32) from by decide]
  refine Gz.fin X5 (v := some (.int (1 : Int32))) (fun h => by rw [hret] at h; cases h) hlk (by decide) (by decide) (fun fs hr => retI X5 hx hret (dd d7_33) hr) ?_
  rw [e5]
  exact ⟨rfl, N3, K3, QE3_0, QF3_0, QF3_1, QF3_2⟩
theorem ef_rmM41 (m : MethodId) (a0 : Addr) (a1 : Addr) : entryFrame m #[(.ref a0), (.ref a1)] 4 = mkF m 0 #[.val (.ref a0), .val (.ref a1), .unset, .unset] [] := by first | (simp [entryFrame, mkF, argsToLocals, Value.category]; done) | rfl
def Q_rmM41 (Z : State) (a0 : Addr) (a1 : Addr) (ba : Addr) (k_ba : ClassId) (v1 : Int32) (v2 : Int32) (v3 : Int32) (h0 : Heap) (n0 : Nat) (v : Option Value) (h : Heap) (L : List Loc) : Prop := ∃ rd : Addr, v = some (.ref rd) ∧ Fr n0 L ∧ Keep h0 h [a0] ∧ Exa Z h a0 "com/example/bad_status/badstatus/model/ProtoReader" ∧ Fld Z h a0 "com/example/bad_status/badstatus/model/ProtoReader" "bytes" "[B" (.ref ba) ∧ Fld Z h a0 "com/example/bad_status/badstatus/model/ProtoReader" "position" "I" (.int (2 : Int32)) ∧ Fld Z h a0 "com/example/bad_status/badstatus/model/ProtoReader" "end" "I" (.int (4 : Int32)) ∧ n0 ≤ rd ∧ h0.size ≤ rd ∧ Exa Z h rd "com/example/bad_status/badstatus/model/ProtoReader" ∧ Fld Z h rd "com/example/bad_status/badstatus/model/ProtoReader" "bytes" "[B" (.ref ba) ∧ Fld Z h rd "com/example/bad_status/badstatus/model/ProtoReader" "position" "I" (.int (1 : Int32)) ∧ Fld Z h rd "com/example/bad_status/badstatus/model/ProtoReader" "end" "I" (.int (2 : Int32))
set_option maxRecDepth 65536 in
set_option maxHeartbeats 40000000 in
theorem rmM41 (l : Launch) (Z : State) (av0 : Array Value) (hw : ∀ d ∈ tables_1, d.before av0 Z = true) (ws : List Jvm.Cond) (a0 : Addr) (a1 : Addr) (ba : Addr) (k_ba : ClassId) (v1 : Int32) (v2 : Int32) (v3 : Int32) (h0 : Heap) (n0 : Nat) (Z0 : n0 ≤ h0.size) (E_a0 : Exa Z h0 a0 "com/example/bad_status/badstatus/model/ProtoReader") (F_bytes_a0 : Fld Z h0 a0 "com/example/bad_status/badstatus/model/ProtoReader" "bytes" "[B" (.ref ba)) (F_position_a0 : Fld Z h0 a0 "com/example/bad_status/badstatus/model/ProtoReader" "position" "I" (.int (0 : Int32))) (F_end_a0 : Fld Z h0 a0 "com/example/bad_status/badstatus/model/ProtoReader" "end" "I" (.int (4 : Int32))) (g_a0 : n0 ≤ a0) (V_ba : Arv Z h0 ba k_ba .byte (4 : Int32) [(.int (1 : Int32)), (.int v1), (.int v2), (.int v3)] (.int (0 : Int32))) (ne_ba_a0 : ba ≠ a0) :
    MetFree l (⟨"com/example/bad_status/badstatus/model/ProtoReader", "readMessage", "(Lcom/example/bad_status/badstatus/model/Place;)Lcom/example/bad_status/badstatus/model/ProtoReader;"⟩ : MethodName) (head1 (Jvm.Cond.code (⟨"com/example/bad_status/badstatus/model/ProtoReader", "readMessage", "(Lcom/example/bad_status/badstatus/model/Place;)Lcom/example/bad_status/badstatus/model/ProtoReader;"⟩ : MethodName) prog_17_method_9_code 4 (some (.object "com/example/bad_status/badstatus/model/ProtoReader")) :: ws) ({ frames := 2, cells := 1, slots := 4, locals := 31 } : Room)) (fun a U => a = #[(.ref a0), (.ref a1)] ∧ Z.Warmed39 U.vm ∧ U.heap = h0) (fun _ _ _ _ _ => True) (fun _ U o U' => ∃ v L, o = .returned v ∧ Q_rmM41 Z a0 a1 ba k_ba v1 v2 v3 h0 n0 v U'.heap L ∧ FrameEnd U o U' L ({ frames := 2, cells := 1, slots := 4, locals := 31 } : Room).cells ({ frames := 2, cells := 1, slots := 4, locals := 31 } : Room).slots) := by
  refine MetFree.of_bodySF (plainFor_of_name pn_0) hisR ?_
  intro p e s m args below meth c s₁ Bd hml0 hP hK
  obtain ⟨rfl, hZ, hh⟩ := hP
  have hx := Bd.exec
  have hby := Bd.bytes
  have hml : c.maxLocals = 4 := hml0
  have dd : ∀ {pc : Nat} {r : Except DecodeError (Instr × Nat)}, decode prog_17_method_9_code pc = r → decode c.code pc = r := fun q => hb hby q
  have hown : s.vm.findClass "com/example/bad_status/badstatus/model/ProtoReader" = some m.cls := findClass_of_methodNamed Bd.named
  have hnm := (name_of_methodNamed Bd.named Bd.method).1
  have X0 : Stand p l e ({ frames := 2, cells := 1, slots := 4, locals := 31 } : Room) s m #[(.ref a0), (.ref a1)] below meth c s₁ [] 0 0 := Stand.of_body Bd
  have e0 : s₁.heap = h0 := by rw [← hh, Bd.state]; rfl
  have N0 := Fr.nil n0
  have hret := Bd.returns
  have hlk := Bd.notSynchronized
  show Gz p e below s ({ frames := 2, cells := 1, slots := 4, locals := 31 } : Room).cells ({ frames := 2, cells := 1, slots := 4, locals := 31 } : Room).slots (Q_rmM41 Z a0 a1 ba k_ba v1 v2 v3 h0 n0) (s₁.setTop (entryFrame m #[(.ref a0), (.ref a1)] 4))
  refine Gz.enter (ef_rmM41 m a0 a1) ?_
  refine Gz.aloadN 1 X0 hx (dd d6_0) rfl rfl rfl ?_
  refine Gz.aloadN 2 X0 hx (dd d6_1) rfl rfl rfl ?_
  obtain ⟨cq1, q1, q1'⟩ := E_a0.cell
  obtain ⟨_, _, ⟨T1, L1, k1, n1⟩, -, X1, ⟨Lc1, hQ1, l1, y1, z1⟩, st1⟩ := X0.privateBack hx (y := ym2) hown (mvT hZ (ww hw 40 rfl)) (mvT hZ (ww hw 41 rfl)) (own_selp (y := ym2) (y' := ym3) rfl (mvT hZ (ww hw 25 rfl)) (mvT hZ (ww hw 24 rfl)) (mvT hZ (ww hw 41 rfl)) (Cond.privateMethod_at (mvP hZ (ww hw 42 rfl) (args := #[]))) (by decide)) (Cond.privateMethod_at (mvP hZ (ww hw 42 rfl) (args := #[]))) (mvT hZ (ww hw 43 rfl)) (by decide) (backOf (W := 0) (rmL41 l Z av0 hw [] a0 a1 ba k_ba v1 v2 v3 h0 n0 Z0 E_a0 F_bytes_a0 F_position_a0 F_end_a0 g_a0 V_ba ne_ba_a0) hZ (ww hw 43 rfl) (ww hw 4 rfl) (by decide) (by decide)) (g := (mkF m 2 #[.val (.ref a0), .val (.ref a1), .unset, .unset] [(.ref a1), (.ref a0)])) rfl (by rw [hml]; rfl) (Steps.refl _) (a := a0) (by rw [e0]; exact q1) q1' (argsL := [(.ref a1)]) (rest := []) (lenOf pd_2 rfl) rfl (Nat.le_refl _) (dd d6_2) (fun _ _ => ⟨rfl, e0, (by decide : 0 + 0 ≤ _), (by decide : 0 + 0 ≤ _)⟩)
  dsimp only [Pt.U, Pt.locs, Pt.cells, Pt.slots, Q_rmL41] at X1 l1 y1 z1 st1 hQ1
  subst l1 y1 z1
  obtain ⟨rfl, N1q, K1q, QE1_0, QF1_0, QF1_1, QF1_2⟩ := hQ1
  have N1 := Fr.app N0 N1q
  have f1_E_a0 := Exa.keep E_a0 K1q
  have f1_V_ba := Arv.keep V_ba K1q (ninS ne_ba_a0 nin0)
  have SZ1 := Nat.le_trans Z0 K1q.1
  have K1 := Keep.trans (Keep.refl h0 [a0]) K1q (allS (Or.inl (List.mem_of_getElem? (i := 0) rfl)) all0)
  refine Gz.tr st1 ?_
  refine Gz.istoreN 6 #[.val (.ref a0), .val (.ref a1), .val (.int (1 : Int32)), .unset] X1 hx (dd d6_5) rfl rfl ?_
  obtain ⟨T2, h2, X2, e2, E2, A2, D2, -, st2⟩ := newO X1 hx hZ hown (ww hw 45 rfl) (ww hw 3 rfl) (ww hw 4 rfl) rfl (g := (mkF m 6 #[.val (.ref a0), .val (.ref a1), .val (.int (1 : Int32)), .unset] [])) rfl (dd d6_6) (by decide) (by decide)
  obtain ⟨b2, g2⟩ : ∃ z, z = T1.heap.size := ⟨_, rfl⟩
  rw [← g2] at A2 D2 st2
  have ne_a0_b2 : a0 ≠ b2 := Nat.ne_of_lt (Nat.lt_of_lt_of_le (QE1_0).lt (Nat.le_of_eq g2.symm))
  have ne_ba_b2 : ba ≠ b2 := Nat.ne_of_lt (Nat.lt_of_lt_of_le (f1_V_ba).lt (Nat.le_of_eq g2.symm))
  have g_b2 : n0 ≤ b2 := Nat.le_trans SZ1 (Nat.le_of_eq g2.symm)
  have SZ2 : n0 ≤ h2.size := Nat.le_trans SZ1 E2.1
  have sz_b2 : h0.size ≤ b2 := Nat.le_trans K1.1 (Nat.le_of_eq g2.symm)
  have K2 := Keep.ext K1 E2
  have f2_E_a0 := Exa.ext E2 QE1_0
  have f2_V_ba := Arv.ext f1_V_ba E2
  have f2_F_bytes_a0 := Fld.ext E2 QF1_0
  have f2_F_position_a0 := Fld.ext E2 QF1_1
  have f2_F_end_a0 := Fld.ext E2 QF1_2
  have F_bytes_b2 : Fld Z h2 b2 "com/example/bad_status/badstatus/model/ProtoReader" "bytes" "[B" .null := D2 (Or.inr (ww hw 15 rfl)) (ty := (.array .byte)) (by decide)
  have F_position_b2 : Fld Z h2 b2 "com/example/bad_status/badstatus/model/ProtoReader" "position" "I" (.int (0 : Int32)) := D2 (Or.inl (ww hw 17 rfl)) (ty := .int) (by decide)
  have F_end_b2 : Fld Z h2 b2 "com/example/bad_status/badstatus/model/ProtoReader" "end" "I" (.int (0 : Int32)) := D2 (Or.inr (ww hw 19 rfl)) (ty := .int) (by decide)
  have F_place_b2 : Fld Z h2 b2 "com/example/bad_status/badstatus/model/ProtoReader" "place" "Lcom/example/bad_status/badstatus/model/Place;" .null := D2 (Or.inr (ww hw 21 rfl)) (ty := (.object "com/example/bad_status/badstatus/model/Place")) (by decide)
  refine Gz.st st2 ?_
  refine Gz.dup 10 X2 hx (dd d6_9) rfl rfl ?_
  refine Gz.aloadN 11 X2 hx (dd d6_10) rfl rfl rfl ?_
  refine Gz.getF 14 X2 hx hZ hown (dd d6_11) (host := "") (Or.inl (ww hw 14 rfl)) Via.refl e2 f2_F_bytes_a0 rfl fun T3 X3 e3 => ?_
  refine Gz.aloadN 15 X3 hx (dd d6_14) rfl rfl rfl ?_
  refine Gz.getF 18 X3 hx hZ hown (dd d6_15) (host := "") (Or.inl (ww hw 16 rfl)) Via.refl e3 f2_F_position_a0 rfl fun T4 X4 e4 => ?_
  refine Gz.aloadN 19 X4 hx (dd d6_18) rfl rfl rfl ?_
  refine Gz.getF 22 X4 hx hZ hown (dd d6_19) (host := "") (Or.inl (ww hw 16 rfl)) Via.refl e4 f2_F_position_a0 rfl fun T5 X5 e5 => ?_
  refine Gz.iloadN 23 X5 hx (dd d6_22) rfl rfl ?_
  refine Gz.iaddV 24 (2 : Int32) X5 hx (dd d6_23) rfl rfl ?_
  refine Gz.aloadN 25 X5 hx (dd d6_24) rfl rfl rfl ?_
  obtain ⟨_, _, ⟨T6, L6, k6, n6⟩, -, X6, ⟨Lc6, hQ6, l6, y6, z6⟩, st6⟩ := X5.specialBack hx (y := ym0) rfl hown (mvT hZ (ww hw 8 rfl)) (mvT hZ (ww hw 9 rfl)) (mvT hZ (ww hw 10 rfl)) (by decide) (backOf (W := 1) (rmI2 l Z av0 hw [] b2 ba (1 : Int32) (2 : Int32) a1  h2 n0 SZ2 A2 F_bytes_b2 F_position_b2 F_end_b2 F_place_b2 g_b2) hZ (ww hw 10 rfl) (ww hw 4 rfl) (by decide) (by decide)) (g := (mkF m 25 #[.val (.ref a0), .val (.ref a1), .val (.int (1 : Int32)), .unset] [(.ref a1), (.int (2 : Int32)), (.int (1 : Int32)), (.ref ba), (.ref b2), (.ref b2)])) rfl (by rw [hml]; rfl) (Steps.refl _) (a := b2) (argsL := [(.ref ba), (.int (1 : Int32)), (.int (2 : Int32)), (.ref a1)]) (rest := [(.ref b2)]) (lenOf pd_0 rfl) rfl (Nat.le_refl _) (dd d6_25) (fun _ _ => ⟨rfl, e5, (by decide : 1 + 0 ≤ _), (by decide : 4 + 0 ≤ _)⟩)
  dsimp only [Pt.U, Pt.locs, Pt.cells, Pt.slots, Q_rmI2] at X6 l6 y6 z6 st6 hQ6
  subst l6 y6 z6
  obtain ⟨rfl, N6q, K6q, QE6_0, QF6_0, QF6_1, QF6_2, QF6_3⟩ := hQ6
  have N6 := Fr.app N1 N6q
  have f6_E_a0 := Exa.keep f2_E_a0 K6q
  have f6_V_ba := Arv.keep f2_V_ba K6q (ninS ne_ba_b2 nin0)
  have f6_F_bytes_a0 := Fld.keep f2_F_bytes_a0 K6q (ninS ne_a0_b2 nin0)
  have f6_F_position_a0 := Fld.keep f2_F_position_a0 K6q (ninS ne_a0_b2 nin0)
  have f6_F_end_a0 := Fld.keep f2_F_end_a0 K6q (ninS ne_a0_b2 nin0)
  have f6_Eb2 := Exa.keep A2 K6q
  have SZ6 := Nat.le_trans SZ2 K6q.1
  have K6 := Keep.trans K2 K6q (allS (Or.inr sz_b2) all0)
  refine Gz.tr st6 ?_
  refine Gz.astoreN 29 #[.val (.ref a0), .val (.ref a1), .val (.int (1 : Int32)), .val (.ref b2)] X6 hx (dd d6_28) rfl rfl rfl ?_
  refine Gz.aloadN 30 X6 hx (dd d6_29) rfl rfl rfl ?_
  refine Gz.dup 31 X6 hx (dd d6_30) rfl rfl ?_
  refine Gz.getF 34 X6 hx hZ hown (dd d6_31) (host := "") (Or.inl (ww hw 16 rfl)) Via.refl rfl f6_F_position_a0 rfl fun T7 X7 e7 => ?_
  refine Gz.iloadN 35 X7 hx (dd d6_34) rfl rfl ?_
  refine Gz.iaddV 36 (2 : Int32) X7 hx (dd d6_35) rfl rfl ?_
  refine Gz.putF 39 X7 hx hZ hown .int (dd d6_36) (host := "") (Or.inl (ww hw 16 rfl)) Via.refl e7 f6_F_position_a0 f6_E_a0 (Or.inl (ww hw 17 rfl)) (ww hw 3 rfl) (by decide) rfl rfl rfl fun T8 h8 X8 e8 W8 => ?_
  have f8_E_a0 := Exa.wr W8 f6_E_a0
  have f8_V_ba := Arv.other f6_V_ba W8 ne_ba_a0
  have f8_F_bytes_a0 := Fld.other W8 f6_F_bytes_a0 (Or.inr (slot_ne (Or.inr (ww hw 15 rfl)) (Or.inl (ww hw 17 rfl)) (by decide) (t := (.array .byte)) (t' := .int) (by decide) (by decide)))
  have f8_F_end_a0 := Fld.other W8 f6_F_end_a0 (Or.inr (slot_ne (Or.inr (ww hw 19 rfl)) (Or.inl (ww hw 17 rfl)) (by decide) (t := .int) (t' := .int) (by decide) (by decide)))
  have f8_E_b2 := Exa.wr W8 QE6_0
  have f8_F_bytes_b2 := Fld.other W8 QF6_0 (Or.inl (Ne.symm ne_a0_b2))
  have f8_F_position_b2 := Fld.other W8 QF6_1 (Or.inl (Ne.symm ne_a0_b2))
  have f8_F_end_b2 := Fld.other W8 QF6_2 (Or.inl (Ne.symm ne_a0_b2))
  have f8_F_place_b2 := Fld.other W8 QF6_3 (Or.inl (Ne.symm ne_a0_b2))
  have f8_F_position_a0 := Fld.same W8 f6_F_position_a0
  have N8 := Fr.snoc X8 N6 g_a0
  have SZ8 : n0 ≤ h8.size := Nat.le_trans SZ6 (Keep.of_wr W8).1
  have K8 := Keep.wr K6 W8 (Or.inl (List.mem_of_getElem? (i := 0) rfl))
  refine Gz.aloadN 40 X8 hx (dd d6_39) rfl rfl rfl ?_
  refine Gz.fin X8 (v := some (.ref b2)) (fun h => by rw [hret] at h; cases h) hlk (by decide) (by decide) (fun fs hr => retA X8 hx hret (dd d6_40) hr rfl rfl) ?_
  rw [e8]
  exact ⟨b2, rfl, N8, K8, f8_E_a0, f8_F_bytes_a0, f8_F_position_a0, f8_F_end_a0, g_b2, sz_b2, f8_E_b2, f8_F_bytes_b2, f8_F_position_b2, f8_F_end_b2⟩
theorem ef_rmL42 (m : MethodId) (a0 : Addr) (a1 : Addr) : entryFrame m #[(.ref a0), (.ref a1)] 4 = mkF m 0 #[.val (.ref a0), .val (.ref a1), .unset, .unset] [] := by first | (simp [entryFrame, mkF, argsToLocals, Value.category]; done) | rfl
def Q_rmL42 (Z : State) (a0 : Addr) (a1 : Addr) (ba : Addr) (k_ba : ClassId) (v1 : Int32) (v2 : Int32) (v3 : Int32) (h0 : Heap) (n0 : Nat) (v : Option Value) (h : Heap) (L : List Loc) : Prop := v = some (.int (2 : Int32)) ∧ Fr n0 L ∧ Keep h0 h [a0] ∧ Exa Z h a0 "com/example/bad_status/badstatus/model/ProtoReader" ∧ Fld Z h a0 "com/example/bad_status/badstatus/model/ProtoReader" "bytes" "[B" (.ref ba) ∧ Fld Z h a0 "com/example/bad_status/badstatus/model/ProtoReader" "position" "I" (.int (1 : Int32)) ∧ Fld Z h a0 "com/example/bad_status/badstatus/model/ProtoReader" "end" "I" (.int (4 : Int32))
set_option maxRecDepth 65536 in
set_option maxHeartbeats 40000000 in
theorem rmL42 (l : Launch) (Z : State) (av0 : Array Value) (hw : ∀ d ∈ tables_1, d.before av0 Z = true) (ws : List Jvm.Cond) (a0 : Addr) (a1 : Addr) (ba : Addr) (k_ba : ClassId) (v1 : Int32) (v2 : Int32) (v3 : Int32) (h0 : Heap) (n0 : Nat) (Z0 : n0 ≤ h0.size) (E_a0 : Exa Z h0 a0 "com/example/bad_status/badstatus/model/ProtoReader") (F_bytes_a0 : Fld Z h0 a0 "com/example/bad_status/badstatus/model/ProtoReader" "bytes" "[B" (.ref ba)) (F_position_a0 : Fld Z h0 a0 "com/example/bad_status/badstatus/model/ProtoReader" "position" "I" (.int (0 : Int32))) (F_end_a0 : Fld Z h0 a0 "com/example/bad_status/badstatus/model/ProtoReader" "end" "I" (.int (4 : Int32))) (g_a0 : n0 ≤ a0) (V_ba : Arv Z h0 ba k_ba .byte (4 : Int32) [(.int (2 : Int32)), (.int v1), (.int v2), (.int v3)] (.int (0 : Int32))) (ne_ba_a0 : ba ≠ a0) :
    MetFree l (⟨"com/example/bad_status/badstatus/model/ProtoReader", "readLength", "(Lcom/example/bad_status/badstatus/model/Place;)I"⟩ : MethodName) (head1 (Jvm.Cond.code (⟨"com/example/bad_status/badstatus/model/ProtoReader", "readLength", "(Lcom/example/bad_status/badstatus/model/Place;)I"⟩ : MethodName) prog_17_method_14_code 4 (some .int) :: ws) ({ frames := 1, cells := 0, slots := 0, locals := 16 } : Room)) (fun a U => a = #[(.ref a0), (.ref a1)] ∧ Z.Warmed39 U.vm ∧ U.heap = h0) (fun _ _ _ _ _ => True) (fun _ U o U' => ∃ v L, o = .returned v ∧ Q_rmL42 Z a0 a1 ba k_ba v1 v2 v3 h0 n0 v U'.heap L ∧ FrameEnd U o U' L ({ frames := 1, cells := 0, slots := 0, locals := 16 } : Room).cells ({ frames := 1, cells := 0, slots := 0, locals := 16 } : Room).slots) := by
  refine MetFree.of_bodySF (plainFor_of_name pn_0) hisR ?_
  intro p e s m args below meth c s₁ Bd hml0 hP hK
  obtain ⟨rfl, hZ, hh⟩ := hP
  have hx := Bd.exec
  have hby := Bd.bytes
  have hml : c.maxLocals = 4 := hml0
  have dd : ∀ {pc : Nat} {r : Except DecodeError (Instr × Nat)}, decode prog_17_method_14_code pc = r → decode c.code pc = r := fun q => hb hby q
  have hown : s.vm.findClass "com/example/bad_status/badstatus/model/ProtoReader" = some m.cls := findClass_of_methodNamed Bd.named
  have hnm := (name_of_methodNamed Bd.named Bd.method).1
  have X0 : Stand p l e ({ frames := 1, cells := 0, slots := 0, locals := 16 } : Room) s m #[(.ref a0), (.ref a1)] below meth c s₁ [] 0 0 := Stand.of_body Bd
  have e0 : s₁.heap = h0 := by rw [← hh, Bd.state]; rfl
  have N0 := Fr.nil n0
  have hret := Bd.returns
  have hlk := Bd.notSynchronized
  show Gz p e below s ({ frames := 1, cells := 0, slots := 0, locals := 16 } : Room).cells ({ frames := 1, cells := 0, slots := 0, locals := 16 } : Room).slots (Q_rmL42 Z a0 a1 ba k_ba v1 v2 v3 h0 n0) (s₁.setTop (entryFrame m #[(.ref a0), (.ref a1)] 4))
  refine Gz.enter (ef_rmL42 m a0 a1) ?_
  refine Gz.aloadN 1 X0 hx (dd d7_0) rfl rfl rfl ?_
  obtain ⟨c1, A1, q1, S1, N1, H1, G1⟩ := id V_ba
  have hin2 : ¬ ((0 : Int32) < 0 ∨ c1.slots.size ≤ ((0 : Int32)).toNatClampNeg) := inb_of S1 ⟨by decide, by decide⟩
  have hat2 : c1.slots[((0 : Int32)).toNatClampNeg]? = some (.int (2 : Int32)) := Has.at H1 hin2 rfl
  obtain ⟨cq3, kq3, q3a, q3b, q3c⟩ := isOf hZ e0 E_a0
  obtain ⟨_, _, ⟨T3, L3, k3, n3⟩, -, X3, ⟨Lc3, hQ3, l3, y3, z3⟩, st3⟩ := X0.virtualBack hx (y := ym1) (z := ym1) hown (mvT hZ (ww hw 44 rfl)) (mvT hZ (ww hw 28 rfl)) (notFace_of_selects (args := #[]) (mvT hZ (ww hw 30 rfl))) (mvT hZ (ww hw 30 rfl)) (mvT hZ (ww hw 29 rfl)) (by decide) (backOf (W := 0) (rmV1 l Z av0 hw [] a0 ba (0 : Int32) (4 : Int32) c1 (2 : Int32) h0 n0 Z0 E_a0 F_bytes_a0 F_position_a0 F_end_a0 g_a0 A1 ne_ba_a0 hin2 hat2 (by decide : ¬ ((0 : Int32) = (4 : Int32))) (by decide : ¬ ((2 : Int32) < (0 : Int32)))) hZ (ww hw 31 rfl) (ww hw 4 rfl) (by decide) (by decide)) q3a q3c (g := (mkF m 1 #[.val (.ref a0), .val (.ref a1), .unset, .unset] [(.ref a0)])) rfl (by rw [hml]; rfl) (Steps.refl _) (argsL := []) (rest := []) (lenOf pd_1 rfl) rfl (Nat.le_refl _) (dd d7_1) (fun _ _ => ⟨rfl, e0, (by decide : 0 + 0 ≤ _), (by decide : 0 + 0 ≤ _)⟩)
  dsimp only [Pt.U, Pt.locs, Pt.cells, Pt.slots, Q_rmV1] at X3 l3 y3 z3 st3 hQ3
  subst l3 y3 z3
  obtain ⟨rfl, N3q, K3q, QE3_0, QF3_0, QF3_1, QF3_2⟩ := hQ3
  have N3 := Fr.app N0 N3q
  have f3_E_a0 := Exa.keep E_a0 K3q
  have f3_V_ba := Arv.keep V_ba K3q (ninS ne_ba_a0 nin0)
  have SZ3 := Nat.le_trans Z0 K3q.1
  have K3 := Keep.trans (Keep.refl h0 [a0]) K3q (allS (Or.inl (List.mem_of_getElem? (i := 0) rfl)) all0)
  replace QF3_1 : Fld Z T3.heap a0 "com/example/bad_status/badstatus/model/ProtoReader" "position" "I" (.int (1 : Int32)) := QF3_1
  refine Gz.tr st3 ?_
  refine Gz.lstoreN 5 #[.val (.ref a0), .val (.ref a1), .val (.long ((0 : Int64) ||| ((((2 : Int32) &&& (127 : Int32)).toInt64) <<< ((0 : Int32) &&& 0x3f).toInt64))), .second] X3 hx (dd d7_4) rfl rfl ?_
  refine Gz.lloadN 6 X3 hx (dd d7_5) rfl rfl ?_
  refine Gz.lconst 7 (0 : Int64) X3 hx (dd d7_6) rfl rfl ?_
  refine Gz.lcmp 8 X3 hx (dd d7_7) rfl ?_
  refine Gz.ifNo 11 X3 hx (dd d7_8) ((if0 _ _).trans (flt (fun q => ((by decide) : ¬ (((0 : Int64) ||| ((((2 : Int32) &&& (127 : Int32)).toInt64) <<< ((0 : Int32) &&& 0x3f).toInt64)) < (0 : Int64))) ((lw_lt _ _).mp q))).1) rfl ?_
  refine Gz.lloadN 12 X3 hx (dd d7_11) rfl rfl ?_
  refine Gz.aloadN 13 X3 hx (dd d7_12) rfl rfl rfl ?_
  refine Gz.getF 16 X3 hx hZ hown (dd d7_13) (host := "") (Or.inl (ww hw 18 rfl)) Via.refl rfl QF3_2 rfl fun T4 X4 e4 => ?_
  refine Gz.aloadN 17 X4 hx (dd d7_16) rfl rfl rfl ?_
  refine Gz.getF 20 X4 hx hZ hown (dd d7_17) (host := "") (Or.inl (ww hw 16 rfl)) Via.refl e4 QF3_1 rfl fun T5 X5 e5 => ?_
  refine Gz.isubV 21 (3 : Int32) X5 hx (dd d7_20) rfl rfl ?_
  refine Gz.i2lV 22 (3 : Int64) X5 hx (dd d7_21) rfl rfl ?_
  refine Gz.lcmp 23 X5 hx (dd d7_22) rfl ?_
  refine Gz.ifYes 31 X5 hx (dd d7_23) ((if0 _ _).trans (flt (fun q => ((by decide) : ¬ ((3 : Int64) < ((0 : Int64) ||| ((((2 : Int32) &&& (127 : Int32)).toInt64) <<< ((0 : Int32) &&& 0x3f).toInt64)))) ((lw_gt _ _).mp q))).2.2.2) (by decide) (by decide) ?_
  refine Gz.lloadN 32 X5 hx (dd d7_31) rfl rfl ?_
  refine Gz.l2i 33 X5 hx (dd d7_32) rfl ?_
  show Gz p e below s _ _ _ (T5.setTop (mkF m 33 #[.val (.ref a0), .val (.ref a1), .val (.long ((0 : Int64) ||| ((((2 : Int32) &&& (127 : Int32)).toInt64) <<< ((0 : Int32) &&& 0x3f).toInt64))), .second] [(.int (((0 : Int64) ||| ((((2 : Int32) &&& (127 : Int32)).toInt64) <<< ((0 : Int32) &&& 0x3f).toInt64)).toInt32))]))
  rw [show (((0 : Int64) ||| ((((2 : Int32) &&& (127 : Int32)).toInt64) <<< ((0 : Int32) &&& 0x3f).toInt64)).toInt32) = (2 : Int32) from by decide]
  refine Gz.fin X5 (v := some (.int (2 : Int32))) (fun h => by rw [hret] at h; cases h) hlk (by decide) (by decide) (fun fs hr => retI X5 hx hret (dd d7_33) hr) ?_
  rw [e5]
  exact ⟨rfl, N3, K3, QE3_0, QF3_0, QF3_1, QF3_2⟩
theorem ef_rmM42 (m : MethodId) (a0 : Addr) (a1 : Addr) : entryFrame m #[(.ref a0), (.ref a1)] 4 = mkF m 0 #[.val (.ref a0), .val (.ref a1), .unset, .unset] [] := by first | (simp [entryFrame, mkF, argsToLocals, Value.category]; done) | rfl
def Q_rmM42 (Z : State) (a0 : Addr) (a1 : Addr) (ba : Addr) (k_ba : ClassId) (v1 : Int32) (v2 : Int32) (v3 : Int32) (h0 : Heap) (n0 : Nat) (v : Option Value) (h : Heap) (L : List Loc) : Prop := ∃ rd : Addr, v = some (.ref rd) ∧ Fr n0 L ∧ Keep h0 h [a0] ∧ Exa Z h a0 "com/example/bad_status/badstatus/model/ProtoReader" ∧ Fld Z h a0 "com/example/bad_status/badstatus/model/ProtoReader" "bytes" "[B" (.ref ba) ∧ Fld Z h a0 "com/example/bad_status/badstatus/model/ProtoReader" "position" "I" (.int (3 : Int32)) ∧ Fld Z h a0 "com/example/bad_status/badstatus/model/ProtoReader" "end" "I" (.int (4 : Int32)) ∧ n0 ≤ rd ∧ h0.size ≤ rd ∧ Exa Z h rd "com/example/bad_status/badstatus/model/ProtoReader" ∧ Fld Z h rd "com/example/bad_status/badstatus/model/ProtoReader" "bytes" "[B" (.ref ba) ∧ Fld Z h rd "com/example/bad_status/badstatus/model/ProtoReader" "position" "I" (.int (1 : Int32)) ∧ Fld Z h rd "com/example/bad_status/badstatus/model/ProtoReader" "end" "I" (.int (3 : Int32))
set_option maxRecDepth 65536 in
set_option maxHeartbeats 40000000 in
theorem rmM42 (l : Launch) (Z : State) (av0 : Array Value) (hw : ∀ d ∈ tables_1, d.before av0 Z = true) (ws : List Jvm.Cond) (a0 : Addr) (a1 : Addr) (ba : Addr) (k_ba : ClassId) (v1 : Int32) (v2 : Int32) (v3 : Int32) (h0 : Heap) (n0 : Nat) (Z0 : n0 ≤ h0.size) (E_a0 : Exa Z h0 a0 "com/example/bad_status/badstatus/model/ProtoReader") (F_bytes_a0 : Fld Z h0 a0 "com/example/bad_status/badstatus/model/ProtoReader" "bytes" "[B" (.ref ba)) (F_position_a0 : Fld Z h0 a0 "com/example/bad_status/badstatus/model/ProtoReader" "position" "I" (.int (0 : Int32))) (F_end_a0 : Fld Z h0 a0 "com/example/bad_status/badstatus/model/ProtoReader" "end" "I" (.int (4 : Int32))) (g_a0 : n0 ≤ a0) (V_ba : Arv Z h0 ba k_ba .byte (4 : Int32) [(.int (2 : Int32)), (.int v1), (.int v2), (.int v3)] (.int (0 : Int32))) (ne_ba_a0 : ba ≠ a0) :
    MetFree l (⟨"com/example/bad_status/badstatus/model/ProtoReader", "readMessage", "(Lcom/example/bad_status/badstatus/model/Place;)Lcom/example/bad_status/badstatus/model/ProtoReader;"⟩ : MethodName) (head1 (Jvm.Cond.code (⟨"com/example/bad_status/badstatus/model/ProtoReader", "readMessage", "(Lcom/example/bad_status/badstatus/model/Place;)Lcom/example/bad_status/badstatus/model/ProtoReader;"⟩ : MethodName) prog_17_method_9_code 4 (some (.object "com/example/bad_status/badstatus/model/ProtoReader")) :: ws) ({ frames := 2, cells := 1, slots := 4, locals := 31 } : Room)) (fun a U => a = #[(.ref a0), (.ref a1)] ∧ Z.Warmed39 U.vm ∧ U.heap = h0) (fun _ _ _ _ _ => True) (fun _ U o U' => ∃ v L, o = .returned v ∧ Q_rmM42 Z a0 a1 ba k_ba v1 v2 v3 h0 n0 v U'.heap L ∧ FrameEnd U o U' L ({ frames := 2, cells := 1, slots := 4, locals := 31 } : Room).cells ({ frames := 2, cells := 1, slots := 4, locals := 31 } : Room).slots) := by
  refine MetFree.of_bodySF (plainFor_of_name pn_0) hisR ?_
  intro p e s m args below meth c s₁ Bd hml0 hP hK
  obtain ⟨rfl, hZ, hh⟩ := hP
  have hx := Bd.exec
  have hby := Bd.bytes
  have hml : c.maxLocals = 4 := hml0
  have dd : ∀ {pc : Nat} {r : Except DecodeError (Instr × Nat)}, decode prog_17_method_9_code pc = r → decode c.code pc = r := fun q => hb hby q
  have hown : s.vm.findClass "com/example/bad_status/badstatus/model/ProtoReader" = some m.cls := findClass_of_methodNamed Bd.named
  have hnm := (name_of_methodNamed Bd.named Bd.method).1
  have X0 : Stand p l e ({ frames := 2, cells := 1, slots := 4, locals := 31 } : Room) s m #[(.ref a0), (.ref a1)] below meth c s₁ [] 0 0 := Stand.of_body Bd
  have e0 : s₁.heap = h0 := by rw [← hh, Bd.state]; rfl
  have N0 := Fr.nil n0
  have hret := Bd.returns
  have hlk := Bd.notSynchronized
  show Gz p e below s ({ frames := 2, cells := 1, slots := 4, locals := 31 } : Room).cells ({ frames := 2, cells := 1, slots := 4, locals := 31 } : Room).slots (Q_rmM42 Z a0 a1 ba k_ba v1 v2 v3 h0 n0) (s₁.setTop (entryFrame m #[(.ref a0), (.ref a1)] 4))
  refine Gz.enter (ef_rmM42 m a0 a1) ?_
  refine Gz.aloadN 1 X0 hx (dd d6_0) rfl rfl rfl ?_
  refine Gz.aloadN 2 X0 hx (dd d6_1) rfl rfl rfl ?_
  obtain ⟨cq1, q1, q1'⟩ := E_a0.cell
  obtain ⟨_, _, ⟨T1, L1, k1, n1⟩, -, X1, ⟨Lc1, hQ1, l1, y1, z1⟩, st1⟩ := X0.privateBack hx (y := ym2) hown (mvT hZ (ww hw 40 rfl)) (mvT hZ (ww hw 41 rfl)) (own_selp (y := ym2) (y' := ym3) rfl (mvT hZ (ww hw 25 rfl)) (mvT hZ (ww hw 24 rfl)) (mvT hZ (ww hw 41 rfl)) (Cond.privateMethod_at (mvP hZ (ww hw 42 rfl) (args := #[]))) (by decide)) (Cond.privateMethod_at (mvP hZ (ww hw 42 rfl) (args := #[]))) (mvT hZ (ww hw 43 rfl)) (by decide) (backOf (W := 0) (rmL42 l Z av0 hw [] a0 a1 ba k_ba v1 v2 v3 h0 n0 Z0 E_a0 F_bytes_a0 F_position_a0 F_end_a0 g_a0 V_ba ne_ba_a0) hZ (ww hw 43 rfl) (ww hw 4 rfl) (by decide) (by decide)) (g := (mkF m 2 #[.val (.ref a0), .val (.ref a1), .unset, .unset] [(.ref a1), (.ref a0)])) rfl (by rw [hml]; rfl) (Steps.refl _) (a := a0) (by rw [e0]; exact q1) q1' (argsL := [(.ref a1)]) (rest := []) (lenOf pd_2 rfl) rfl (Nat.le_refl _) (dd d6_2) (fun _ _ => ⟨rfl, e0, (by decide : 0 + 0 ≤ _), (by decide : 0 + 0 ≤ _)⟩)
  dsimp only [Pt.U, Pt.locs, Pt.cells, Pt.slots, Q_rmL42] at X1 l1 y1 z1 st1 hQ1
  subst l1 y1 z1
  obtain ⟨rfl, N1q, K1q, QE1_0, QF1_0, QF1_1, QF1_2⟩ := hQ1
  have N1 := Fr.app N0 N1q
  have f1_E_a0 := Exa.keep E_a0 K1q
  have f1_V_ba := Arv.keep V_ba K1q (ninS ne_ba_a0 nin0)
  have SZ1 := Nat.le_trans Z0 K1q.1
  have K1 := Keep.trans (Keep.refl h0 [a0]) K1q (allS (Or.inl (List.mem_of_getElem? (i := 0) rfl)) all0)
  refine Gz.tr st1 ?_
  refine Gz.istoreN 6 #[.val (.ref a0), .val (.ref a1), .val (.int (2 : Int32)), .unset] X1 hx (dd d6_5) rfl rfl ?_
  obtain ⟨T2, h2, X2, e2, E2, A2, D2, -, st2⟩ := newO X1 hx hZ hown (ww hw 45 rfl) (ww hw 3 rfl) (ww hw 4 rfl) rfl (g := (mkF m 6 #[.val (.ref a0), .val (.ref a1), .val (.int (2 : Int32)), .unset] [])) rfl (dd d6_6) (by decide) (by decide)
  obtain ⟨b2, g2⟩ : ∃ z, z = T1.heap.size := ⟨_, rfl⟩
  rw [← g2] at A2 D2 st2
  have ne_a0_b2 : a0 ≠ b2 := Nat.ne_of_lt (Nat.lt_of_lt_of_le (QE1_0).lt (Nat.le_of_eq g2.symm))
  have ne_ba_b2 : ba ≠ b2 := Nat.ne_of_lt (Nat.lt_of_lt_of_le (f1_V_ba).lt (Nat.le_of_eq g2.symm))
  have g_b2 : n0 ≤ b2 := Nat.le_trans SZ1 (Nat.le_of_eq g2.symm)
  have SZ2 : n0 ≤ h2.size := Nat.le_trans SZ1 E2.1
  have sz_b2 : h0.size ≤ b2 := Nat.le_trans K1.1 (Nat.le_of_eq g2.symm)
  have K2 := Keep.ext K1 E2
  have f2_E_a0 := Exa.ext E2 QE1_0
  have f2_V_ba := Arv.ext f1_V_ba E2
  have f2_F_bytes_a0 := Fld.ext E2 QF1_0
  have f2_F_position_a0 := Fld.ext E2 QF1_1
  have f2_F_end_a0 := Fld.ext E2 QF1_2
  have F_bytes_b2 : Fld Z h2 b2 "com/example/bad_status/badstatus/model/ProtoReader" "bytes" "[B" .null := D2 (Or.inr (ww hw 15 rfl)) (ty := (.array .byte)) (by decide)
  have F_position_b2 : Fld Z h2 b2 "com/example/bad_status/badstatus/model/ProtoReader" "position" "I" (.int (0 : Int32)) := D2 (Or.inl (ww hw 17 rfl)) (ty := .int) (by decide)
  have F_end_b2 : Fld Z h2 b2 "com/example/bad_status/badstatus/model/ProtoReader" "end" "I" (.int (0 : Int32)) := D2 (Or.inr (ww hw 19 rfl)) (ty := .int) (by decide)
  have F_place_b2 : Fld Z h2 b2 "com/example/bad_status/badstatus/model/ProtoReader" "place" "Lcom/example/bad_status/badstatus/model/Place;" .null := D2 (Or.inr (ww hw 21 rfl)) (ty := (.object "com/example/bad_status/badstatus/model/Place")) (by decide)
  refine Gz.st st2 ?_
  refine Gz.dup 10 X2 hx (dd d6_9) rfl rfl ?_
  refine Gz.aloadN 11 X2 hx (dd d6_10) rfl rfl rfl ?_
  refine Gz.getF 14 X2 hx hZ hown (dd d6_11) (host := "") (Or.inl (ww hw 14 rfl)) Via.refl e2 f2_F_bytes_a0 rfl fun T3 X3 e3 => ?_
  refine Gz.aloadN 15 X3 hx (dd d6_14) rfl rfl rfl ?_
  refine Gz.getF 18 X3 hx hZ hown (dd d6_15) (host := "") (Or.inl (ww hw 16 rfl)) Via.refl e3 f2_F_position_a0 rfl fun T4 X4 e4 => ?_
  refine Gz.aloadN 19 X4 hx (dd d6_18) rfl rfl rfl ?_
  refine Gz.getF 22 X4 hx hZ hown (dd d6_19) (host := "") (Or.inl (ww hw 16 rfl)) Via.refl e4 f2_F_position_a0 rfl fun T5 X5 e5 => ?_
  refine Gz.iloadN 23 X5 hx (dd d6_22) rfl rfl ?_
  refine Gz.iaddV 24 (3 : Int32) X5 hx (dd d6_23) rfl rfl ?_
  refine Gz.aloadN 25 X5 hx (dd d6_24) rfl rfl rfl ?_
  obtain ⟨_, _, ⟨T6, L6, k6, n6⟩, -, X6, ⟨Lc6, hQ6, l6, y6, z6⟩, st6⟩ := X5.specialBack hx (y := ym0) rfl hown (mvT hZ (ww hw 8 rfl)) (mvT hZ (ww hw 9 rfl)) (mvT hZ (ww hw 10 rfl)) (by decide) (backOf (W := 1) (rmI2 l Z av0 hw [] b2 ba (1 : Int32) (3 : Int32) a1  h2 n0 SZ2 A2 F_bytes_b2 F_position_b2 F_end_b2 F_place_b2 g_b2) hZ (ww hw 10 rfl) (ww hw 4 rfl) (by decide) (by decide)) (g := (mkF m 25 #[.val (.ref a0), .val (.ref a1), .val (.int (2 : Int32)), .unset] [(.ref a1), (.int (3 : Int32)), (.int (1 : Int32)), (.ref ba), (.ref b2), (.ref b2)])) rfl (by rw [hml]; rfl) (Steps.refl _) (a := b2) (argsL := [(.ref ba), (.int (1 : Int32)), (.int (3 : Int32)), (.ref a1)]) (rest := [(.ref b2)]) (lenOf pd_0 rfl) rfl (Nat.le_refl _) (dd d6_25) (fun _ _ => ⟨rfl, e5, (by decide : 1 + 0 ≤ _), (by decide : 4 + 0 ≤ _)⟩)
  dsimp only [Pt.U, Pt.locs, Pt.cells, Pt.slots, Q_rmI2] at X6 l6 y6 z6 st6 hQ6
  subst l6 y6 z6
  obtain ⟨rfl, N6q, K6q, QE6_0, QF6_0, QF6_1, QF6_2, QF6_3⟩ := hQ6
  have N6 := Fr.app N1 N6q
  have f6_E_a0 := Exa.keep f2_E_a0 K6q
  have f6_V_ba := Arv.keep f2_V_ba K6q (ninS ne_ba_b2 nin0)
  have f6_F_bytes_a0 := Fld.keep f2_F_bytes_a0 K6q (ninS ne_a0_b2 nin0)
  have f6_F_position_a0 := Fld.keep f2_F_position_a0 K6q (ninS ne_a0_b2 nin0)
  have f6_F_end_a0 := Fld.keep f2_F_end_a0 K6q (ninS ne_a0_b2 nin0)
  have f6_Eb2 := Exa.keep A2 K6q
  have SZ6 := Nat.le_trans SZ2 K6q.1
  have K6 := Keep.trans K2 K6q (allS (Or.inr sz_b2) all0)
  refine Gz.tr st6 ?_
  refine Gz.astoreN 29 #[.val (.ref a0), .val (.ref a1), .val (.int (2 : Int32)), .val (.ref b2)] X6 hx (dd d6_28) rfl rfl rfl ?_
  refine Gz.aloadN 30 X6 hx (dd d6_29) rfl rfl rfl ?_
  refine Gz.dup 31 X6 hx (dd d6_30) rfl rfl ?_
  refine Gz.getF 34 X6 hx hZ hown (dd d6_31) (host := "") (Or.inl (ww hw 16 rfl)) Via.refl rfl f6_F_position_a0 rfl fun T7 X7 e7 => ?_
  refine Gz.iloadN 35 X7 hx (dd d6_34) rfl rfl ?_
  refine Gz.iaddV 36 (3 : Int32) X7 hx (dd d6_35) rfl rfl ?_
  refine Gz.putF 39 X7 hx hZ hown .int (dd d6_36) (host := "") (Or.inl (ww hw 16 rfl)) Via.refl e7 f6_F_position_a0 f6_E_a0 (Or.inl (ww hw 17 rfl)) (ww hw 3 rfl) (by decide) rfl rfl rfl fun T8 h8 X8 e8 W8 => ?_
  have f8_E_a0 := Exa.wr W8 f6_E_a0
  have f8_V_ba := Arv.other f6_V_ba W8 ne_ba_a0
  have f8_F_bytes_a0 := Fld.other W8 f6_F_bytes_a0 (Or.inr (slot_ne (Or.inr (ww hw 15 rfl)) (Or.inl (ww hw 17 rfl)) (by decide) (t := (.array .byte)) (t' := .int) (by decide) (by decide)))
  have f8_F_end_a0 := Fld.other W8 f6_F_end_a0 (Or.inr (slot_ne (Or.inr (ww hw 19 rfl)) (Or.inl (ww hw 17 rfl)) (by decide) (t := .int) (t' := .int) (by decide) (by decide)))
  have f8_E_b2 := Exa.wr W8 QE6_0
  have f8_F_bytes_b2 := Fld.other W8 QF6_0 (Or.inl (Ne.symm ne_a0_b2))
  have f8_F_position_b2 := Fld.other W8 QF6_1 (Or.inl (Ne.symm ne_a0_b2))
  have f8_F_end_b2 := Fld.other W8 QF6_2 (Or.inl (Ne.symm ne_a0_b2))
  have f8_F_place_b2 := Fld.other W8 QF6_3 (Or.inl (Ne.symm ne_a0_b2))
  have f8_F_position_a0 := Fld.same W8 f6_F_position_a0
  have N8 := Fr.snoc X8 N6 g_a0
  have SZ8 : n0 ≤ h8.size := Nat.le_trans SZ6 (Keep.of_wr W8).1
  have K8 := Keep.wr K6 W8 (Or.inl (List.mem_of_getElem? (i := 0) rfl))
  refine Gz.aloadN 40 X8 hx (dd d6_39) rfl rfl rfl ?_
  refine Gz.fin X8 (v := some (.ref b2)) (fun h => by rw [hret] at h; cases h) hlk (by decide) (by decide) (fun fs hr => retA X8 hx hret (dd d6_40) hr rfl rfl) ?_
  rw [e8]
  exact ⟨b2, rfl, N8, K8, f8_E_a0, f8_F_bytes_a0, f8_F_position_a0, f8_F_end_a0, g_b2, sz_b2, f8_E_b2, f8_F_bytes_b2, f8_F_position_b2, f8_F_end_b2⟩
theorem ef_rmL43 (m : MethodId) (a0 : Addr) (a1 : Addr) : entryFrame m #[(.ref a0), (.ref a1)] 4 = mkF m 0 #[.val (.ref a0), .val (.ref a1), .unset, .unset] [] := by first | (simp [entryFrame, mkF, argsToLocals, Value.category]; done) | rfl
def Q_rmL43 (Z : State) (a0 : Addr) (a1 : Addr) (ba : Addr) (k_ba : ClassId) (v1 : Int32) (v2 : Int32) (v3 : Int32) (h0 : Heap) (n0 : Nat) (v : Option Value) (h : Heap) (L : List Loc) : Prop := v = some (.int (3 : Int32)) ∧ Fr n0 L ∧ Keep h0 h [a0] ∧ Exa Z h a0 "com/example/bad_status/badstatus/model/ProtoReader" ∧ Fld Z h a0 "com/example/bad_status/badstatus/model/ProtoReader" "bytes" "[B" (.ref ba) ∧ Fld Z h a0 "com/example/bad_status/badstatus/model/ProtoReader" "position" "I" (.int (1 : Int32)) ∧ Fld Z h a0 "com/example/bad_status/badstatus/model/ProtoReader" "end" "I" (.int (4 : Int32))
set_option maxRecDepth 65536 in
set_option maxHeartbeats 40000000 in
theorem rmL43 (l : Launch) (Z : State) (av0 : Array Value) (hw : ∀ d ∈ tables_1, d.before av0 Z = true) (ws : List Jvm.Cond) (a0 : Addr) (a1 : Addr) (ba : Addr) (k_ba : ClassId) (v1 : Int32) (v2 : Int32) (v3 : Int32) (h0 : Heap) (n0 : Nat) (Z0 : n0 ≤ h0.size) (E_a0 : Exa Z h0 a0 "com/example/bad_status/badstatus/model/ProtoReader") (F_bytes_a0 : Fld Z h0 a0 "com/example/bad_status/badstatus/model/ProtoReader" "bytes" "[B" (.ref ba)) (F_position_a0 : Fld Z h0 a0 "com/example/bad_status/badstatus/model/ProtoReader" "position" "I" (.int (0 : Int32))) (F_end_a0 : Fld Z h0 a0 "com/example/bad_status/badstatus/model/ProtoReader" "end" "I" (.int (4 : Int32))) (g_a0 : n0 ≤ a0) (V_ba : Arv Z h0 ba k_ba .byte (4 : Int32) [(.int (3 : Int32)), (.int v1), (.int v2), (.int v3)] (.int (0 : Int32))) (ne_ba_a0 : ba ≠ a0) :
    MetFree l (⟨"com/example/bad_status/badstatus/model/ProtoReader", "readLength", "(Lcom/example/bad_status/badstatus/model/Place;)I"⟩ : MethodName) (head1 (Jvm.Cond.code (⟨"com/example/bad_status/badstatus/model/ProtoReader", "readLength", "(Lcom/example/bad_status/badstatus/model/Place;)I"⟩ : MethodName) prog_17_method_14_code 4 (some .int) :: ws) ({ frames := 1, cells := 0, slots := 0, locals := 16 } : Room)) (fun a U => a = #[(.ref a0), (.ref a1)] ∧ Z.Warmed39 U.vm ∧ U.heap = h0) (fun _ _ _ _ _ => True) (fun _ U o U' => ∃ v L, o = .returned v ∧ Q_rmL43 Z a0 a1 ba k_ba v1 v2 v3 h0 n0 v U'.heap L ∧ FrameEnd U o U' L ({ frames := 1, cells := 0, slots := 0, locals := 16 } : Room).cells ({ frames := 1, cells := 0, slots := 0, locals := 16 } : Room).slots) := by
  refine MetFree.of_bodySF (plainFor_of_name pn_0) hisR ?_
  intro p e s m args below meth c s₁ Bd hml0 hP hK
  obtain ⟨rfl, hZ, hh⟩ := hP
  have hx := Bd.exec
  have hby := Bd.bytes
  have hml : c.maxLocals = 4 := hml0
  have dd : ∀ {pc : Nat} {r : Except DecodeError (Instr × Nat)}, decode prog_17_method_14_code pc = r → decode c.code pc = r := fun q => hb hby q
  have hown : s.vm.findClass "com/example/bad_status/badstatus/model/ProtoReader" = some m.cls := findClass_of_methodNamed Bd.named
  have hnm := (name_of_methodNamed Bd.named Bd.method).1
  have X0 : Stand p l e ({ frames := 1, cells := 0, slots := 0, locals := 16 } : Room) s m #[(.ref a0), (.ref a1)] below meth c s₁ [] 0 0 := Stand.of_body Bd
  have e0 : s₁.heap = h0 := by rw [← hh, Bd.state]; rfl
  have N0 := Fr.nil n0
  have hret := Bd.returns
  have hlk := Bd.notSynchronized
  show Gz p e below s ({ frames := 1, cells := 0, slots := 0, locals := 16 } : Room).cells ({ frames := 1, cells := 0, slots := 0, locals := 16 } : Room).slots (Q_rmL43 Z a0 a1 ba k_ba v1 v2 v3 h0 n0) (s₁.setTop (entryFrame m #[(.ref a0), (.ref a1)] 4))
  refine Gz.enter (ef_rmL43 m a0 a1) ?_
  refine Gz.aloadN 1 X0 hx (dd d7_0) rfl rfl rfl ?_
  obtain ⟨c1, A1, q1, S1, N1, H1, G1⟩ := id V_ba
  have hin2 : ¬ ((0 : Int32) < 0 ∨ c1.slots.size ≤ ((0 : Int32)).toNatClampNeg) := inb_of S1 ⟨by decide, by decide⟩
  have hat2 : c1.slots[((0 : Int32)).toNatClampNeg]? = some (.int (3 : Int32)) := Has.at H1 hin2 rfl
  obtain ⟨cq3, kq3, q3a, q3b, q3c⟩ := isOf hZ e0 E_a0
  obtain ⟨_, _, ⟨T3, L3, k3, n3⟩, -, X3, ⟨Lc3, hQ3, l3, y3, z3⟩, st3⟩ := X0.virtualBack hx (y := ym1) (z := ym1) hown (mvT hZ (ww hw 44 rfl)) (mvT hZ (ww hw 28 rfl)) (notFace_of_selects (args := #[]) (mvT hZ (ww hw 30 rfl))) (mvT hZ (ww hw 30 rfl)) (mvT hZ (ww hw 29 rfl)) (by decide) (backOf (W := 0) (rmV1 l Z av0 hw [] a0 ba (0 : Int32) (4 : Int32) c1 (3 : Int32) h0 n0 Z0 E_a0 F_bytes_a0 F_position_a0 F_end_a0 g_a0 A1 ne_ba_a0 hin2 hat2 (by decide : ¬ ((0 : Int32) = (4 : Int32))) (by decide : ¬ ((3 : Int32) < (0 : Int32)))) hZ (ww hw 31 rfl) (ww hw 4 rfl) (by decide) (by decide)) q3a q3c (g := (mkF m 1 #[.val (.ref a0), .val (.ref a1), .unset, .unset] [(.ref a0)])) rfl (by rw [hml]; rfl) (Steps.refl _) (argsL := []) (rest := []) (lenOf pd_1 rfl) rfl (Nat.le_refl _) (dd d7_1) (fun _ _ => ⟨rfl, e0, (by decide : 0 + 0 ≤ _), (by decide : 0 + 0 ≤ _)⟩)
  dsimp only [Pt.U, Pt.locs, Pt.cells, Pt.slots, Q_rmV1] at X3 l3 y3 z3 st3 hQ3
  subst l3 y3 z3
  obtain ⟨rfl, N3q, K3q, QE3_0, QF3_0, QF3_1, QF3_2⟩ := hQ3
  have N3 := Fr.app N0 N3q
  have f3_E_a0 := Exa.keep E_a0 K3q
  have f3_V_ba := Arv.keep V_ba K3q (ninS ne_ba_a0 nin0)
  have SZ3 := Nat.le_trans Z0 K3q.1
  have K3 := Keep.trans (Keep.refl h0 [a0]) K3q (allS (Or.inl (List.mem_of_getElem? (i := 0) rfl)) all0)
  replace QF3_1 : Fld Z T3.heap a0 "com/example/bad_status/badstatus/model/ProtoReader" "position" "I" (.int (1 : Int32)) := QF3_1
  refine Gz.tr st3 ?_
  refine Gz.lstoreN 5 #[.val (.ref a0), .val (.ref a1), .val (.long ((0 : Int64) ||| ((((3 : Int32) &&& (127 : Int32)).toInt64) <<< ((0 : Int32) &&& 0x3f).toInt64))), .second] X3 hx (dd d7_4) rfl rfl ?_
  refine Gz.lloadN 6 X3 hx (dd d7_5) rfl rfl ?_
  refine Gz.lconst 7 (0 : Int64) X3 hx (dd d7_6) rfl rfl ?_
  refine Gz.lcmp 8 X3 hx (dd d7_7) rfl ?_
  refine Gz.ifNo 11 X3 hx (dd d7_8) ((if0 _ _).trans (flt (fun q => ((by decide) : ¬ (((0 : Int64) ||| ((((3 : Int32) &&& (127 : Int32)).toInt64) <<< ((0 : Int32) &&& 0x3f).toInt64)) < (0 : Int64))) ((lw_lt _ _).mp q))).1) rfl ?_
  refine Gz.lloadN 12 X3 hx (dd d7_11) rfl rfl ?_
  refine Gz.aloadN 13 X3 hx (dd d7_12) rfl rfl rfl ?_
  refine Gz.getF 16 X3 hx hZ hown (dd d7_13) (host := "") (Or.inl (ww hw 18 rfl)) Via.refl rfl QF3_2 rfl fun T4 X4 e4 => ?_
  refine Gz.aloadN 17 X4 hx (dd d7_16) rfl rfl rfl ?_
  refine Gz.getF 20 X4 hx hZ hown (dd d7_17) (host := "") (Or.inl (ww hw 16 rfl)) Via.refl e4 QF3_1 rfl fun T5 X5 e5 => ?_
  refine Gz.isubV 21 (3 : Int32) X5 hx (dd d7_20) rfl rfl ?_
  refine Gz.i2lV 22 (3 : Int64) X5 hx (dd d7_21) rfl rfl ?_
  refine Gz.lcmp 23 X5 hx (dd d7_22) rfl ?_
  refine Gz.ifYes 31 X5 hx (dd d7_23) ((if0 _ _).trans (flt (fun q => ((by decide) : ¬ ((3 : Int64) < ((0 : Int64) ||| ((((3 : Int32) &&& (127 : Int32)).toInt64) <<< ((0 : Int32) &&& 0x3f).toInt64)))) ((lw_gt _ _).mp q))).2.2.2) (by decide) (by decide) ?_
  refine Gz.lloadN 32 X5 hx (dd d7_31) rfl rfl ?_
  refine Gz.l2i 33 X5 hx (dd d7_32) rfl ?_
  show Gz p e below s _ _ _ (T5.setTop (mkF m 33 #[.val (.ref a0), .val (.ref a1), .val (.long ((0 : Int64) ||| ((((3 : Int32) &&& (127 : Int32)).toInt64) <<< ((0 : Int32) &&& 0x3f).toInt64))), .second] [(.int (((0 : Int64) ||| ((((3 : Int32) &&& (127 : Int32)).toInt64) <<< ((0 : Int32) &&& 0x3f).toInt64)).toInt32))]))
  rw [show (((0 : Int64) ||| ((((3 : Int32) &&& (127 : Int32)).toInt64) <<< ((0 : Int32) &&& 0x3f).toInt64)).toInt32) = (3 : Int32) from by decide]
  refine Gz.fin X5 (v := some (.int (3 : Int32))) (fun h => by rw [hret] at h; cases h) hlk (by decide) (by decide) (fun fs hr => retI X5 hx hret (dd d7_33) hr) ?_
  rw [e5]
  exact ⟨rfl, N3, K3, QE3_0, QF3_0, QF3_1, QF3_2⟩
theorem ef_rmM43 (m : MethodId) (a0 : Addr) (a1 : Addr) : entryFrame m #[(.ref a0), (.ref a1)] 4 = mkF m 0 #[.val (.ref a0), .val (.ref a1), .unset, .unset] [] := by first | (simp [entryFrame, mkF, argsToLocals, Value.category]; done) | rfl
def Q_rmM43 (Z : State) (a0 : Addr) (a1 : Addr) (ba : Addr) (k_ba : ClassId) (v1 : Int32) (v2 : Int32) (v3 : Int32) (h0 : Heap) (n0 : Nat) (v : Option Value) (h : Heap) (L : List Loc) : Prop := ∃ rd : Addr, v = some (.ref rd) ∧ Fr n0 L ∧ Keep h0 h [a0] ∧ Exa Z h a0 "com/example/bad_status/badstatus/model/ProtoReader" ∧ Fld Z h a0 "com/example/bad_status/badstatus/model/ProtoReader" "bytes" "[B" (.ref ba) ∧ Fld Z h a0 "com/example/bad_status/badstatus/model/ProtoReader" "position" "I" (.int (4 : Int32)) ∧ Fld Z h a0 "com/example/bad_status/badstatus/model/ProtoReader" "end" "I" (.int (4 : Int32)) ∧ n0 ≤ rd ∧ h0.size ≤ rd ∧ Exa Z h rd "com/example/bad_status/badstatus/model/ProtoReader" ∧ Fld Z h rd "com/example/bad_status/badstatus/model/ProtoReader" "bytes" "[B" (.ref ba) ∧ Fld Z h rd "com/example/bad_status/badstatus/model/ProtoReader" "position" "I" (.int (1 : Int32)) ∧ Fld Z h rd "com/example/bad_status/badstatus/model/ProtoReader" "end" "I" (.int (4 : Int32))
set_option maxRecDepth 65536 in
set_option maxHeartbeats 40000000 in
theorem rmM43 (l : Launch) (Z : State) (av0 : Array Value) (hw : ∀ d ∈ tables_1, d.before av0 Z = true) (ws : List Jvm.Cond) (a0 : Addr) (a1 : Addr) (ba : Addr) (k_ba : ClassId) (v1 : Int32) (v2 : Int32) (v3 : Int32) (h0 : Heap) (n0 : Nat) (Z0 : n0 ≤ h0.size) (E_a0 : Exa Z h0 a0 "com/example/bad_status/badstatus/model/ProtoReader") (F_bytes_a0 : Fld Z h0 a0 "com/example/bad_status/badstatus/model/ProtoReader" "bytes" "[B" (.ref ba)) (F_position_a0 : Fld Z h0 a0 "com/example/bad_status/badstatus/model/ProtoReader" "position" "I" (.int (0 : Int32))) (F_end_a0 : Fld Z h0 a0 "com/example/bad_status/badstatus/model/ProtoReader" "end" "I" (.int (4 : Int32))) (g_a0 : n0 ≤ a0) (V_ba : Arv Z h0 ba k_ba .byte (4 : Int32) [(.int (3 : Int32)), (.int v1), (.int v2), (.int v3)] (.int (0 : Int32))) (ne_ba_a0 : ba ≠ a0) :
    MetFree l (⟨"com/example/bad_status/badstatus/model/ProtoReader", "readMessage", "(Lcom/example/bad_status/badstatus/model/Place;)Lcom/example/bad_status/badstatus/model/ProtoReader;"⟩ : MethodName) (head1 (Jvm.Cond.code (⟨"com/example/bad_status/badstatus/model/ProtoReader", "readMessage", "(Lcom/example/bad_status/badstatus/model/Place;)Lcom/example/bad_status/badstatus/model/ProtoReader;"⟩ : MethodName) prog_17_method_9_code 4 (some (.object "com/example/bad_status/badstatus/model/ProtoReader")) :: ws) ({ frames := 2, cells := 1, slots := 4, locals := 31 } : Room)) (fun a U => a = #[(.ref a0), (.ref a1)] ∧ Z.Warmed39 U.vm ∧ U.heap = h0) (fun _ _ _ _ _ => True) (fun _ U o U' => ∃ v L, o = .returned v ∧ Q_rmM43 Z a0 a1 ba k_ba v1 v2 v3 h0 n0 v U'.heap L ∧ FrameEnd U o U' L ({ frames := 2, cells := 1, slots := 4, locals := 31 } : Room).cells ({ frames := 2, cells := 1, slots := 4, locals := 31 } : Room).slots) := by
  refine MetFree.of_bodySF (plainFor_of_name pn_0) hisR ?_
  intro p e s m args below meth c s₁ Bd hml0 hP hK
  obtain ⟨rfl, hZ, hh⟩ := hP
  have hx := Bd.exec
  have hby := Bd.bytes
  have hml : c.maxLocals = 4 := hml0
  have dd : ∀ {pc : Nat} {r : Except DecodeError (Instr × Nat)}, decode prog_17_method_9_code pc = r → decode c.code pc = r := fun q => hb hby q
  have hown : s.vm.findClass "com/example/bad_status/badstatus/model/ProtoReader" = some m.cls := findClass_of_methodNamed Bd.named
  have hnm := (name_of_methodNamed Bd.named Bd.method).1
  have X0 : Stand p l e ({ frames := 2, cells := 1, slots := 4, locals := 31 } : Room) s m #[(.ref a0), (.ref a1)] below meth c s₁ [] 0 0 := Stand.of_body Bd
  have e0 : s₁.heap = h0 := by rw [← hh, Bd.state]; rfl
  have N0 := Fr.nil n0
  have hret := Bd.returns
  have hlk := Bd.notSynchronized
  show Gz p e below s ({ frames := 2, cells := 1, slots := 4, locals := 31 } : Room).cells ({ frames := 2, cells := 1, slots := 4, locals := 31 } : Room).slots (Q_rmM43 Z a0 a1 ba k_ba v1 v2 v3 h0 n0) (s₁.setTop (entryFrame m #[(.ref a0), (.ref a1)] 4))
  refine Gz.enter (ef_rmM43 m a0 a1) ?_
  refine Gz.aloadN 1 X0 hx (dd d6_0) rfl rfl rfl ?_
  refine Gz.aloadN 2 X0 hx (dd d6_1) rfl rfl rfl ?_
  obtain ⟨cq1, q1, q1'⟩ := E_a0.cell
  obtain ⟨_, _, ⟨T1, L1, k1, n1⟩, -, X1, ⟨Lc1, hQ1, l1, y1, z1⟩, st1⟩ := X0.privateBack hx (y := ym2) hown (mvT hZ (ww hw 40 rfl)) (mvT hZ (ww hw 41 rfl)) (own_selp (y := ym2) (y' := ym3) rfl (mvT hZ (ww hw 25 rfl)) (mvT hZ (ww hw 24 rfl)) (mvT hZ (ww hw 41 rfl)) (Cond.privateMethod_at (mvP hZ (ww hw 42 rfl) (args := #[]))) (by decide)) (Cond.privateMethod_at (mvP hZ (ww hw 42 rfl) (args := #[]))) (mvT hZ (ww hw 43 rfl)) (by decide) (backOf (W := 0) (rmL43 l Z av0 hw [] a0 a1 ba k_ba v1 v2 v3 h0 n0 Z0 E_a0 F_bytes_a0 F_position_a0 F_end_a0 g_a0 V_ba ne_ba_a0) hZ (ww hw 43 rfl) (ww hw 4 rfl) (by decide) (by decide)) (g := (mkF m 2 #[.val (.ref a0), .val (.ref a1), .unset, .unset] [(.ref a1), (.ref a0)])) rfl (by rw [hml]; rfl) (Steps.refl _) (a := a0) (by rw [e0]; exact q1) q1' (argsL := [(.ref a1)]) (rest := []) (lenOf pd_2 rfl) rfl (Nat.le_refl _) (dd d6_2) (fun _ _ => ⟨rfl, e0, (by decide : 0 + 0 ≤ _), (by decide : 0 + 0 ≤ _)⟩)
  dsimp only [Pt.U, Pt.locs, Pt.cells, Pt.slots, Q_rmL43] at X1 l1 y1 z1 st1 hQ1
  subst l1 y1 z1
  obtain ⟨rfl, N1q, K1q, QE1_0, QF1_0, QF1_1, QF1_2⟩ := hQ1
  have N1 := Fr.app N0 N1q
  have f1_E_a0 := Exa.keep E_a0 K1q
  have f1_V_ba := Arv.keep V_ba K1q (ninS ne_ba_a0 nin0)
  have SZ1 := Nat.le_trans Z0 K1q.1
  have K1 := Keep.trans (Keep.refl h0 [a0]) K1q (allS (Or.inl (List.mem_of_getElem? (i := 0) rfl)) all0)
  refine Gz.tr st1 ?_
  refine Gz.istoreN 6 #[.val (.ref a0), .val (.ref a1), .val (.int (3 : Int32)), .unset] X1 hx (dd d6_5) rfl rfl ?_
  obtain ⟨T2, h2, X2, e2, E2, A2, D2, -, st2⟩ := newO X1 hx hZ hown (ww hw 45 rfl) (ww hw 3 rfl) (ww hw 4 rfl) rfl (g := (mkF m 6 #[.val (.ref a0), .val (.ref a1), .val (.int (3 : Int32)), .unset] [])) rfl (dd d6_6) (by decide) (by decide)
  obtain ⟨b2, g2⟩ : ∃ z, z = T1.heap.size := ⟨_, rfl⟩
  rw [← g2] at A2 D2 st2
  have ne_a0_b2 : a0 ≠ b2 := Nat.ne_of_lt (Nat.lt_of_lt_of_le (QE1_0).lt (Nat.le_of_eq g2.symm))
  have ne_ba_b2 : ba ≠ b2 := Nat.ne_of_lt (Nat.lt_of_lt_of_le (f1_V_ba).lt (Nat.le_of_eq g2.symm))
  have g_b2 : n0 ≤ b2 := Nat.le_trans SZ1 (Nat.le_of_eq g2.symm)
  have SZ2 : n0 ≤ h2.size := Nat.le_trans SZ1 E2.1
  have sz_b2 : h0.size ≤ b2 := Nat.le_trans K1.1 (Nat.le_of_eq g2.symm)
  have K2 := Keep.ext K1 E2
  have f2_E_a0 := Exa.ext E2 QE1_0
  have f2_V_ba := Arv.ext f1_V_ba E2
  have f2_F_bytes_a0 := Fld.ext E2 QF1_0
  have f2_F_position_a0 := Fld.ext E2 QF1_1
  have f2_F_end_a0 := Fld.ext E2 QF1_2
  have F_bytes_b2 : Fld Z h2 b2 "com/example/bad_status/badstatus/model/ProtoReader" "bytes" "[B" .null := D2 (Or.inr (ww hw 15 rfl)) (ty := (.array .byte)) (by decide)
  have F_position_b2 : Fld Z h2 b2 "com/example/bad_status/badstatus/model/ProtoReader" "position" "I" (.int (0 : Int32)) := D2 (Or.inl (ww hw 17 rfl)) (ty := .int) (by decide)
  have F_end_b2 : Fld Z h2 b2 "com/example/bad_status/badstatus/model/ProtoReader" "end" "I" (.int (0 : Int32)) := D2 (Or.inr (ww hw 19 rfl)) (ty := .int) (by decide)
  have F_place_b2 : Fld Z h2 b2 "com/example/bad_status/badstatus/model/ProtoReader" "place" "Lcom/example/bad_status/badstatus/model/Place;" .null := D2 (Or.inr (ww hw 21 rfl)) (ty := (.object "com/example/bad_status/badstatus/model/Place")) (by decide)
  refine Gz.st st2 ?_
  refine Gz.dup 10 X2 hx (dd d6_9) rfl rfl ?_
  refine Gz.aloadN 11 X2 hx (dd d6_10) rfl rfl rfl ?_
  refine Gz.getF 14 X2 hx hZ hown (dd d6_11) (host := "") (Or.inl (ww hw 14 rfl)) Via.refl e2 f2_F_bytes_a0 rfl fun T3 X3 e3 => ?_
  refine Gz.aloadN 15 X3 hx (dd d6_14) rfl rfl rfl ?_
  refine Gz.getF 18 X3 hx hZ hown (dd d6_15) (host := "") (Or.inl (ww hw 16 rfl)) Via.refl e3 f2_F_position_a0 rfl fun T4 X4 e4 => ?_
  refine Gz.aloadN 19 X4 hx (dd d6_18) rfl rfl rfl ?_
  refine Gz.getF 22 X4 hx hZ hown (dd d6_19) (host := "") (Or.inl (ww hw 16 rfl)) Via.refl e4 f2_F_position_a0 rfl fun T5 X5 e5 => ?_
  refine Gz.iloadN 23 X5 hx (dd d6_22) rfl rfl ?_
  refine Gz.iaddV 24 (4 : Int32) X5 hx (dd d6_23) rfl rfl ?_
  refine Gz.aloadN 25 X5 hx (dd d6_24) rfl rfl rfl ?_
  obtain ⟨_, _, ⟨T6, L6, k6, n6⟩, -, X6, ⟨Lc6, hQ6, l6, y6, z6⟩, st6⟩ := X5.specialBack hx (y := ym0) rfl hown (mvT hZ (ww hw 8 rfl)) (mvT hZ (ww hw 9 rfl)) (mvT hZ (ww hw 10 rfl)) (by decide) (backOf (W := 1) (rmI2 l Z av0 hw [] b2 ba (1 : Int32) (4 : Int32) a1  h2 n0 SZ2 A2 F_bytes_b2 F_position_b2 F_end_b2 F_place_b2 g_b2) hZ (ww hw 10 rfl) (ww hw 4 rfl) (by decide) (by decide)) (g := (mkF m 25 #[.val (.ref a0), .val (.ref a1), .val (.int (3 : Int32)), .unset] [(.ref a1), (.int (4 : Int32)), (.int (1 : Int32)), (.ref ba), (.ref b2), (.ref b2)])) rfl (by rw [hml]; rfl) (Steps.refl _) (a := b2) (argsL := [(.ref ba), (.int (1 : Int32)), (.int (4 : Int32)), (.ref a1)]) (rest := [(.ref b2)]) (lenOf pd_0 rfl) rfl (Nat.le_refl _) (dd d6_25) (fun _ _ => ⟨rfl, e5, (by decide : 1 + 0 ≤ _), (by decide : 4 + 0 ≤ _)⟩)
  dsimp only [Pt.U, Pt.locs, Pt.cells, Pt.slots, Q_rmI2] at X6 l6 y6 z6 st6 hQ6
  subst l6 y6 z6
  obtain ⟨rfl, N6q, K6q, QE6_0, QF6_0, QF6_1, QF6_2, QF6_3⟩ := hQ6
  have N6 := Fr.app N1 N6q
  have f6_E_a0 := Exa.keep f2_E_a0 K6q
  have f6_V_ba := Arv.keep f2_V_ba K6q (ninS ne_ba_b2 nin0)
  have f6_F_bytes_a0 := Fld.keep f2_F_bytes_a0 K6q (ninS ne_a0_b2 nin0)
  have f6_F_position_a0 := Fld.keep f2_F_position_a0 K6q (ninS ne_a0_b2 nin0)
  have f6_F_end_a0 := Fld.keep f2_F_end_a0 K6q (ninS ne_a0_b2 nin0)
  have f6_Eb2 := Exa.keep A2 K6q
  have SZ6 := Nat.le_trans SZ2 K6q.1
  have K6 := Keep.trans K2 K6q (allS (Or.inr sz_b2) all0)
  refine Gz.tr st6 ?_
  refine Gz.astoreN 29 #[.val (.ref a0), .val (.ref a1), .val (.int (3 : Int32)), .val (.ref b2)] X6 hx (dd d6_28) rfl rfl rfl ?_
  refine Gz.aloadN 30 X6 hx (dd d6_29) rfl rfl rfl ?_
  refine Gz.dup 31 X6 hx (dd d6_30) rfl rfl ?_
  refine Gz.getF 34 X6 hx hZ hown (dd d6_31) (host := "") (Or.inl (ww hw 16 rfl)) Via.refl rfl f6_F_position_a0 rfl fun T7 X7 e7 => ?_
  refine Gz.iloadN 35 X7 hx (dd d6_34) rfl rfl ?_
  refine Gz.iaddV 36 (4 : Int32) X7 hx (dd d6_35) rfl rfl ?_
  refine Gz.putF 39 X7 hx hZ hown .int (dd d6_36) (host := "") (Or.inl (ww hw 16 rfl)) Via.refl e7 f6_F_position_a0 f6_E_a0 (Or.inl (ww hw 17 rfl)) (ww hw 3 rfl) (by decide) rfl rfl rfl fun T8 h8 X8 e8 W8 => ?_
  have f8_E_a0 := Exa.wr W8 f6_E_a0
  have f8_V_ba := Arv.other f6_V_ba W8 ne_ba_a0
  have f8_F_bytes_a0 := Fld.other W8 f6_F_bytes_a0 (Or.inr (slot_ne (Or.inr (ww hw 15 rfl)) (Or.inl (ww hw 17 rfl)) (by decide) (t := (.array .byte)) (t' := .int) (by decide) (by decide)))
  have f8_F_end_a0 := Fld.other W8 f6_F_end_a0 (Or.inr (slot_ne (Or.inr (ww hw 19 rfl)) (Or.inl (ww hw 17 rfl)) (by decide) (t := .int) (t' := .int) (by decide) (by decide)))
  have f8_E_b2 := Exa.wr W8 QE6_0
  have f8_F_bytes_b2 := Fld.other W8 QF6_0 (Or.inl (Ne.symm ne_a0_b2))
  have f8_F_position_b2 := Fld.other W8 QF6_1 (Or.inl (Ne.symm ne_a0_b2))
  have f8_F_end_b2 := Fld.other W8 QF6_2 (Or.inl (Ne.symm ne_a0_b2))
  have f8_F_place_b2 := Fld.other W8 QF6_3 (Or.inl (Ne.symm ne_a0_b2))
  have f8_F_position_a0 := Fld.same W8 f6_F_position_a0
  have N8 := Fr.snoc X8 N6 g_a0
  have SZ8 : n0 ≤ h8.size := Nat.le_trans SZ6 (Keep.of_wr W8).1
  have K8 := Keep.wr K6 W8 (Or.inl (List.mem_of_getElem? (i := 0) rfl))
  refine Gz.aloadN 40 X8 hx (dd d6_39) rfl rfl rfl ?_
  refine Gz.fin X8 (v := some (.ref b2)) (fun h => by rw [hret] at h; cases h) hlk (by decide) (by decide) (fun fs hr => retA X8 hx hret (dd d6_40) hr rfl rfl) ?_
  rw [e8]
  exact ⟨b2, rfl, N8, K8, f8_E_a0, f8_F_bytes_a0, f8_F_position_a0, f8_F_end_a0, g_b2, sz_b2, f8_E_b2, f8_F_bytes_b2, f8_F_position_b2, f8_F_end_b2⟩
theorem pd_3 : parseMethodDescriptor "()Z" = some ⟨[], some .boolean⟩ := by decide +kernel
def Q_law (n0 : Nat) (v : Option Value) (h : Heap) (L : List Loc) : Prop := v = some (.int 1) ∧ Fr n0 L
set_option maxRecDepth 65536 in
set_option maxHeartbeats 40000000 in
theorem sg_0_x_1 {p : Program} {l : Launch} {e : Env} {s : State} {m : MethodId} {args : Array Value} {below : List Frame} {meth : Method} {c : Code} {T0 : State} {locs : List Loc} {Z : State} {av0 : Array Value} {hS : Heap} (s0 : Slot) (s1 : Slot) (s2 : Slot) (s3 : Slot) (s4 : Slot) (s5 : Slot) (s6 : Slot) (s7 : Slot) (rr : Int32) (s9 : Slot) (s10 : Slot) (s11 : Slot) (rd : Addr) (s17 : Slot) (ba : Addr) (k_ba : ClassId) (n0 : Nat)
    (X0 : Stand p l e room_1 s m args below meth c T0 locs 2 4) (hx : p.tables.exec = Jvm.exec) (hZ : Z.Warmed39 s.vm) (hw : ∀ d ∈ tables_1, d.before av0 Z = true) (hby : c.code = code) (hml : c.maxLocals = 18) (hown : s.vm.findClass "com/example/bad_status/badstatus/model/ProtoReaderHasMorePinLaw" = some m.cls) (hret : meth.sig.returnType = some .boolean) (hlk : meth.locks = false) (e0 : T0.heap = hS) (N0 : Fr n0 locs) (Z0 : n0 ≤ hS.size) (E_rd : Exa Z hS rd "com/example/bad_status/badstatus/model/ProtoReader") (F_bytes_rd : Fld Z hS rd "com/example/bad_status/badstatus/model/ProtoReader" "bytes" "[B" (.ref ba)) (F_position_rd : Fld Z hS rd "com/example/bad_status/badstatus/model/ProtoReader" "position" "I" (.int (0 : Int32))) (F_end_rd : Fld Z hS rd "com/example/bad_status/badstatus/model/ProtoReader" "end" "I" (.int (0 : Int32))) (g_rd : n0 ≤ rd) (V_ba : Arv Z hS ba k_ba .byte (0 : Int32) [] (.int (0 : Int32))) (ne_ba_rd : ba ≠ rd) :
    Gz p e below s 16 128 (Q_law n0) (T0.setTop (mkF m 240 #[s0, s1, s2, s3, s4, s5, s6, s7, .val (.int rr), s9, s10, s11, .val (.int (1 : Int32)), .val (.ref rd), .val (.int (0 : Int32)), .val (.int (0 : Int32)), .val (.int (1 : Int32)), s17] [])) := by
  have dd : ∀ {pc : Nat} {r : Except DecodeError (Instr × Nat)}, decode code pc = r → decode c.code pc = r := fun q => hb hby q
  refine Gz.iload 242 X0 hx (dd at_240) rfl rfl ?_
  refine Gz.ifNo 245 X0 hx (dd at_242) ((if0 _ _).trans (feq (by decide : ¬ ((1 : Int32) = (0 : Int32)))).1) rfl ?_
  refine Gz.aload 247 X0 hx (dd at_245) rfl rfl rfl ?_
  obtain ⟨cq1, kq1, q1a, q1b, q1c⟩ := isOf hZ e0 E_rd
  obtain ⟨_, _, ⟨T1, L1, k1, n1⟩, -, X1, ⟨Lc1, hQ1, l1, y1, z1⟩, st1⟩ := X0.virtualBack hx (y := ym3) (z := ym3) hown (mvT hZ (ww hw 22 rfl)) (mvT hZ (ww hw 23 rfl)) (notFace_of_selects (args := #[]) (mvT hZ (ww hw 25 rfl))) (mvT hZ (ww hw 25 rfl)) (mvT hZ (ww hw 24 rfl)) (by decide) (backOf (W := 0) (rm4 l Z av0 hw [] rd (0 : Int32) (0 : Int32) hS n0 Z0 F_position_rd F_end_rd) hZ (ww hw 26 rfl) (ww hw 4 rfl) (by decide) (by decide)) q1a q1c (g := (mkF m 247 #[s0, s1, s2, s3, s4, s5, s6, s7, .val (.int rr), s9, s10, s11, .val (.int (1 : Int32)), .val (.ref rd), .val (.int (0 : Int32)), .val (.int (0 : Int32)), .val (.int (1 : Int32)), s17] [(.ref rd)])) rfl (by rw [hml]; rfl) (Steps.refl _) (argsL := []) (rest := []) (lenOf pd_3 rfl) rfl (Nat.le_refl _) (dd at_247) (fun _ _ => ⟨rfl, e0, (by decide : 2 + 0 ≤ _), (by decide : 4 + 0 ≤ _)⟩)
  dsimp only [Pt.U, Pt.locs, Pt.cells, Pt.slots, Q_rm4] at X1 l1 y1 z1 st1 hQ1
  subst l1 y1 z1
  rw [show (fHM rd (0 : Int32) (0 : Int32)) = (0 : Int32) from (by unfold fHM; rw [if_neg (by decide : ¬ ((0 : Int32) < (0 : Int32)))]; try decide)] at hQ1
  obtain ⟨rfl, N1q, e1⟩ := hQ1
  have N1 := Fr.app N0 N1q
  refine Gz.tr st1 ?_
  refine Gz.iload 252 X1 hx (dd at_250) rfl rfl ?_
  refine Gz.ifYes 259 X1 hx (dd at_252) ((if0 _ _).trans (flt (by decide : ¬ ((0 : Int32) < (0 : Int32)))).2.2.2) (by decide) (by decide) ?_
  refine Gz.iconst 260 (0 : Int32) X1 hx (dd at_259) rfl rfl ?_
  refine Gz.icmpNo 263 X1 hx (dd at_260) (teq (by decide : (0 : Int32) = (0 : Int32))).2 rfl ?_
  refine Gz.iconst 264 (1 : Int32) X1 hx (dd at_263) rfl rfl ?_
  refine Gz.goto 268 X1 hx (dd at_264) (by decide) (by decide) ?_
  refine Gz.istore 270 #[s0, s1, s2, s3, s4, s5, s6, s7, .val (.int rr), s9, s10, s11, .val (.int (1 : Int32)), .val (.ref rd), .val (.int (0 : Int32)), .val (.int (0 : Int32)), .val (.int (1 : Int32)), s17] X1 hx (dd at_268) rfl rfl ?_
  refine Gz.iload 272 X1 hx (dd at_270) rfl rfl ?_
  refine Gz.iconst 273 (1 : Int32) X1 hx (dd at_272) rfl rfl ?_
  by_cases hc2 : rr < (1 : Int32)
  · refine Gz.icmpYes 331 X1 hx (dd at_273) (tlt hc2).1 (by decide) (by decide) ?_
    refine Gz.iload 333 X1 hx (dd at_331) rfl rfl ?_
    refine Gz.iconst 334 (2 : Int32) X1 hx (dd at_333) rfl rfl ?_
    refine Gz.icmpYes 390 X1 hx (dd at_334) (tlt (own_ALt32 hc2 (by decide) : rr < (2 : Int32))).1 (by decide) (by decide) ?_
    refine Gz.iload 392 X1 hx (dd at_390) rfl rfl ?_
    refine Gz.iconst 393 (3 : Int32) X1 hx (dd at_392) rfl rfl ?_
    refine Gz.icmpYes 449 X1 hx (dd at_393) (tlt (own_ALt32 hc2 (by decide) : rr < (3 : Int32))).1 (by decide) (by decide) ?_
    refine Gz.iload 451 X1 hx (dd at_449) rfl rfl ?_
    refine Gz.fin X1 (v := some (.int (1 : Int32))) (fun h => by rw [hret] at h; cases h) hlk (by decide) (by decide) (fun fs hr => retN X1 hx (t := .boolean) hret (by simp) (dd at_451) hr) ?_
    exact ⟨rfl, N1⟩
  · refine Gz.icmpNo 276 X1 hx (dd at_273) (flt hc2).1 rfl ?_
    refine Gz.iload 278 X1 hx (dd at_276) rfl rfl ?_
    refine Gz.iload 280 X1 hx (dd at_278) rfl rfl ?_
    refine Gz.iaddV 281 (1 : Int32) X1 hx (dd at_280) rfl rfl ?_
    refine Gz.iload 283 X1 hx (dd at_281) rfl rfl ?_
    refine Gz.icmpYes 331 X1 hx (dd at_283) (tlt (by decide : (0 : Int32) < (1 : Int32))).2.2.1 (by decide) (by decide) ?_
    refine Gz.iload 333 X1 hx (dd at_331) rfl rfl ?_
    refine Gz.iconst 334 (2 : Int32) X1 hx (dd at_333) rfl rfl ?_
    by_cases hc3 : rr < (2 : Int32)
    · refine Gz.icmpYes 390 X1 hx (dd at_334) (tlt hc3).1 (by decide) (by decide) ?_
      refine Gz.iload 392 X1 hx (dd at_390) rfl rfl ?_
      refine Gz.iconst 393 (3 : Int32) X1 hx (dd at_392) rfl rfl ?_
      refine Gz.icmpYes 449 X1 hx (dd at_393) (tlt (own_ALt32 hc3 (by decide) : rr < (3 : Int32))).1 (by decide) (by decide) ?_
      refine Gz.iload 451 X1 hx (dd at_449) rfl rfl ?_
      refine Gz.fin X1 (v := some (.int (1 : Int32))) (fun h => by rw [hret] at h; cases h) hlk (by decide) (by decide) (fun fs hr => retN X1 hx (t := .boolean) hret (by simp) (dd at_451) hr) ?_
      exact ⟨rfl, N1⟩
    · refine Gz.icmpNo 337 X1 hx (dd at_334) (flt hc3).1 rfl ?_
      refine Gz.iload 339 X1 hx (dd at_337) rfl rfl ?_
      refine Gz.ifYes 390 X1 hx (dd at_339) ((if0 _ _).trans (flt (by decide : ¬ ((0 : Int32) < (0 : Int32)))).2.2.2) (by decide) (by decide) ?_
      refine Gz.iload 392 X1 hx (dd at_390) rfl rfl ?_
      refine Gz.iconst 393 (3 : Int32) X1 hx (dd at_392) rfl rfl ?_
      by_cases hc4 : rr < (3 : Int32)
      · refine Gz.icmpYes 449 X1 hx (dd at_393) (tlt hc4).1 (by decide) (by decide) ?_
        refine Gz.iload 451 X1 hx (dd at_449) rfl rfl ?_
        refine Gz.fin X1 (v := some (.int (1 : Int32))) (fun h => by rw [hret] at h; cases h) hlk (by decide) (by decide) (fun fs hr => retN X1 hx (t := .boolean) hret (by simp) (dd at_451) hr) ?_
        exact ⟨rfl, N1⟩
      · refine Gz.icmpNo 396 X1 hx (dd at_393) (flt hc4).1 rfl ?_
        refine Gz.iload 398 X1 hx (dd at_396) rfl rfl ?_
        refine Gz.ifYes 449 X1 hx (dd at_398) ((if0 _ _).trans (flt (by decide : ¬ ((0 : Int32) < (0 : Int32)))).2.2.2) (by decide) (by decide) ?_
        refine Gz.iload 451 X1 hx (dd at_449) rfl rfl ?_
        refine Gz.fin X1 (v := some (.int (1 : Int32))) (fun h => by rw [hret] at h; cases h) hlk (by decide) (by decide) (fun fs hr => retN X1 hx (t := .boolean) hret (by simp) (dd at_451) hr) ?_
        exact ⟨rfl, N1⟩
set_option maxRecDepth 65536 in
set_option maxHeartbeats 40000000 in
theorem sg_0_x_2 {p : Program} {l : Launch} {e : Env} {s : State} {m : MethodId} {args : Array Value} {below : List Frame} {meth : Method} {c : Code} {T0 : State} {locs : List Loc} {Z : State} {av0 : Array Value} {hS : Heap} (s0 : Slot) (s1 : Slot) (s2 : Slot) (s3 : Slot) (s4 : Slot) (s5 : Slot) (s6 : Slot) (s7 : Slot) (rr : Int32) (s9 : Slot) (s10 : Slot) (s11 : Slot) (rd : Addr) (s17 : Slot) (ba : Addr) (k_ba : ClassId) (n0 : Nat)
    (X0 : Stand p l e room_1 s m args below meth c T0 locs 2 4) (hx : p.tables.exec = Jvm.exec) (hZ : Z.Warmed39 s.vm) (hw : ∀ d ∈ tables_1, d.before av0 Z = true) (hby : c.code = code) (hml : c.maxLocals = 18) (hown : s.vm.findClass "com/example/bad_status/badstatus/model/ProtoReaderHasMorePinLaw" = some m.cls) (hret : meth.sig.returnType = some .boolean) (hlk : meth.locks = false) (e0 : T0.heap = hS) (N0 : Fr n0 locs) (Z0 : n0 ≤ hS.size) (E_rd : Exa Z hS rd "com/example/bad_status/badstatus/model/ProtoReader") (F_bytes_rd : Fld Z hS rd "com/example/bad_status/badstatus/model/ProtoReader" "bytes" "[B" (.ref ba)) (F_position_rd : Fld Z hS rd "com/example/bad_status/badstatus/model/ProtoReader" "position" "I" (.int (0 : Int32))) (F_end_rd : Fld Z hS rd "com/example/bad_status/badstatus/model/ProtoReader" "end" "I" (.int (0 : Int32))) (g_rd : n0 ≤ rd) (V_ba : Arv Z hS ba k_ba .byte (0 : Int32) [] (.int (0 : Int32))) (ne_ba_rd : ba ≠ rd) :
    Gz p e below s 16 128 (Q_law n0) (T0.setTop (mkF m 240 #[s0, s1, s2, s3, s4, s5, s6, s7, .val (.int rr), s9, s10, s11, .val (.int (1 : Int32)), .val (.ref rd), .val (.int (0 : Int32)), .val (.int (0 : Int32)), .val (.int (2 : Int32)), s17] [])) := by
  have dd : ∀ {pc : Nat} {r : Except DecodeError (Instr × Nat)}, decode code pc = r → decode c.code pc = r := fun q => hb hby q
  refine Gz.iload 242 X0 hx (dd at_240) rfl rfl ?_
  refine Gz.ifNo 245 X0 hx (dd at_242) ((if0 _ _).trans (feq (by decide : ¬ ((1 : Int32) = (0 : Int32)))).1) rfl ?_
  refine Gz.aload 247 X0 hx (dd at_245) rfl rfl rfl ?_
  obtain ⟨cq1, kq1, q1a, q1b, q1c⟩ := isOf hZ e0 E_rd
  obtain ⟨_, _, ⟨T1, L1, k1, n1⟩, -, X1, ⟨Lc1, hQ1, l1, y1, z1⟩, st1⟩ := X0.virtualBack hx (y := ym3) (z := ym3) hown (mvT hZ (ww hw 22 rfl)) (mvT hZ (ww hw 23 rfl)) (notFace_of_selects (args := #[]) (mvT hZ (ww hw 25 rfl))) (mvT hZ (ww hw 25 rfl)) (mvT hZ (ww hw 24 rfl)) (by decide) (backOf (W := 0) (rm4 l Z av0 hw [] rd (0 : Int32) (0 : Int32) hS n0 Z0 F_position_rd F_end_rd) hZ (ww hw 26 rfl) (ww hw 4 rfl) (by decide) (by decide)) q1a q1c (g := (mkF m 247 #[s0, s1, s2, s3, s4, s5, s6, s7, .val (.int rr), s9, s10, s11, .val (.int (1 : Int32)), .val (.ref rd), .val (.int (0 : Int32)), .val (.int (0 : Int32)), .val (.int (2 : Int32)), s17] [(.ref rd)])) rfl (by rw [hml]; rfl) (Steps.refl _) (argsL := []) (rest := []) (lenOf pd_3 rfl) rfl (Nat.le_refl _) (dd at_247) (fun _ _ => ⟨rfl, e0, (by decide : 2 + 0 ≤ _), (by decide : 4 + 0 ≤ _)⟩)
  dsimp only [Pt.U, Pt.locs, Pt.cells, Pt.slots, Q_rm4] at X1 l1 y1 z1 st1 hQ1
  subst l1 y1 z1
  rw [show (fHM rd (0 : Int32) (0 : Int32)) = (0 : Int32) from (by unfold fHM; rw [if_neg (by decide : ¬ ((0 : Int32) < (0 : Int32)))]; try decide)] at hQ1
  obtain ⟨rfl, N1q, e1⟩ := hQ1
  have N1 := Fr.app N0 N1q
  refine Gz.tr st1 ?_
  refine Gz.iload 252 X1 hx (dd at_250) rfl rfl ?_
  refine Gz.ifYes 259 X1 hx (dd at_252) ((if0 _ _).trans (flt (by decide : ¬ ((0 : Int32) < (0 : Int32)))).2.2.2) (by decide) (by decide) ?_
  refine Gz.iconst 260 (0 : Int32) X1 hx (dd at_259) rfl rfl ?_
  refine Gz.icmpNo 263 X1 hx (dd at_260) (teq (by decide : (0 : Int32) = (0 : Int32))).2 rfl ?_
  refine Gz.iconst 264 (1 : Int32) X1 hx (dd at_263) rfl rfl ?_
  refine Gz.goto 268 X1 hx (dd at_264) (by decide) (by decide) ?_
  refine Gz.istore 270 #[s0, s1, s2, s3, s4, s5, s6, s7, .val (.int rr), s9, s10, s11, .val (.int (1 : Int32)), .val (.ref rd), .val (.int (0 : Int32)), .val (.int (0 : Int32)), .val (.int (2 : Int32)), s17] X1 hx (dd at_268) rfl rfl ?_
  refine Gz.iload 272 X1 hx (dd at_270) rfl rfl ?_
  refine Gz.iconst 273 (1 : Int32) X1 hx (dd at_272) rfl rfl ?_
  by_cases hc2 : rr < (1 : Int32)
  · refine Gz.icmpYes 331 X1 hx (dd at_273) (tlt hc2).1 (by decide) (by decide) ?_
    refine Gz.iload 333 X1 hx (dd at_331) rfl rfl ?_
    refine Gz.iconst 334 (2 : Int32) X1 hx (dd at_333) rfl rfl ?_
    refine Gz.icmpYes 390 X1 hx (dd at_334) (tlt (own_ALt32 hc2 (by decide) : rr < (2 : Int32))).1 (by decide) (by decide) ?_
    refine Gz.iload 392 X1 hx (dd at_390) rfl rfl ?_
    refine Gz.iconst 393 (3 : Int32) X1 hx (dd at_392) rfl rfl ?_
    refine Gz.icmpYes 449 X1 hx (dd at_393) (tlt (own_ALt32 hc2 (by decide) : rr < (3 : Int32))).1 (by decide) (by decide) ?_
    refine Gz.iload 451 X1 hx (dd at_449) rfl rfl ?_
    refine Gz.fin X1 (v := some (.int (1 : Int32))) (fun h => by rw [hret] at h; cases h) hlk (by decide) (by decide) (fun fs hr => retN X1 hx (t := .boolean) hret (by simp) (dd at_451) hr) ?_
    exact ⟨rfl, N1⟩
  · refine Gz.icmpNo 276 X1 hx (dd at_273) (flt hc2).1 rfl ?_
    refine Gz.iload 278 X1 hx (dd at_276) rfl rfl ?_
    refine Gz.iload 280 X1 hx (dd at_278) rfl rfl ?_
    refine Gz.iaddV 281 (2 : Int32) X1 hx (dd at_280) rfl rfl ?_
    refine Gz.iload 283 X1 hx (dd at_281) rfl rfl ?_
    refine Gz.icmpYes 331 X1 hx (dd at_283) (tlt (by decide : (0 : Int32) < (2 : Int32))).2.2.1 (by decide) (by decide) ?_
    refine Gz.iload 333 X1 hx (dd at_331) rfl rfl ?_
    refine Gz.iconst 334 (2 : Int32) X1 hx (dd at_333) rfl rfl ?_
    by_cases hc3 : rr < (2 : Int32)
    · refine Gz.icmpYes 390 X1 hx (dd at_334) (tlt hc3).1 (by decide) (by decide) ?_
      refine Gz.iload 392 X1 hx (dd at_390) rfl rfl ?_
      refine Gz.iconst 393 (3 : Int32) X1 hx (dd at_392) rfl rfl ?_
      refine Gz.icmpYes 449 X1 hx (dd at_393) (tlt (own_ALt32 hc3 (by decide) : rr < (3 : Int32))).1 (by decide) (by decide) ?_
      refine Gz.iload 451 X1 hx (dd at_449) rfl rfl ?_
      refine Gz.fin X1 (v := some (.int (1 : Int32))) (fun h => by rw [hret] at h; cases h) hlk (by decide) (by decide) (fun fs hr => retN X1 hx (t := .boolean) hret (by simp) (dd at_451) hr) ?_
      exact ⟨rfl, N1⟩
    · refine Gz.icmpNo 337 X1 hx (dd at_334) (flt hc3).1 rfl ?_
      refine Gz.iload 339 X1 hx (dd at_337) rfl rfl ?_
      refine Gz.ifYes 390 X1 hx (dd at_339) ((if0 _ _).trans (flt (by decide : ¬ ((0 : Int32) < (0 : Int32)))).2.2.2) (by decide) (by decide) ?_
      refine Gz.iload 392 X1 hx (dd at_390) rfl rfl ?_
      refine Gz.iconst 393 (3 : Int32) X1 hx (dd at_392) rfl rfl ?_
      by_cases hc4 : rr < (3 : Int32)
      · refine Gz.icmpYes 449 X1 hx (dd at_393) (tlt hc4).1 (by decide) (by decide) ?_
        refine Gz.iload 451 X1 hx (dd at_449) rfl rfl ?_
        refine Gz.fin X1 (v := some (.int (1 : Int32))) (fun h => by rw [hret] at h; cases h) hlk (by decide) (by decide) (fun fs hr => retN X1 hx (t := .boolean) hret (by simp) (dd at_451) hr) ?_
        exact ⟨rfl, N1⟩
      · refine Gz.icmpNo 396 X1 hx (dd at_393) (flt hc4).1 rfl ?_
        refine Gz.iload 398 X1 hx (dd at_396) rfl rfl ?_
        refine Gz.ifYes 449 X1 hx (dd at_398) ((if0 _ _).trans (flt (by decide : ¬ ((0 : Int32) < (0 : Int32)))).2.2.2) (by decide) (by decide) ?_
        refine Gz.iload 451 X1 hx (dd at_449) rfl rfl ?_
        refine Gz.fin X1 (v := some (.int (1 : Int32))) (fun h => by rw [hret] at h; cases h) hlk (by decide) (by decide) (fun fs hr => retN X1 hx (t := .boolean) hret (by simp) (dd at_451) hr) ?_
        exact ⟨rfl, N1⟩
set_option maxRecDepth 65536 in
set_option maxHeartbeats 40000000 in
theorem sg_1_x_1 {p : Program} {l : Launch} {e : Env} {s : State} {m : MethodId} {args : Array Value} {below : List Frame} {meth : Method} {c : Code} {T0 : State} {locs : List Loc} {Z : State} {av0 : Array Value} {hS : Heap} (s0 : Slot) (s1 : Slot) (s2 : Slot) (s3 : Slot) (s4 : Slot) (s5 : Slot) (s6 : Slot) (s7 : Slot) (rr : Int32) (s9 : Slot) (s10 : Slot) (s11 : Slot) (rd : Addr) (s17 : Slot) (ba : Addr) (k_ba : ClassId) (w0 : Int32) (n0 : Nat)
    (X0 : Stand p l e room_1 s m args below meth c T0 locs 2 5) (hx : p.tables.exec = Jvm.exec) (hZ : Z.Warmed39 s.vm) (hw : ∀ d ∈ tables_1, d.before av0 Z = true) (hby : c.code = code) (hml : c.maxLocals = 18) (hown : s.vm.findClass "com/example/bad_status/badstatus/model/ProtoReaderHasMorePinLaw" = some m.cls) (hret : meth.sig.returnType = some .boolean) (hlk : meth.locks = false) (e0 : T0.heap = hS) (N0 : Fr n0 locs) (Z0 : n0 ≤ hS.size) (E_rd : Exa Z hS rd "com/example/bad_status/badstatus/model/ProtoReader") (F_bytes_rd : Fld Z hS rd "com/example/bad_status/badstatus/model/ProtoReader" "bytes" "[B" (.ref ba)) (F_position_rd : Fld Z hS rd "com/example/bad_status/badstatus/model/ProtoReader" "position" "I" (.int (0 : Int32))) (F_end_rd : Fld Z hS rd "com/example/bad_status/badstatus/model/ProtoReader" "end" "I" (.int (1 : Int32))) (g_rd : n0 ≤ rd) (V_ba : Arv Z hS ba k_ba .byte (1 : Int32) [(.int w0)] (.int (0 : Int32))) (ne_ba_rd : ba ≠ rd) (hw0 : ¬ (w0 < (0 : Int32))) :
    Gz p e below s 16 128 (Q_law n0) (T0.setTop (mkF m 240 #[s0, s1, s2, s3, s4, s5, s6, s7, .val (.int rr), s9, s10, s11, .val (.int (1 : Int32)), .val (.ref rd), .val (.int (1 : Int32)), .val (.int (0 : Int32)), .val (.int (1 : Int32)), s17] [])) := by
  have dd : ∀ {pc : Nat} {r : Except DecodeError (Instr × Nat)}, decode code pc = r → decode c.code pc = r := fun q => hb hby q
  refine Gz.iload 242 X0 hx (dd at_240) rfl rfl ?_
  refine Gz.ifNo 245 X0 hx (dd at_242) ((if0 _ _).trans (feq (by decide : ¬ ((1 : Int32) = (0 : Int32)))).1) rfl ?_
  refine Gz.aload 247 X0 hx (dd at_245) rfl rfl rfl ?_
  obtain ⟨cq1, kq1, q1a, q1b, q1c⟩ := isOf hZ e0 E_rd
  obtain ⟨_, _, ⟨T1, L1, k1, n1⟩, -, X1, ⟨Lc1, hQ1, l1, y1, z1⟩, st1⟩ := X0.virtualBack hx (y := ym3) (z := ym3) hown (mvT hZ (ww hw 22 rfl)) (mvT hZ (ww hw 23 rfl)) (notFace_of_selects (args := #[]) (mvT hZ (ww hw 25 rfl))) (mvT hZ (ww hw 25 rfl)) (mvT hZ (ww hw 24 rfl)) (by decide) (backOf (W := 0) (rm4 l Z av0 hw [] rd (0 : Int32) (1 : Int32) hS n0 Z0 F_position_rd F_end_rd) hZ (ww hw 26 rfl) (ww hw 4 rfl) (by decide) (by decide)) q1a q1c (g := (mkF m 247 #[s0, s1, s2, s3, s4, s5, s6, s7, .val (.int rr), s9, s10, s11, .val (.int (1 : Int32)), .val (.ref rd), .val (.int (1 : Int32)), .val (.int (0 : Int32)), .val (.int (1 : Int32)), s17] [(.ref rd)])) rfl (by rw [hml]; rfl) (Steps.refl _) (argsL := []) (rest := []) (lenOf pd_3 rfl) rfl (Nat.le_refl _) (dd at_247) (fun _ _ => ⟨rfl, e0, (by decide : 2 + 0 ≤ _), (by decide : 5 + 0 ≤ _)⟩)
  dsimp only [Pt.U, Pt.locs, Pt.cells, Pt.slots, Q_rm4] at X1 l1 y1 z1 st1 hQ1
  subst l1 y1 z1
  rw [show (fHM rd (0 : Int32) (1 : Int32)) = (1 : Int32) from (by unfold fHM; rw [if_pos (by decide : (0 : Int32) < (1 : Int32))]; try decide)] at hQ1
  obtain ⟨rfl, N1q, e1⟩ := hQ1
  have N1 := Fr.app N0 N1q
  refine Gz.tr st1 ?_
  refine Gz.iload 252 X1 hx (dd at_250) rfl rfl ?_
  refine Gz.ifNo 255 X1 hx (dd at_252) ((if0 _ _).trans (tlt (by decide : (0 : Int32) < (1 : Int32))).2.2.2) rfl ?_
  refine Gz.iconst 256 (1 : Int32) X1 hx (dd at_255) rfl rfl ?_
  refine Gz.goto 260 X1 hx (dd at_256) (by decide) (by decide) ?_
  refine Gz.icmpNo 263 X1 hx (dd at_260) (teq (by decide : (1 : Int32) = (1 : Int32))).2 rfl ?_
  refine Gz.iconst 264 (1 : Int32) X1 hx (dd at_263) rfl rfl ?_
  refine Gz.goto 268 X1 hx (dd at_264) (by decide) (by decide) ?_
  refine Gz.istore 270 #[s0, s1, s2, s3, s4, s5, s6, s7, .val (.int rr), s9, s10, s11, .val (.int (1 : Int32)), .val (.ref rd), .val (.int (1 : Int32)), .val (.int (0 : Int32)), .val (.int (1 : Int32)), s17] X1 hx (dd at_268) rfl rfl ?_
  refine Gz.iload 272 X1 hx (dd at_270) rfl rfl ?_
  refine Gz.iconst 273 (1 : Int32) X1 hx (dd at_272) rfl rfl ?_
  by_cases hc2 : rr < (1 : Int32)
  · refine Gz.icmpYes 331 X1 hx (dd at_273) (tlt hc2).1 (by decide) (by decide) ?_
    refine Gz.iload 333 X1 hx (dd at_331) rfl rfl ?_
    refine Gz.iconst 334 (2 : Int32) X1 hx (dd at_333) rfl rfl ?_
    refine Gz.icmpYes 390 X1 hx (dd at_334) (tlt (own_ALt32 hc2 (by decide) : rr < (2 : Int32))).1 (by decide) (by decide) ?_
    refine Gz.iload 392 X1 hx (dd at_390) rfl rfl ?_
    refine Gz.iconst 393 (3 : Int32) X1 hx (dd at_392) rfl rfl ?_
    refine Gz.icmpYes 449 X1 hx (dd at_393) (tlt (own_ALt32 hc2 (by decide) : rr < (3 : Int32))).1 (by decide) (by decide) ?_
    refine Gz.iload 451 X1 hx (dd at_449) rfl rfl ?_
    refine Gz.fin X1 (v := some (.int (1 : Int32))) (fun h => by rw [hret] at h; cases h) hlk (by decide) (by decide) (fun fs hr => retN X1 hx (t := .boolean) hret (by simp) (dd at_451) hr) ?_
    exact ⟨rfl, N1⟩
  · refine Gz.icmpNo 276 X1 hx (dd at_273) (flt hc2).1 rfl ?_
    refine Gz.iload 278 X1 hx (dd at_276) rfl rfl ?_
    refine Gz.iload 280 X1 hx (dd at_278) rfl rfl ?_
    refine Gz.iaddV 281 (1 : Int32) X1 hx (dd at_280) rfl rfl ?_
    refine Gz.iload 283 X1 hx (dd at_281) rfl rfl ?_
    refine Gz.icmpNo 286 X1 hx (dd at_283) (flt (by decide : ¬ ((1 : Int32) < (1 : Int32)))).2.2.1 rfl ?_
    refine Gz.aload 288 X1 hx (dd at_286) rfl rfl rfl ?_
    obtain ⟨c3, A3, q3, S3, N3, H3, G3⟩ := id V_ba
    have hin4 : ¬ ((0 : Int32) < 0 ∨ c3.slots.size ≤ ((0 : Int32)).toNatClampNeg) := inb_of S3 ⟨by decide, by decide⟩
    have hat4 : c3.slots[((0 : Int32)).toNatClampNeg]? = some (.int w0) := Has.at H3 hin4 rfl
    obtain ⟨cq5, kq5, q5a, q5b, q5c⟩ := isOf hZ e1 E_rd
    obtain ⟨_, _, ⟨T5, L5, k5, n5⟩, -, X5, ⟨Lc5, hQ5, l5, y5, z5⟩, st5⟩ := X1.virtualBack hx (y := ym1) (z := ym1) hown (mvT hZ (ww hw 27 rfl)) (mvT hZ (ww hw 28 rfl)) (notFace_of_selects (args := #[]) (mvT hZ (ww hw 30 rfl))) (mvT hZ (ww hw 30 rfl)) (mvT hZ (ww hw 29 rfl)) (by decide) (backOf (W := 0) (rmV1 l Z av0 hw [] rd ba (0 : Int32) (1 : Int32) c3 w0 hS n0 Z0 E_rd F_bytes_rd F_position_rd F_end_rd g_rd A3 ne_ba_rd hin4 hat4 (by decide : ¬ ((0 : Int32) = (1 : Int32))) hw0) hZ (ww hw 31 rfl) (ww hw 4 rfl) (by decide) (by decide)) q5a q5c (g := (mkF m 288 #[s0, s1, s2, s3, s4, s5, s6, s7, .val (.int rr), s9, s10, s11, .val (.int (1 : Int32)), .val (.ref rd), .val (.int (1 : Int32)), .val (.int (0 : Int32)), .val (.int (1 : Int32)), s17] [(.ref rd)])) rfl (by rw [hml]; rfl) (Steps.refl _) (argsL := []) (rest := []) (lenOf pd_1 rfl) rfl (Nat.le_refl _) (dd at_288) (fun _ _ => ⟨rfl, e1, (by decide : 2 + 0 ≤ _), (by decide : 5 + 0 ≤ _)⟩)
    dsimp only [Pt.U, Pt.locs, Pt.cells, Pt.slots, Q_rmV1] at X5 l5 y5 z5 st5 hQ5
    subst l5 y5 z5
    obtain ⟨rfl, N5q, K5q, QE5_0, QF5_0, QF5_1, QF5_2⟩ := hQ5
    have N5 := Fr.app N1 N5q
    have f5_E_rd := Exa.keep E_rd K5q
    have f5_V_ba := Arv.keep V_ba K5q (ninS ne_ba_rd nin0)
    have SZ5 := Nat.le_trans Z0 K5q.1
    replace QF5_1 : Fld Z T5.heap rd "com/example/bad_status/badstatus/model/ProtoReader" "position" "I" (.int (1 : Int32)) := QF5_1
    refine Gz.tr st5 ?_
    refine Gz.st (S' := (T5.setTop (mkF m 292 #[s0, s1, s2, s3, s4, s5, s6, s7, .val (.int rr), s9, s10, s11, .val (.int (1 : Int32)), .val (.ref rd), .val (.int (1 : Int32)), .val (.int (0 : Int32)), .val (.int (1 : Int32)), s17] []))) (fun t k => by jvm_step X5.here [X5.here.top, hx, (dd at_291), Value.category]; exact k) ?_
    refine Gz.iload 294 X5 hx (dd at_292) rfl rfl ?_
    refine Gz.iload 296 X5 hx (dd at_294) rfl rfl ?_
    refine Gz.iaddV 297 (1 : Int32) X5 hx (dd at_296) rfl rfl ?_
    refine Gz.istore 299 #[s0, s1, s2, s3, s4, s5, s6, s7, .val (.int rr), s9, s10, s11, .val (.int (1 : Int32)), .val (.ref rd), .val (.int (1 : Int32)), .val (.int (1 : Int32)), .val (.int (1 : Int32)), s17] X5 hx (dd at_297) rfl rfl ?_
    refine Gz.iload 301 X5 hx (dd at_299) rfl rfl ?_
    refine Gz.ifNo 304 X5 hx (dd at_301) ((if0 _ _).trans (feq (by decide : ¬ ((1 : Int32) = (0 : Int32)))).1) rfl ?_
    refine Gz.aload 306 X5 hx (dd at_304) rfl rfl rfl ?_
    obtain ⟨cq6, kq6, q6a, q6b, q6c⟩ := isOf hZ rfl QE5_0
    obtain ⟨_, _, ⟨T6, L6, k6, n6⟩, -, X6, ⟨Lc6, hQ6, l6, y6, z6⟩, st6⟩ := X5.virtualBack hx (y := ym3) (z := ym3) hown (mvT hZ (ww hw 22 rfl)) (mvT hZ (ww hw 23 rfl)) (notFace_of_selects (args := #[]) (mvT hZ (ww hw 25 rfl))) (mvT hZ (ww hw 25 rfl)) (mvT hZ (ww hw 24 rfl)) (by decide) (backOf (W := 0) (rm4 l Z av0 hw [] rd (1 : Int32) (1 : Int32) T5.heap n0 SZ5 QF5_1 QF5_2) hZ (ww hw 26 rfl) (ww hw 4 rfl) (by decide) (by decide)) q6a q6c (g := (mkF m 306 #[s0, s1, s2, s3, s4, s5, s6, s7, .val (.int rr), s9, s10, s11, .val (.int (1 : Int32)), .val (.ref rd), .val (.int (1 : Int32)), .val (.int (1 : Int32)), .val (.int (1 : Int32)), s17] [(.ref rd)])) rfl (by rw [hml]; rfl) (Steps.refl _) (argsL := []) (rest := []) (lenOf pd_3 rfl) rfl (Nat.le_refl _) (dd at_306) (fun _ _ => ⟨rfl, rfl, (by decide : 2 + 0 ≤ _), (by decide : 5 + 0 ≤ _)⟩)
    dsimp only [Pt.U, Pt.locs, Pt.cells, Pt.slots, Q_rm4] at X6 l6 y6 z6 st6 hQ6
    subst l6 y6 z6
    rw [show (fHM rd (1 : Int32) (1 : Int32)) = (0 : Int32) from (by unfold fHM; rw [if_neg (by decide : ¬ ((1 : Int32) < (1 : Int32)))]; try decide)] at hQ6
    obtain ⟨rfl, N6q, e6⟩ := hQ6
    have N6 := Fr.app N5 N6q
    refine Gz.tr st6 ?_
    refine Gz.iload 311 X6 hx (dd at_309) rfl rfl ?_
    refine Gz.iload 313 X6 hx (dd at_311) rfl rfl ?_
    refine Gz.icmpYes 320 X6 hx (dd at_313) (flt (by decide : ¬ ((1 : Int32) < (1 : Int32)))).2.1 (by decide) (by decide) ?_
    refine Gz.iconst 321 (0 : Int32) X6 hx (dd at_320) rfl rfl ?_
    refine Gz.icmpNo 324 X6 hx (dd at_321) (teq (by decide : (0 : Int32) = (0 : Int32))).2 rfl ?_
    refine Gz.iconst 325 (1 : Int32) X6 hx (dd at_324) rfl rfl ?_
    refine Gz.goto 329 X6 hx (dd at_325) (by decide) (by decide) ?_
    refine Gz.istore 331 #[s0, s1, s2, s3, s4, s5, s6, s7, .val (.int rr), s9, s10, s11, .val (.int (1 : Int32)), .val (.ref rd), .val (.int (1 : Int32)), .val (.int (1 : Int32)), .val (.int (1 : Int32)), s17] X6 hx (dd at_329) rfl rfl ?_
    refine Gz.iload 333 X6 hx (dd at_331) rfl rfl ?_
    refine Gz.iconst 334 (2 : Int32) X6 hx (dd at_333) rfl rfl ?_
    by_cases hc7 : rr < (2 : Int32)
    · refine Gz.icmpYes 390 X6 hx (dd at_334) (tlt hc7).1 (by decide) (by decide) ?_
      refine Gz.iload 392 X6 hx (dd at_390) rfl rfl ?_
      refine Gz.iconst 393 (3 : Int32) X6 hx (dd at_392) rfl rfl ?_
      refine Gz.icmpYes 449 X6 hx (dd at_393) (tlt (own_ALt32 hc7 (by decide) : rr < (3 : Int32))).1 (by decide) (by decide) ?_
      refine Gz.iload 451 X6 hx (dd at_449) rfl rfl ?_
      refine Gz.fin X6 (v := some (.int (1 : Int32))) (fun h => by rw [hret] at h; cases h) hlk (by decide) (by decide) (fun fs hr => retN X6 hx (t := .boolean) hret (by simp) (dd at_451) hr) ?_
      exact ⟨rfl, N6⟩
    · refine Gz.icmpNo 337 X6 hx (dd at_334) (flt hc7).1 rfl ?_
      refine Gz.iload 339 X6 hx (dd at_337) rfl rfl ?_
      refine Gz.ifNo 342 X6 hx (dd at_339) ((if0 _ _).trans (tlt (by decide : (0 : Int32) < (1 : Int32))).2.2.2) rfl ?_
      refine Gz.iload 344 X6 hx (dd at_342) rfl rfl ?_
      refine Gz.iload 346 X6 hx (dd at_344) rfl rfl ?_
      refine Gz.icmpYes 390 X6 hx (dd at_346) (flt (by decide : ¬ ((1 : Int32) < (1 : Int32)))).2.1 (by decide) (by decide) ?_
      refine Gz.iload 392 X6 hx (dd at_390) rfl rfl ?_
      refine Gz.iconst 393 (3 : Int32) X6 hx (dd at_392) rfl rfl ?_
      by_cases hc8 : rr < (3 : Int32)
      · refine Gz.icmpYes 449 X6 hx (dd at_393) (tlt hc8).1 (by decide) (by decide) ?_
        refine Gz.iload 451 X6 hx (dd at_449) rfl rfl ?_
        refine Gz.fin X6 (v := some (.int (1 : Int32))) (fun h => by rw [hret] at h; cases h) hlk (by decide) (by decide) (fun fs hr => retN X6 hx (t := .boolean) hret (by simp) (dd at_451) hr) ?_
        exact ⟨rfl, N6⟩
      · refine Gz.icmpNo 396 X6 hx (dd at_393) (flt hc8).1 rfl ?_
        refine Gz.iload 398 X6 hx (dd at_396) rfl rfl ?_
        refine Gz.ifNo 401 X6 hx (dd at_398) ((if0 _ _).trans (tlt (by decide : (0 : Int32) < (1 : Int32))).2.2.2) rfl ?_
        refine Gz.iload 403 X6 hx (dd at_401) rfl rfl ?_
        refine Gz.iload 405 X6 hx (dd at_403) rfl rfl ?_
        refine Gz.icmpYes 449 X6 hx (dd at_405) (flt (by decide : ¬ ((1 : Int32) < (1 : Int32)))).2.1 (by decide) (by decide) ?_
        refine Gz.iload 451 X6 hx (dd at_449) rfl rfl ?_
        refine Gz.fin X6 (v := some (.int (1 : Int32))) (fun h => by rw [hret] at h; cases h) hlk (by decide) (by decide) (fun fs hr => retN X6 hx (t := .boolean) hret (by simp) (dd at_451) hr) ?_
        exact ⟨rfl, N6⟩
set_option maxRecDepth 65536 in
set_option maxHeartbeats 40000000 in
theorem sg_1_x_2 {p : Program} {l : Launch} {e : Env} {s : State} {m : MethodId} {args : Array Value} {below : List Frame} {meth : Method} {c : Code} {T0 : State} {locs : List Loc} {Z : State} {av0 : Array Value} {hS : Heap} (s0 : Slot) (s1 : Slot) (s2 : Slot) (s3 : Slot) (s4 : Slot) (s5 : Slot) (s6 : Slot) (s7 : Slot) (rr : Int32) (s9 : Slot) (s10 : Slot) (s11 : Slot) (rd : Addr) (s17 : Slot) (ba : Addr) (k_ba : ClassId) (w0 : Int32) (n0 : Nat)
    (X0 : Stand p l e room_1 s m args below meth c T0 locs 2 5) (hx : p.tables.exec = Jvm.exec) (hZ : Z.Warmed39 s.vm) (hw : ∀ d ∈ tables_1, d.before av0 Z = true) (hby : c.code = code) (hml : c.maxLocals = 18) (hown : s.vm.findClass "com/example/bad_status/badstatus/model/ProtoReaderHasMorePinLaw" = some m.cls) (hret : meth.sig.returnType = some .boolean) (hlk : meth.locks = false) (e0 : T0.heap = hS) (N0 : Fr n0 locs) (Z0 : n0 ≤ hS.size) (E_rd : Exa Z hS rd "com/example/bad_status/badstatus/model/ProtoReader") (F_bytes_rd : Fld Z hS rd "com/example/bad_status/badstatus/model/ProtoReader" "bytes" "[B" (.ref ba)) (F_position_rd : Fld Z hS rd "com/example/bad_status/badstatus/model/ProtoReader" "position" "I" (.int (0 : Int32))) (F_end_rd : Fld Z hS rd "com/example/bad_status/badstatus/model/ProtoReader" "end" "I" (.int (1 : Int32))) (g_rd : n0 ≤ rd) (V_ba : Arv Z hS ba k_ba .byte (1 : Int32) [(.int w0)] (.int (0 : Int32))) (ne_ba_rd : ba ≠ rd) (hw0 : w0 < (0 : Int32)) :
    Gz p e below s 16 128 (Q_law n0) (T0.setTop (mkF m 240 #[s0, s1, s2, s3, s4, s5, s6, s7, .val (.int rr), s9, s10, s11, .val (.int (1 : Int32)), .val (.ref rd), .val (.int (1 : Int32)), .val (.int (0 : Int32)), .val (.int (2 : Int32)), s17] [])) := by
  have dd : ∀ {pc : Nat} {r : Except DecodeError (Instr × Nat)}, decode code pc = r → decode c.code pc = r := fun q => hb hby q
  refine Gz.iload 242 X0 hx (dd at_240) rfl rfl ?_
  refine Gz.ifNo 245 X0 hx (dd at_242) ((if0 _ _).trans (feq (by decide : ¬ ((1 : Int32) = (0 : Int32)))).1) rfl ?_
  refine Gz.aload 247 X0 hx (dd at_245) rfl rfl rfl ?_
  obtain ⟨cq1, kq1, q1a, q1b, q1c⟩ := isOf hZ e0 E_rd
  obtain ⟨_, _, ⟨T1, L1, k1, n1⟩, -, X1, ⟨Lc1, hQ1, l1, y1, z1⟩, st1⟩ := X0.virtualBack hx (y := ym3) (z := ym3) hown (mvT hZ (ww hw 22 rfl)) (mvT hZ (ww hw 23 rfl)) (notFace_of_selects (args := #[]) (mvT hZ (ww hw 25 rfl))) (mvT hZ (ww hw 25 rfl)) (mvT hZ (ww hw 24 rfl)) (by decide) (backOf (W := 0) (rm4 l Z av0 hw [] rd (0 : Int32) (1 : Int32) hS n0 Z0 F_position_rd F_end_rd) hZ (ww hw 26 rfl) (ww hw 4 rfl) (by decide) (by decide)) q1a q1c (g := (mkF m 247 #[s0, s1, s2, s3, s4, s5, s6, s7, .val (.int rr), s9, s10, s11, .val (.int (1 : Int32)), .val (.ref rd), .val (.int (1 : Int32)), .val (.int (0 : Int32)), .val (.int (2 : Int32)), s17] [(.ref rd)])) rfl (by rw [hml]; rfl) (Steps.refl _) (argsL := []) (rest := []) (lenOf pd_3 rfl) rfl (Nat.le_refl _) (dd at_247) (fun _ _ => ⟨rfl, e0, (by decide : 2 + 0 ≤ _), (by decide : 5 + 0 ≤ _)⟩)
  dsimp only [Pt.U, Pt.locs, Pt.cells, Pt.slots, Q_rm4] at X1 l1 y1 z1 st1 hQ1
  subst l1 y1 z1
  rw [show (fHM rd (0 : Int32) (1 : Int32)) = (1 : Int32) from (by unfold fHM; rw [if_pos (by decide : (0 : Int32) < (1 : Int32))]; try decide)] at hQ1
  obtain ⟨rfl, N1q, e1⟩ := hQ1
  have N1 := Fr.app N0 N1q
  refine Gz.tr st1 ?_
  refine Gz.iload 252 X1 hx (dd at_250) rfl rfl ?_
  refine Gz.ifNo 255 X1 hx (dd at_252) ((if0 _ _).trans (tlt (by decide : (0 : Int32) < (1 : Int32))).2.2.2) rfl ?_
  refine Gz.iconst 256 (1 : Int32) X1 hx (dd at_255) rfl rfl ?_
  refine Gz.goto 260 X1 hx (dd at_256) (by decide) (by decide) ?_
  refine Gz.icmpNo 263 X1 hx (dd at_260) (teq (by decide : (1 : Int32) = (1 : Int32))).2 rfl ?_
  refine Gz.iconst 264 (1 : Int32) X1 hx (dd at_263) rfl rfl ?_
  refine Gz.goto 268 X1 hx (dd at_264) (by decide) (by decide) ?_
  refine Gz.istore 270 #[s0, s1, s2, s3, s4, s5, s6, s7, .val (.int rr), s9, s10, s11, .val (.int (1 : Int32)), .val (.ref rd), .val (.int (1 : Int32)), .val (.int (0 : Int32)), .val (.int (2 : Int32)), s17] X1 hx (dd at_268) rfl rfl ?_
  refine Gz.iload 272 X1 hx (dd at_270) rfl rfl ?_
  refine Gz.iconst 273 (1 : Int32) X1 hx (dd at_272) rfl rfl ?_
  by_cases hc2 : rr < (1 : Int32)
  · refine Gz.icmpYes 331 X1 hx (dd at_273) (tlt hc2).1 (by decide) (by decide) ?_
    refine Gz.iload 333 X1 hx (dd at_331) rfl rfl ?_
    refine Gz.iconst 334 (2 : Int32) X1 hx (dd at_333) rfl rfl ?_
    refine Gz.icmpYes 390 X1 hx (dd at_334) (tlt (own_ALt32 hc2 (by decide) : rr < (2 : Int32))).1 (by decide) (by decide) ?_
    refine Gz.iload 392 X1 hx (dd at_390) rfl rfl ?_
    refine Gz.iconst 393 (3 : Int32) X1 hx (dd at_392) rfl rfl ?_
    refine Gz.icmpYes 449 X1 hx (dd at_393) (tlt (own_ALt32 hc2 (by decide) : rr < (3 : Int32))).1 (by decide) (by decide) ?_
    refine Gz.iload 451 X1 hx (dd at_449) rfl rfl ?_
    refine Gz.fin X1 (v := some (.int (1 : Int32))) (fun h => by rw [hret] at h; cases h) hlk (by decide) (by decide) (fun fs hr => retN X1 hx (t := .boolean) hret (by simp) (dd at_451) hr) ?_
    exact ⟨rfl, N1⟩
  · refine Gz.icmpNo 276 X1 hx (dd at_273) (flt hc2).1 rfl ?_
    refine Gz.iload 278 X1 hx (dd at_276) rfl rfl ?_
    refine Gz.iload 280 X1 hx (dd at_278) rfl rfl ?_
    refine Gz.iaddV 281 (2 : Int32) X1 hx (dd at_280) rfl rfl ?_
    refine Gz.iload 283 X1 hx (dd at_281) rfl rfl ?_
    refine Gz.icmpYes 331 X1 hx (dd at_283) (tlt (by decide : (1 : Int32) < (2 : Int32))).2.2.1 (by decide) (by decide) ?_
    refine Gz.iload 333 X1 hx (dd at_331) rfl rfl ?_
    refine Gz.iconst 334 (2 : Int32) X1 hx (dd at_333) rfl rfl ?_
    by_cases hc3 : rr < (2 : Int32)
    · refine Gz.icmpYes 390 X1 hx (dd at_334) (tlt hc3).1 (by decide) (by decide) ?_
      refine Gz.iload 392 X1 hx (dd at_390) rfl rfl ?_
      refine Gz.iconst 393 (3 : Int32) X1 hx (dd at_392) rfl rfl ?_
      refine Gz.icmpYes 449 X1 hx (dd at_393) (tlt (own_ALt32 hc3 (by decide) : rr < (3 : Int32))).1 (by decide) (by decide) ?_
      refine Gz.iload 451 X1 hx (dd at_449) rfl rfl ?_
      refine Gz.fin X1 (v := some (.int (1 : Int32))) (fun h => by rw [hret] at h; cases h) hlk (by decide) (by decide) (fun fs hr => retN X1 hx (t := .boolean) hret (by simp) (dd at_451) hr) ?_
      exact ⟨rfl, N1⟩
    · refine Gz.icmpNo 337 X1 hx (dd at_334) (flt hc3).1 rfl ?_
      refine Gz.iload 339 X1 hx (dd at_337) rfl rfl ?_
      refine Gz.ifYes 390 X1 hx (dd at_339) ((if0 _ _).trans (flt (by decide : ¬ ((0 : Int32) < (0 : Int32)))).2.2.2) (by decide) (by decide) ?_
      refine Gz.iload 392 X1 hx (dd at_390) rfl rfl ?_
      refine Gz.iconst 393 (3 : Int32) X1 hx (dd at_392) rfl rfl ?_
      by_cases hc4 : rr < (3 : Int32)
      · refine Gz.icmpYes 449 X1 hx (dd at_393) (tlt hc4).1 (by decide) (by decide) ?_
        refine Gz.iload 451 X1 hx (dd at_449) rfl rfl ?_
        refine Gz.fin X1 (v := some (.int (1 : Int32))) (fun h => by rw [hret] at h; cases h) hlk (by decide) (by decide) (fun fs hr => retN X1 hx (t := .boolean) hret (by simp) (dd at_451) hr) ?_
        exact ⟨rfl, N1⟩
      · refine Gz.icmpNo 396 X1 hx (dd at_393) (flt hc4).1 rfl ?_
        refine Gz.iload 398 X1 hx (dd at_396) rfl rfl ?_
        refine Gz.ifYes 449 X1 hx (dd at_398) ((if0 _ _).trans (flt (by decide : ¬ ((0 : Int32) < (0 : Int32)))).2.2.2) (by decide) (by decide) ?_
        refine Gz.iload 451 X1 hx (dd at_449) rfl rfl ?_
        refine Gz.fin X1 (v := some (.int (1 : Int32))) (fun h => by rw [hret] at h; cases h) hlk (by decide) (by decide) (fun fs hr => retN X1 hx (t := .boolean) hret (by simp) (dd at_451) hr) ?_
        exact ⟨rfl, N1⟩
set_option maxRecDepth 65536 in
set_option maxHeartbeats 40000000 in
theorem sg_1_0_1 {p : Program} {l : Launch} {e : Env} {s : State} {m : MethodId} {args : Array Value} {below : List Frame} {meth : Method} {c : Code} {T0 : State} {locs : List Loc} {Z : State} {av0 : Array Value} {hS : Heap} (s0 : Slot) (s1 : Slot) (s2 : Slot) (s3 : Slot) (s4 : Slot) (s5 : Slot) (s6 : Slot) (s7 : Slot) (rr : Int32) (s9 : Slot) (s10 : Slot) (s11 : Slot) (rd : Addr) (s17 : Slot) (ba : Addr) (k_ba : ClassId) (n0 : Nat)
    (X0 : Stand p l e room_1 s m args below meth c T0 locs 3 9) (hx : p.tables.exec = Jvm.exec) (hZ : Z.Warmed39 s.vm) (hw : ∀ d ∈ tables_1, d.before av0 Z = true) (hby : c.code = code) (hml : c.maxLocals = 18) (hown : s.vm.findClass "com/example/bad_status/badstatus/model/ProtoReaderHasMorePinLaw" = some m.cls) (hret : meth.sig.returnType = some .boolean) (hlk : meth.locks = false) (e0 : T0.heap = hS) (N0 : Fr n0 locs) (Z0 : n0 ≤ hS.size) (E_rd : Exa Z hS rd "com/example/bad_status/badstatus/model/ProtoReader") (F_bytes_rd : Fld Z hS rd "com/example/bad_status/badstatus/model/ProtoReader" "bytes" "[B" (.ref ba)) (F_position_rd : Fld Z hS rd "com/example/bad_status/badstatus/model/ProtoReader" "position" "I" (.int (1 : Int32))) (F_end_rd : Fld Z hS rd "com/example/bad_status/badstatus/model/ProtoReader" "end" "I" (.int (1 : Int32))) (g_rd : n0 ≤ rd) (V_ba : Arv Z hS ba k_ba .byte (1 : Int32) [(.int (0 : Int32))] (.int (0 : Int32))) (ne_ba_rd : ba ≠ rd) :
    Gz p e below s 16 128 (Q_law n0) (T0.setTop (mkF m 240 #[s0, s1, s2, s3, s4, s5, s6, s7, .val (.int rr), s9, s10, s11, .val (.int (1 : Int32)), .val (.ref rd), .val (.int (0 : Int32)), .val (.int (0 : Int32)), .val (.int (1 : Int32)), s17] [])) := by
  have dd : ∀ {pc : Nat} {r : Except DecodeError (Instr × Nat)}, decode code pc = r → decode c.code pc = r := fun q => hb hby q
  refine Gz.iload 242 X0 hx (dd at_240) rfl rfl ?_
  refine Gz.ifNo 245 X0 hx (dd at_242) ((if0 _ _).trans (feq (by decide : ¬ ((1 : Int32) = (0 : Int32)))).1) rfl ?_
  refine Gz.aload 247 X0 hx (dd at_245) rfl rfl rfl ?_
  obtain ⟨cq1, kq1, q1a, q1b, q1c⟩ := isOf hZ e0 E_rd
  obtain ⟨_, _, ⟨T1, L1, k1, n1⟩, -, X1, ⟨Lc1, hQ1, l1, y1, z1⟩, st1⟩ := X0.virtualBack hx (y := ym3) (z := ym3) hown (mvT hZ (ww hw 22 rfl)) (mvT hZ (ww hw 23 rfl)) (notFace_of_selects (args := #[]) (mvT hZ (ww hw 25 rfl))) (mvT hZ (ww hw 25 rfl)) (mvT hZ (ww hw 24 rfl)) (by decide) (backOf (W := 0) (rm4 l Z av0 hw [] rd (1 : Int32) (1 : Int32) hS n0 Z0 F_position_rd F_end_rd) hZ (ww hw 26 rfl) (ww hw 4 rfl) (by decide) (by decide)) q1a q1c (g := (mkF m 247 #[s0, s1, s2, s3, s4, s5, s6, s7, .val (.int rr), s9, s10, s11, .val (.int (1 : Int32)), .val (.ref rd), .val (.int (0 : Int32)), .val (.int (0 : Int32)), .val (.int (1 : Int32)), s17] [(.ref rd)])) rfl (by rw [hml]; rfl) (Steps.refl _) (argsL := []) (rest := []) (lenOf pd_3 rfl) rfl (Nat.le_refl _) (dd at_247) (fun _ _ => ⟨rfl, e0, (by decide : 3 + 0 ≤ _), (by decide : 9 + 0 ≤ _)⟩)
  dsimp only [Pt.U, Pt.locs, Pt.cells, Pt.slots, Q_rm4] at X1 l1 y1 z1 st1 hQ1
  subst l1 y1 z1
  rw [show (fHM rd (1 : Int32) (1 : Int32)) = (0 : Int32) from (by unfold fHM; rw [if_neg (by decide : ¬ ((1 : Int32) < (1 : Int32)))]; try decide)] at hQ1
  obtain ⟨rfl, N1q, e1⟩ := hQ1
  have N1 := Fr.app N0 N1q
  refine Gz.tr st1 ?_
  refine Gz.iload 252 X1 hx (dd at_250) rfl rfl ?_
  refine Gz.ifYes 259 X1 hx (dd at_252) ((if0 _ _).trans (flt (by decide : ¬ ((0 : Int32) < (0 : Int32)))).2.2.2) (by decide) (by decide) ?_
  refine Gz.iconst 260 (0 : Int32) X1 hx (dd at_259) rfl rfl ?_
  refine Gz.icmpNo 263 X1 hx (dd at_260) (teq (by decide : (0 : Int32) = (0 : Int32))).2 rfl ?_
  refine Gz.iconst 264 (1 : Int32) X1 hx (dd at_263) rfl rfl ?_
  refine Gz.goto 268 X1 hx (dd at_264) (by decide) (by decide) ?_
  refine Gz.istore 270 #[s0, s1, s2, s3, s4, s5, s6, s7, .val (.int rr), s9, s10, s11, .val (.int (1 : Int32)), .val (.ref rd), .val (.int (0 : Int32)), .val (.int (0 : Int32)), .val (.int (1 : Int32)), s17] X1 hx (dd at_268) rfl rfl ?_
  refine Gz.iload 272 X1 hx (dd at_270) rfl rfl ?_
  refine Gz.iconst 273 (1 : Int32) X1 hx (dd at_272) rfl rfl ?_
  by_cases hc2 : rr < (1 : Int32)
  · refine Gz.icmpYes 331 X1 hx (dd at_273) (tlt hc2).1 (by decide) (by decide) ?_
    refine Gz.iload 333 X1 hx (dd at_331) rfl rfl ?_
    refine Gz.iconst 334 (2 : Int32) X1 hx (dd at_333) rfl rfl ?_
    refine Gz.icmpYes 390 X1 hx (dd at_334) (tlt (own_ALt32 hc2 (by decide) : rr < (2 : Int32))).1 (by decide) (by decide) ?_
    refine Gz.iload 392 X1 hx (dd at_390) rfl rfl ?_
    refine Gz.iconst 393 (3 : Int32) X1 hx (dd at_392) rfl rfl ?_
    refine Gz.icmpYes 449 X1 hx (dd at_393) (tlt (own_ALt32 hc2 (by decide) : rr < (3 : Int32))).1 (by decide) (by decide) ?_
    refine Gz.iload 451 X1 hx (dd at_449) rfl rfl ?_
    refine Gz.fin X1 (v := some (.int (1 : Int32))) (fun h => by rw [hret] at h; cases h) hlk (by decide) (by decide) (fun fs hr => retN X1 hx (t := .boolean) hret (by simp) (dd at_451) hr) ?_
    exact ⟨rfl, N1⟩
  · refine Gz.icmpNo 276 X1 hx (dd at_273) (flt hc2).1 rfl ?_
    refine Gz.iload 278 X1 hx (dd at_276) rfl rfl ?_
    refine Gz.iload 280 X1 hx (dd at_278) rfl rfl ?_
    refine Gz.iaddV 281 (1 : Int32) X1 hx (dd at_280) rfl rfl ?_
    refine Gz.iload 283 X1 hx (dd at_281) rfl rfl ?_
    refine Gz.icmpYes 331 X1 hx (dd at_283) (tlt (by decide : (0 : Int32) < (1 : Int32))).2.2.1 (by decide) (by decide) ?_
    refine Gz.iload 333 X1 hx (dd at_331) rfl rfl ?_
    refine Gz.iconst 334 (2 : Int32) X1 hx (dd at_333) rfl rfl ?_
    by_cases hc3 : rr < (2 : Int32)
    · refine Gz.icmpYes 390 X1 hx (dd at_334) (tlt hc3).1 (by decide) (by decide) ?_
      refine Gz.iload 392 X1 hx (dd at_390) rfl rfl ?_
      refine Gz.iconst 393 (3 : Int32) X1 hx (dd at_392) rfl rfl ?_
      refine Gz.icmpYes 449 X1 hx (dd at_393) (tlt (own_ALt32 hc3 (by decide) : rr < (3 : Int32))).1 (by decide) (by decide) ?_
      refine Gz.iload 451 X1 hx (dd at_449) rfl rfl ?_
      refine Gz.fin X1 (v := some (.int (1 : Int32))) (fun h => by rw [hret] at h; cases h) hlk (by decide) (by decide) (fun fs hr => retN X1 hx (t := .boolean) hret (by simp) (dd at_451) hr) ?_
      exact ⟨rfl, N1⟩
    · refine Gz.icmpNo 337 X1 hx (dd at_334) (flt hc3).1 rfl ?_
      refine Gz.iload 339 X1 hx (dd at_337) rfl rfl ?_
      refine Gz.ifYes 390 X1 hx (dd at_339) ((if0 _ _).trans (flt (by decide : ¬ ((0 : Int32) < (0 : Int32)))).2.2.2) (by decide) (by decide) ?_
      refine Gz.iload 392 X1 hx (dd at_390) rfl rfl ?_
      refine Gz.iconst 393 (3 : Int32) X1 hx (dd at_392) rfl rfl ?_
      by_cases hc4 : rr < (3 : Int32)
      · refine Gz.icmpYes 449 X1 hx (dd at_393) (tlt hc4).1 (by decide) (by decide) ?_
        refine Gz.iload 451 X1 hx (dd at_449) rfl rfl ?_
        refine Gz.fin X1 (v := some (.int (1 : Int32))) (fun h => by rw [hret] at h; cases h) hlk (by decide) (by decide) (fun fs hr => retN X1 hx (t := .boolean) hret (by simp) (dd at_451) hr) ?_
        exact ⟨rfl, N1⟩
      · refine Gz.icmpNo 396 X1 hx (dd at_393) (flt hc4).1 rfl ?_
        refine Gz.iload 398 X1 hx (dd at_396) rfl rfl ?_
        refine Gz.ifYes 449 X1 hx (dd at_398) ((if0 _ _).trans (flt (by decide : ¬ ((0 : Int32) < (0 : Int32)))).2.2.2) (by decide) (by decide) ?_
        refine Gz.iload 451 X1 hx (dd at_449) rfl rfl ?_
        refine Gz.fin X1 (v := some (.int (1 : Int32))) (fun h => by rw [hret] at h; cases h) hlk (by decide) (by decide) (fun fs hr => retN X1 hx (t := .boolean) hret (by simp) (dd at_451) hr) ?_
        exact ⟨rfl, N1⟩
set_option maxRecDepth 65536 in
set_option maxHeartbeats 40000000 in
theorem sg_2_x_1 {p : Program} {l : Launch} {e : Env} {s : State} {m : MethodId} {args : Array Value} {below : List Frame} {meth : Method} {c : Code} {T0 : State} {locs : List Loc} {Z : State} {av0 : Array Value} {hS : Heap} (s0 : Slot) (s1 : Slot) (s2 : Slot) (s3 : Slot) (s4 : Slot) (s5 : Slot) (s6 : Slot) (s7 : Slot) (rr : Int32) (s9 : Slot) (s10 : Slot) (s11 : Slot) (rd : Addr) (s17 : Slot) (ba : Addr) (k_ba : ClassId) (w0 : Int32) (w1 : Int32) (n0 : Nat)
    (X0 : Stand p l e room_1 s m args below meth c T0 locs 2 6) (hx : p.tables.exec = Jvm.exec) (hZ : Z.Warmed39 s.vm) (hw : ∀ d ∈ tables_1, d.before av0 Z = true) (hby : c.code = code) (hml : c.maxLocals = 18) (hown : s.vm.findClass "com/example/bad_status/badstatus/model/ProtoReaderHasMorePinLaw" = some m.cls) (hret : meth.sig.returnType = some .boolean) (hlk : meth.locks = false) (e0 : T0.heap = hS) (N0 : Fr n0 locs) (Z0 : n0 ≤ hS.size) (E_rd : Exa Z hS rd "com/example/bad_status/badstatus/model/ProtoReader") (F_bytes_rd : Fld Z hS rd "com/example/bad_status/badstatus/model/ProtoReader" "bytes" "[B" (.ref ba)) (F_position_rd : Fld Z hS rd "com/example/bad_status/badstatus/model/ProtoReader" "position" "I" (.int (0 : Int32))) (F_end_rd : Fld Z hS rd "com/example/bad_status/badstatus/model/ProtoReader" "end" "I" (.int (2 : Int32))) (g_rd : n0 ≤ rd) (V_ba : Arv Z hS ba k_ba .byte (2 : Int32) [(.int w0), (.int w1)] (.int (0 : Int32))) (ne_ba_rd : ba ≠ rd) (hw1 : ¬ (w1 < (0 : Int32))) (hw0 : ¬ (w0 < (0 : Int32))) :
    Gz p e below s 16 128 (Q_law n0) (T0.setTop (mkF m 240 #[s0, s1, s2, s3, s4, s5, s6, s7, .val (.int rr), s9, s10, s11, .val (.int (1 : Int32)), .val (.ref rd), .val (.int (2 : Int32)), .val (.int (0 : Int32)), .val (.int (1 : Int32)), s17] [])) := by
  have dd : ∀ {pc : Nat} {r : Except DecodeError (Instr × Nat)}, decode code pc = r → decode c.code pc = r := fun q => hb hby q
  refine Gz.iload 242 X0 hx (dd at_240) rfl rfl ?_
  refine Gz.ifNo 245 X0 hx (dd at_242) ((if0 _ _).trans (feq (by decide : ¬ ((1 : Int32) = (0 : Int32)))).1) rfl ?_
  refine Gz.aload 247 X0 hx (dd at_245) rfl rfl rfl ?_
  obtain ⟨cq1, kq1, q1a, q1b, q1c⟩ := isOf hZ e0 E_rd
  obtain ⟨_, _, ⟨T1, L1, k1, n1⟩, -, X1, ⟨Lc1, hQ1, l1, y1, z1⟩, st1⟩ := X0.virtualBack hx (y := ym3) (z := ym3) hown (mvT hZ (ww hw 22 rfl)) (mvT hZ (ww hw 23 rfl)) (notFace_of_selects (args := #[]) (mvT hZ (ww hw 25 rfl))) (mvT hZ (ww hw 25 rfl)) (mvT hZ (ww hw 24 rfl)) (by decide) (backOf (W := 0) (rm4 l Z av0 hw [] rd (0 : Int32) (2 : Int32) hS n0 Z0 F_position_rd F_end_rd) hZ (ww hw 26 rfl) (ww hw 4 rfl) (by decide) (by decide)) q1a q1c (g := (mkF m 247 #[s0, s1, s2, s3, s4, s5, s6, s7, .val (.int rr), s9, s10, s11, .val (.int (1 : Int32)), .val (.ref rd), .val (.int (2 : Int32)), .val (.int (0 : Int32)), .val (.int (1 : Int32)), s17] [(.ref rd)])) rfl (by rw [hml]; rfl) (Steps.refl _) (argsL := []) (rest := []) (lenOf pd_3 rfl) rfl (Nat.le_refl _) (dd at_247) (fun _ _ => ⟨rfl, e0, (by decide : 2 + 0 ≤ _), (by decide : 6 + 0 ≤ _)⟩)
  dsimp only [Pt.U, Pt.locs, Pt.cells, Pt.slots, Q_rm4] at X1 l1 y1 z1 st1 hQ1
  subst l1 y1 z1
  rw [show (fHM rd (0 : Int32) (2 : Int32)) = (1 : Int32) from (by unfold fHM; rw [if_pos (by decide : (0 : Int32) < (2 : Int32))]; try decide)] at hQ1
  obtain ⟨rfl, N1q, e1⟩ := hQ1
  have N1 := Fr.app N0 N1q
  refine Gz.tr st1 ?_
  refine Gz.iload 252 X1 hx (dd at_250) rfl rfl ?_
  refine Gz.ifNo 255 X1 hx (dd at_252) ((if0 _ _).trans (tlt (by decide : (0 : Int32) < (2 : Int32))).2.2.2) rfl ?_
  refine Gz.iconst 256 (1 : Int32) X1 hx (dd at_255) rfl rfl ?_
  refine Gz.goto 260 X1 hx (dd at_256) (by decide) (by decide) ?_
  refine Gz.icmpNo 263 X1 hx (dd at_260) (teq (by decide : (1 : Int32) = (1 : Int32))).2 rfl ?_
  refine Gz.iconst 264 (1 : Int32) X1 hx (dd at_263) rfl rfl ?_
  refine Gz.goto 268 X1 hx (dd at_264) (by decide) (by decide) ?_
  refine Gz.istore 270 #[s0, s1, s2, s3, s4, s5, s6, s7, .val (.int rr), s9, s10, s11, .val (.int (1 : Int32)), .val (.ref rd), .val (.int (2 : Int32)), .val (.int (0 : Int32)), .val (.int (1 : Int32)), s17] X1 hx (dd at_268) rfl rfl ?_
  refine Gz.iload 272 X1 hx (dd at_270) rfl rfl ?_
  refine Gz.iconst 273 (1 : Int32) X1 hx (dd at_272) rfl rfl ?_
  by_cases hc2 : rr < (1 : Int32)
  · refine Gz.icmpYes 331 X1 hx (dd at_273) (tlt hc2).1 (by decide) (by decide) ?_
    refine Gz.iload 333 X1 hx (dd at_331) rfl rfl ?_
    refine Gz.iconst 334 (2 : Int32) X1 hx (dd at_333) rfl rfl ?_
    refine Gz.icmpYes 390 X1 hx (dd at_334) (tlt (own_ALt32 hc2 (by decide) : rr < (2 : Int32))).1 (by decide) (by decide) ?_
    refine Gz.iload 392 X1 hx (dd at_390) rfl rfl ?_
    refine Gz.iconst 393 (3 : Int32) X1 hx (dd at_392) rfl rfl ?_
    refine Gz.icmpYes 449 X1 hx (dd at_393) (tlt (own_ALt32 hc2 (by decide) : rr < (3 : Int32))).1 (by decide) (by decide) ?_
    refine Gz.iload 451 X1 hx (dd at_449) rfl rfl ?_
    refine Gz.fin X1 (v := some (.int (1 : Int32))) (fun h => by rw [hret] at h; cases h) hlk (by decide) (by decide) (fun fs hr => retN X1 hx (t := .boolean) hret (by simp) (dd at_451) hr) ?_
    exact ⟨rfl, N1⟩
  · refine Gz.icmpNo 276 X1 hx (dd at_273) (flt hc2).1 rfl ?_
    refine Gz.iload 278 X1 hx (dd at_276) rfl rfl ?_
    refine Gz.iload 280 X1 hx (dd at_278) rfl rfl ?_
    refine Gz.iaddV 281 (1 : Int32) X1 hx (dd at_280) rfl rfl ?_
    refine Gz.iload 283 X1 hx (dd at_281) rfl rfl ?_
    refine Gz.icmpNo 286 X1 hx (dd at_283) (flt (by decide : ¬ ((2 : Int32) < (1 : Int32)))).2.2.1 rfl ?_
    refine Gz.aload 288 X1 hx (dd at_286) rfl rfl rfl ?_
    obtain ⟨c3, A3, q3, S3, N3, H3, G3⟩ := id V_ba
    have hin4 : ¬ ((0 : Int32) < 0 ∨ c3.slots.size ≤ ((0 : Int32)).toNatClampNeg) := inb_of S3 ⟨by decide, by decide⟩
    have hat4 : c3.slots[((0 : Int32)).toNatClampNeg]? = some (.int w0) := Has.at H3 hin4 rfl
    obtain ⟨cq5, kq5, q5a, q5b, q5c⟩ := isOf hZ e1 E_rd
    obtain ⟨_, _, ⟨T5, L5, k5, n5⟩, -, X5, ⟨Lc5, hQ5, l5, y5, z5⟩, st5⟩ := X1.virtualBack hx (y := ym1) (z := ym1) hown (mvT hZ (ww hw 27 rfl)) (mvT hZ (ww hw 28 rfl)) (notFace_of_selects (args := #[]) (mvT hZ (ww hw 30 rfl))) (mvT hZ (ww hw 30 rfl)) (mvT hZ (ww hw 29 rfl)) (by decide) (backOf (W := 0) (rmV1 l Z av0 hw [] rd ba (0 : Int32) (2 : Int32) c3 w0 hS n0 Z0 E_rd F_bytes_rd F_position_rd F_end_rd g_rd A3 ne_ba_rd hin4 hat4 (by decide : ¬ ((0 : Int32) = (2 : Int32))) hw0) hZ (ww hw 31 rfl) (ww hw 4 rfl) (by decide) (by decide)) q5a q5c (g := (mkF m 288 #[s0, s1, s2, s3, s4, s5, s6, s7, .val (.int rr), s9, s10, s11, .val (.int (1 : Int32)), .val (.ref rd), .val (.int (2 : Int32)), .val (.int (0 : Int32)), .val (.int (1 : Int32)), s17] [(.ref rd)])) rfl (by rw [hml]; rfl) (Steps.refl _) (argsL := []) (rest := []) (lenOf pd_1 rfl) rfl (Nat.le_refl _) (dd at_288) (fun _ _ => ⟨rfl, e1, (by decide : 2 + 0 ≤ _), (by decide : 6 + 0 ≤ _)⟩)
    dsimp only [Pt.U, Pt.locs, Pt.cells, Pt.slots, Q_rmV1] at X5 l5 y5 z5 st5 hQ5
    subst l5 y5 z5
    obtain ⟨rfl, N5q, K5q, QE5_0, QF5_0, QF5_1, QF5_2⟩ := hQ5
    have N5 := Fr.app N1 N5q
    have f5_E_rd := Exa.keep E_rd K5q
    have f5_V_ba := Arv.keep V_ba K5q (ninS ne_ba_rd nin0)
    have SZ5 := Nat.le_trans Z0 K5q.1
    replace QF5_1 : Fld Z T5.heap rd "com/example/bad_status/badstatus/model/ProtoReader" "position" "I" (.int (1 : Int32)) := QF5_1
    refine Gz.tr st5 ?_
    refine Gz.st (S' := (T5.setTop (mkF m 292 #[s0, s1, s2, s3, s4, s5, s6, s7, .val (.int rr), s9, s10, s11, .val (.int (1 : Int32)), .val (.ref rd), .val (.int (2 : Int32)), .val (.int (0 : Int32)), .val (.int (1 : Int32)), s17] []))) (fun t k => by jvm_step X5.here [X5.here.top, hx, (dd at_291), Value.category]; exact k) ?_
    refine Gz.iload 294 X5 hx (dd at_292) rfl rfl ?_
    refine Gz.iload 296 X5 hx (dd at_294) rfl rfl ?_
    refine Gz.iaddV 297 (1 : Int32) X5 hx (dd at_296) rfl rfl ?_
    refine Gz.istore 299 #[s0, s1, s2, s3, s4, s5, s6, s7, .val (.int rr), s9, s10, s11, .val (.int (1 : Int32)), .val (.ref rd), .val (.int (2 : Int32)), .val (.int (1 : Int32)), .val (.int (1 : Int32)), s17] X5 hx (dd at_297) rfl rfl ?_
    refine Gz.iload 301 X5 hx (dd at_299) rfl rfl ?_
    refine Gz.ifNo 304 X5 hx (dd at_301) ((if0 _ _).trans (feq (by decide : ¬ ((1 : Int32) = (0 : Int32)))).1) rfl ?_
    refine Gz.aload 306 X5 hx (dd at_304) rfl rfl rfl ?_
    obtain ⟨cq6, kq6, q6a, q6b, q6c⟩ := isOf hZ rfl QE5_0
    obtain ⟨_, _, ⟨T6, L6, k6, n6⟩, -, X6, ⟨Lc6, hQ6, l6, y6, z6⟩, st6⟩ := X5.virtualBack hx (y := ym3) (z := ym3) hown (mvT hZ (ww hw 22 rfl)) (mvT hZ (ww hw 23 rfl)) (notFace_of_selects (args := #[]) (mvT hZ (ww hw 25 rfl))) (mvT hZ (ww hw 25 rfl)) (mvT hZ (ww hw 24 rfl)) (by decide) (backOf (W := 0) (rm4 l Z av0 hw [] rd (1 : Int32) (2 : Int32) T5.heap n0 SZ5 QF5_1 QF5_2) hZ (ww hw 26 rfl) (ww hw 4 rfl) (by decide) (by decide)) q6a q6c (g := (mkF m 306 #[s0, s1, s2, s3, s4, s5, s6, s7, .val (.int rr), s9, s10, s11, .val (.int (1 : Int32)), .val (.ref rd), .val (.int (2 : Int32)), .val (.int (1 : Int32)), .val (.int (1 : Int32)), s17] [(.ref rd)])) rfl (by rw [hml]; rfl) (Steps.refl _) (argsL := []) (rest := []) (lenOf pd_3 rfl) rfl (Nat.le_refl _) (dd at_306) (fun _ _ => ⟨rfl, rfl, (by decide : 2 + 0 ≤ _), (by decide : 6 + 0 ≤ _)⟩)
    dsimp only [Pt.U, Pt.locs, Pt.cells, Pt.slots, Q_rm4] at X6 l6 y6 z6 st6 hQ6
    subst l6 y6 z6
    rw [show (fHM rd (1 : Int32) (2 : Int32)) = (1 : Int32) from (by unfold fHM; rw [if_pos (by decide : (1 : Int32) < (2 : Int32))]; try decide)] at hQ6
    obtain ⟨rfl, N6q, e6⟩ := hQ6
    have N6 := Fr.app N5 N6q
    refine Gz.tr st6 ?_
    refine Gz.iload 311 X6 hx (dd at_309) rfl rfl ?_
    refine Gz.iload 313 X6 hx (dd at_311) rfl rfl ?_
    refine Gz.icmpNo 316 X6 hx (dd at_313) (tlt (by decide : (1 : Int32) < (2 : Int32))).2.1 rfl ?_
    refine Gz.iconst 317 (1 : Int32) X6 hx (dd at_316) rfl rfl ?_
    refine Gz.goto 321 X6 hx (dd at_317) (by decide) (by decide) ?_
    refine Gz.icmpNo 324 X6 hx (dd at_321) (teq (by decide : (1 : Int32) = (1 : Int32))).2 rfl ?_
    refine Gz.iconst 325 (1 : Int32) X6 hx (dd at_324) rfl rfl ?_
    refine Gz.goto 329 X6 hx (dd at_325) (by decide) (by decide) ?_
    refine Gz.istore 331 #[s0, s1, s2, s3, s4, s5, s6, s7, .val (.int rr), s9, s10, s11, .val (.int (1 : Int32)), .val (.ref rd), .val (.int (2 : Int32)), .val (.int (1 : Int32)), .val (.int (1 : Int32)), s17] X6 hx (dd at_329) rfl rfl ?_
    refine Gz.iload 333 X6 hx (dd at_331) rfl rfl ?_
    refine Gz.iconst 334 (2 : Int32) X6 hx (dd at_333) rfl rfl ?_
    by_cases hc7 : rr < (2 : Int32)
    · refine Gz.icmpYes 390 X6 hx (dd at_334) (tlt hc7).1 (by decide) (by decide) ?_
      refine Gz.iload 392 X6 hx (dd at_390) rfl rfl ?_
      refine Gz.iconst 393 (3 : Int32) X6 hx (dd at_392) rfl rfl ?_
      refine Gz.icmpYes 449 X6 hx (dd at_393) (tlt (own_ALt32 hc7 (by decide) : rr < (3 : Int32))).1 (by decide) (by decide) ?_
      refine Gz.iload 451 X6 hx (dd at_449) rfl rfl ?_
      refine Gz.fin X6 (v := some (.int (1 : Int32))) (fun h => by rw [hret] at h; cases h) hlk (by decide) (by decide) (fun fs hr => retN X6 hx (t := .boolean) hret (by simp) (dd at_451) hr) ?_
      exact ⟨rfl, N6⟩
    · refine Gz.icmpNo 337 X6 hx (dd at_334) (flt hc7).1 rfl ?_
      refine Gz.iload 339 X6 hx (dd at_337) rfl rfl ?_
      refine Gz.ifNo 342 X6 hx (dd at_339) ((if0 _ _).trans (tlt (by decide : (0 : Int32) < (1 : Int32))).2.2.2) rfl ?_
      refine Gz.iload 344 X6 hx (dd at_342) rfl rfl ?_
      refine Gz.iload 346 X6 hx (dd at_344) rfl rfl ?_
      refine Gz.icmpNo 349 X6 hx (dd at_346) (tlt (by decide : (1 : Int32) < (2 : Int32))).2.1 rfl ?_
      refine Gz.aload 351 X6 hx (dd at_349) rfl rfl rfl ?_
      obtain ⟨c8, A8, q8, S8, N8, H8, G8⟩ := id f5_V_ba
      have hin9 : ¬ ((1 : Int32) < 0 ∨ c8.slots.size ≤ ((1 : Int32)).toNatClampNeg) := inb_of S8 ⟨by decide, by decide⟩
      have hat9 : c8.slots[((1 : Int32)).toNatClampNeg]? = some (.int w1) := Has.at H8 hin9 rfl
      obtain ⟨cq10, kq10, q10a, q10b, q10c⟩ := isOf hZ e6 QE5_0
      obtain ⟨_, _, ⟨T10, L10, k10, n10⟩, -, X10, ⟨Lc10, hQ10, l10, y10, z10⟩, st10⟩ := X6.virtualBack hx (y := ym1) (z := ym1) hown (mvT hZ (ww hw 27 rfl)) (mvT hZ (ww hw 28 rfl)) (notFace_of_selects (args := #[]) (mvT hZ (ww hw 30 rfl))) (mvT hZ (ww hw 30 rfl)) (mvT hZ (ww hw 29 rfl)) (by decide) (backOf (W := 0) (rmV1 l Z av0 hw [] rd ba (1 : Int32) (2 : Int32) c8 w1 T5.heap n0 SZ5 QE5_0 QF5_0 QF5_1 QF5_2 g_rd A8 ne_ba_rd hin9 hat9 (by decide : ¬ ((1 : Int32) = (2 : Int32))) hw1) hZ (ww hw 31 rfl) (ww hw 4 rfl) (by decide) (by decide)) q10a q10c (g := (mkF m 351 #[s0, s1, s2, s3, s4, s5, s6, s7, .val (.int rr), s9, s10, s11, .val (.int (1 : Int32)), .val (.ref rd), .val (.int (2 : Int32)), .val (.int (1 : Int32)), .val (.int (1 : Int32)), s17] [(.ref rd)])) rfl (by rw [hml]; rfl) (Steps.refl _) (argsL := []) (rest := []) (lenOf pd_1 rfl) rfl (Nat.le_refl _) (dd at_351) (fun _ _ => ⟨rfl, e6, (by decide : 2 + 0 ≤ _), (by decide : 6 + 0 ≤ _)⟩)
      dsimp only [Pt.U, Pt.locs, Pt.cells, Pt.slots, Q_rmV1] at X10 l10 y10 z10 st10 hQ10
      subst l10 y10 z10
      obtain ⟨rfl, N10q, K10q, QE10_0, QF10_0, QF10_1, QF10_2⟩ := hQ10
      have N10 := Fr.app N6 N10q
      have f10_E_rd := Exa.keep QE5_0 K10q
      have f10_V_ba := Arv.keep f5_V_ba K10q (ninS ne_ba_rd nin0)
      have SZ10 := Nat.le_trans SZ5 K10q.1
      replace QF10_1 : Fld Z T10.heap rd "com/example/bad_status/badstatus/model/ProtoReader" "position" "I" (.int (2 : Int32)) := QF10_1
      refine Gz.tr st10 ?_
      refine Gz.st (S' := (T10.setTop (mkF m 355 #[s0, s1, s2, s3, s4, s5, s6, s7, .val (.int rr), s9, s10, s11, .val (.int (1 : Int32)), .val (.ref rd), .val (.int (2 : Int32)), .val (.int (1 : Int32)), .val (.int (1 : Int32)), s17] []))) (fun t k => by jvm_step X10.here [X10.here.top, hx, (dd at_354), Value.category]; exact k) ?_
      refine Gz.iinc 358 #[s0, s1, s2, s3, s4, s5, s6, s7, .val (.int rr), s9, s10, s11, .val (.int (1 : Int32)), .val (.ref rd), .val (.int (2 : Int32)), .val (.int (2 : Int32)), .val (.int (1 : Int32)), s17] X10 hx (dd at_355) rfl rfl rfl ?_
      refine Gz.iload 360 X10 hx (dd at_358) rfl rfl ?_
      refine Gz.ifNo 363 X10 hx (dd at_360) ((if0 _ _).trans (feq (by decide : ¬ ((1 : Int32) = (0 : Int32)))).1) rfl ?_
      refine Gz.aload 365 X10 hx (dd at_363) rfl rfl rfl ?_
      obtain ⟨cq11, kq11, q11a, q11b, q11c⟩ := isOf hZ rfl QE10_0
      obtain ⟨_, _, ⟨T11, L11, k11, n11⟩, -, X11, ⟨Lc11, hQ11, l11, y11, z11⟩, st11⟩ := X10.virtualBack hx (y := ym3) (z := ym3) hown (mvT hZ (ww hw 22 rfl)) (mvT hZ (ww hw 23 rfl)) (notFace_of_selects (args := #[]) (mvT hZ (ww hw 25 rfl))) (mvT hZ (ww hw 25 rfl)) (mvT hZ (ww hw 24 rfl)) (by decide) (backOf (W := 0) (rm4 l Z av0 hw [] rd (2 : Int32) (2 : Int32) T10.heap n0 SZ10 QF10_1 QF10_2) hZ (ww hw 26 rfl) (ww hw 4 rfl) (by decide) (by decide)) q11a q11c (g := (mkF m 365 #[s0, s1, s2, s3, s4, s5, s6, s7, .val (.int rr), s9, s10, s11, .val (.int (1 : Int32)), .val (.ref rd), .val (.int (2 : Int32)), .val (.int (2 : Int32)), .val (.int (1 : Int32)), s17] [(.ref rd)])) rfl (by rw [hml]; rfl) (Steps.refl _) (argsL := []) (rest := []) (lenOf pd_3 rfl) rfl (Nat.le_refl _) (dd at_365) (fun _ _ => ⟨rfl, rfl, (by decide : 2 + 0 ≤ _), (by decide : 6 + 0 ≤ _)⟩)
      dsimp only [Pt.U, Pt.locs, Pt.cells, Pt.slots, Q_rm4] at X11 l11 y11 z11 st11 hQ11
      subst l11 y11 z11
      rw [show (fHM rd (2 : Int32) (2 : Int32)) = (0 : Int32) from (by unfold fHM; rw [if_neg (by decide : ¬ ((2 : Int32) < (2 : Int32)))]; try decide)] at hQ11
      obtain ⟨rfl, N11q, e11⟩ := hQ11
      have N11 := Fr.app N10 N11q
      refine Gz.tr st11 ?_
      refine Gz.iload 370 X11 hx (dd at_368) rfl rfl ?_
      refine Gz.iload 372 X11 hx (dd at_370) rfl rfl ?_
      refine Gz.icmpYes 379 X11 hx (dd at_372) (flt (by decide : ¬ ((2 : Int32) < (2 : Int32)))).2.1 (by decide) (by decide) ?_
      refine Gz.iconst 380 (0 : Int32) X11 hx (dd at_379) rfl rfl ?_
      refine Gz.icmpNo 383 X11 hx (dd at_380) (teq (by decide : (0 : Int32) = (0 : Int32))).2 rfl ?_
      refine Gz.iconst 384 (1 : Int32) X11 hx (dd at_383) rfl rfl ?_
      refine Gz.goto 388 X11 hx (dd at_384) (by decide) (by decide) ?_
      refine Gz.istore 390 #[s0, s1, s2, s3, s4, s5, s6, s7, .val (.int rr), s9, s10, s11, .val (.int (1 : Int32)), .val (.ref rd), .val (.int (2 : Int32)), .val (.int (2 : Int32)), .val (.int (1 : Int32)), s17] X11 hx (dd at_388) rfl rfl ?_
      refine Gz.iload 392 X11 hx (dd at_390) rfl rfl ?_
      refine Gz.iconst 393 (3 : Int32) X11 hx (dd at_392) rfl rfl ?_
      by_cases hc12 : rr < (3 : Int32)
      · refine Gz.icmpYes 449 X11 hx (dd at_393) (tlt hc12).1 (by decide) (by decide) ?_
        refine Gz.iload 451 X11 hx (dd at_449) rfl rfl ?_
        refine Gz.fin X11 (v := some (.int (1 : Int32))) (fun h => by rw [hret] at h; cases h) hlk (by decide) (by decide) (fun fs hr => retN X11 hx (t := .boolean) hret (by simp) (dd at_451) hr) ?_
        exact ⟨rfl, N11⟩
      · refine Gz.icmpNo 396 X11 hx (dd at_393) (flt hc12).1 rfl ?_
        refine Gz.iload 398 X11 hx (dd at_396) rfl rfl ?_
        refine Gz.ifNo 401 X11 hx (dd at_398) ((if0 _ _).trans (tlt (by decide : (0 : Int32) < (2 : Int32))).2.2.2) rfl ?_
        refine Gz.iload 403 X11 hx (dd at_401) rfl rfl ?_
        refine Gz.iload 405 X11 hx (dd at_403) rfl rfl ?_
        refine Gz.icmpYes 449 X11 hx (dd at_405) (flt (by decide : ¬ ((2 : Int32) < (2 : Int32)))).2.1 (by decide) (by decide) ?_
        refine Gz.iload 451 X11 hx (dd at_449) rfl rfl ?_
        refine Gz.fin X11 (v := some (.int (1 : Int32))) (fun h => by rw [hret] at h; cases h) hlk (by decide) (by decide) (fun fs hr => retN X11 hx (t := .boolean) hret (by simp) (dd at_451) hr) ?_
        exact ⟨rfl, N11⟩
set_option maxRecDepth 65536 in
set_option maxHeartbeats 40000000 in
theorem sg_2_x_2 {p : Program} {l : Launch} {e : Env} {s : State} {m : MethodId} {args : Array Value} {below : List Frame} {meth : Method} {c : Code} {T0 : State} {locs : List Loc} {Z : State} {av0 : Array Value} {hS : Heap} (s0 : Slot) (s1 : Slot) (s2 : Slot) (s3 : Slot) (s4 : Slot) (s5 : Slot) (s6 : Slot) (s7 : Slot) (rr : Int32) (s9 : Slot) (s10 : Slot) (s11 : Slot) (rd : Addr) (s17 : Slot) (ba : Addr) (k_ba : ClassId) (w0 : Int32) (w1 : Int32) (n0 : Nat)
    (X0 : Stand p l e room_1 s m args below meth c T0 locs 2 6) (hx : p.tables.exec = Jvm.exec) (hZ : Z.Warmed39 s.vm) (hw : ∀ d ∈ tables_1, d.before av0 Z = true) (hby : c.code = code) (hml : c.maxLocals = 18) (hown : s.vm.findClass "com/example/bad_status/badstatus/model/ProtoReaderHasMorePinLaw" = some m.cls) (hret : meth.sig.returnType = some .boolean) (hlk : meth.locks = false) (e0 : T0.heap = hS) (N0 : Fr n0 locs) (Z0 : n0 ≤ hS.size) (E_rd : Exa Z hS rd "com/example/bad_status/badstatus/model/ProtoReader") (F_bytes_rd : Fld Z hS rd "com/example/bad_status/badstatus/model/ProtoReader" "bytes" "[B" (.ref ba)) (F_position_rd : Fld Z hS rd "com/example/bad_status/badstatus/model/ProtoReader" "position" "I" (.int (0 : Int32))) (F_end_rd : Fld Z hS rd "com/example/bad_status/badstatus/model/ProtoReader" "end" "I" (.int (2 : Int32))) (g_rd : n0 ≤ rd) (V_ba : Arv Z hS ba k_ba .byte (2 : Int32) [(.int w0), (.int w1)] (.int (0 : Int32))) (ne_ba_rd : ba ≠ rd) (hw1 : ¬ (w1 < (0 : Int32))) (hw0 : w0 < (0 : Int32)) :
    Gz p e below s 16 128 (Q_law n0) (T0.setTop (mkF m 240 #[s0, s1, s2, s3, s4, s5, s6, s7, .val (.int rr), s9, s10, s11, .val (.int (1 : Int32)), .val (.ref rd), .val (.int (2 : Int32)), .val (.int (0 : Int32)), .val (.int (2 : Int32)), s17] [])) := by
  have dd : ∀ {pc : Nat} {r : Except DecodeError (Instr × Nat)}, decode code pc = r → decode c.code pc = r := fun q => hb hby q
  refine Gz.iload 242 X0 hx (dd at_240) rfl rfl ?_
  refine Gz.ifNo 245 X0 hx (dd at_242) ((if0 _ _).trans (feq (by decide : ¬ ((1 : Int32) = (0 : Int32)))).1) rfl ?_
  refine Gz.aload 247 X0 hx (dd at_245) rfl rfl rfl ?_
  obtain ⟨cq1, kq1, q1a, q1b, q1c⟩ := isOf hZ e0 E_rd
  obtain ⟨_, _, ⟨T1, L1, k1, n1⟩, -, X1, ⟨Lc1, hQ1, l1, y1, z1⟩, st1⟩ := X0.virtualBack hx (y := ym3) (z := ym3) hown (mvT hZ (ww hw 22 rfl)) (mvT hZ (ww hw 23 rfl)) (notFace_of_selects (args := #[]) (mvT hZ (ww hw 25 rfl))) (mvT hZ (ww hw 25 rfl)) (mvT hZ (ww hw 24 rfl)) (by decide) (backOf (W := 0) (rm4 l Z av0 hw [] rd (0 : Int32) (2 : Int32) hS n0 Z0 F_position_rd F_end_rd) hZ (ww hw 26 rfl) (ww hw 4 rfl) (by decide) (by decide)) q1a q1c (g := (mkF m 247 #[s0, s1, s2, s3, s4, s5, s6, s7, .val (.int rr), s9, s10, s11, .val (.int (1 : Int32)), .val (.ref rd), .val (.int (2 : Int32)), .val (.int (0 : Int32)), .val (.int (2 : Int32)), s17] [(.ref rd)])) rfl (by rw [hml]; rfl) (Steps.refl _) (argsL := []) (rest := []) (lenOf pd_3 rfl) rfl (Nat.le_refl _) (dd at_247) (fun _ _ => ⟨rfl, e0, (by decide : 2 + 0 ≤ _), (by decide : 6 + 0 ≤ _)⟩)
  dsimp only [Pt.U, Pt.locs, Pt.cells, Pt.slots, Q_rm4] at X1 l1 y1 z1 st1 hQ1
  subst l1 y1 z1
  rw [show (fHM rd (0 : Int32) (2 : Int32)) = (1 : Int32) from (by unfold fHM; rw [if_pos (by decide : (0 : Int32) < (2 : Int32))]; try decide)] at hQ1
  obtain ⟨rfl, N1q, e1⟩ := hQ1
  have N1 := Fr.app N0 N1q
  refine Gz.tr st1 ?_
  refine Gz.iload 252 X1 hx (dd at_250) rfl rfl ?_
  refine Gz.ifNo 255 X1 hx (dd at_252) ((if0 _ _).trans (tlt (by decide : (0 : Int32) < (2 : Int32))).2.2.2) rfl ?_
  refine Gz.iconst 256 (1 : Int32) X1 hx (dd at_255) rfl rfl ?_
  refine Gz.goto 260 X1 hx (dd at_256) (by decide) (by decide) ?_
  refine Gz.icmpNo 263 X1 hx (dd at_260) (teq (by decide : (1 : Int32) = (1 : Int32))).2 rfl ?_
  refine Gz.iconst 264 (1 : Int32) X1 hx (dd at_263) rfl rfl ?_
  refine Gz.goto 268 X1 hx (dd at_264) (by decide) (by decide) ?_
  refine Gz.istore 270 #[s0, s1, s2, s3, s4, s5, s6, s7, .val (.int rr), s9, s10, s11, .val (.int (1 : Int32)), .val (.ref rd), .val (.int (2 : Int32)), .val (.int (0 : Int32)), .val (.int (2 : Int32)), s17] X1 hx (dd at_268) rfl rfl ?_
  refine Gz.iload 272 X1 hx (dd at_270) rfl rfl ?_
  refine Gz.iconst 273 (1 : Int32) X1 hx (dd at_272) rfl rfl ?_
  by_cases hc2 : rr < (1 : Int32)
  · refine Gz.icmpYes 331 X1 hx (dd at_273) (tlt hc2).1 (by decide) (by decide) ?_
    refine Gz.iload 333 X1 hx (dd at_331) rfl rfl ?_
    refine Gz.iconst 334 (2 : Int32) X1 hx (dd at_333) rfl rfl ?_
    refine Gz.icmpYes 390 X1 hx (dd at_334) (tlt (own_ALt32 hc2 (by decide) : rr < (2 : Int32))).1 (by decide) (by decide) ?_
    refine Gz.iload 392 X1 hx (dd at_390) rfl rfl ?_
    refine Gz.iconst 393 (3 : Int32) X1 hx (dd at_392) rfl rfl ?_
    refine Gz.icmpYes 449 X1 hx (dd at_393) (tlt (own_ALt32 hc2 (by decide) : rr < (3 : Int32))).1 (by decide) (by decide) ?_
    refine Gz.iload 451 X1 hx (dd at_449) rfl rfl ?_
    refine Gz.fin X1 (v := some (.int (1 : Int32))) (fun h => by rw [hret] at h; cases h) hlk (by decide) (by decide) (fun fs hr => retN X1 hx (t := .boolean) hret (by simp) (dd at_451) hr) ?_
    exact ⟨rfl, N1⟩
  · refine Gz.icmpNo 276 X1 hx (dd at_273) (flt hc2).1 rfl ?_
    refine Gz.iload 278 X1 hx (dd at_276) rfl rfl ?_
    refine Gz.iload 280 X1 hx (dd at_278) rfl rfl ?_
    refine Gz.iaddV 281 (2 : Int32) X1 hx (dd at_280) rfl rfl ?_
    refine Gz.iload 283 X1 hx (dd at_281) rfl rfl ?_
    refine Gz.icmpNo 286 X1 hx (dd at_283) (flt (by decide : ¬ ((2 : Int32) < (2 : Int32)))).2.2.1 rfl ?_
    refine Gz.aload 288 X1 hx (dd at_286) rfl rfl rfl ?_
    obtain ⟨c3, A3, q3, S3, N3, H3, G3⟩ := id V_ba
    have hin4 : ¬ ((0 : Int32) < 0 ∨ c3.slots.size ≤ ((0 : Int32)).toNatClampNeg) := inb_of S3 ⟨by decide, by decide⟩
    have hat4 : c3.slots[((0 : Int32)).toNatClampNeg]? = some (.int w0) := Has.at H3 hin4 rfl
    have hin5 : ¬ (((0 : Int32) + (1 : Int32)) < 0 ∨ c3.slots.size ≤ (((0 : Int32) + (1 : Int32))).toNatClampNeg) := inb_of S3 ⟨by decide, by decide⟩
    have hat5 : c3.slots[(((0 : Int32) + (1 : Int32))).toNatClampNeg]? = some (.int w1) := Has.at H3 hin5 rfl
    obtain ⟨cq6, kq6, q6a, q6b, q6c⟩ := isOf hZ e1 E_rd
    obtain ⟨_, _, ⟨T6, L6, k6, n6⟩, -, X6, ⟨Lc6, hQ6, l6, y6, z6⟩, st6⟩ := X1.virtualBack hx (y := ym1) (z := ym1) hown (mvT hZ (ww hw 27 rfl)) (mvT hZ (ww hw 28 rfl)) (notFace_of_selects (args := #[]) (mvT hZ (ww hw 30 rfl))) (mvT hZ (ww hw 30 rfl)) (mvT hZ (ww hw 29 rfl)) (by decide) (backOf (W := 0) (rmV2 l Z av0 hw [] rd ba (0 : Int32) (2 : Int32) c3 w0 w1 hS n0 Z0 E_rd F_bytes_rd F_position_rd F_end_rd g_rd A3 ne_ba_rd hin4 hat4 hin5 hat5 (by decide : ¬ ((0 : Int32) = (2 : Int32))) hw0 (by decide : ¬ ((1 : Int32) = (2 : Int32))) hw1) hZ (ww hw 31 rfl) (ww hw 4 rfl) (by decide) (by decide)) q6a q6c (g := (mkF m 288 #[s0, s1, s2, s3, s4, s5, s6, s7, .val (.int rr), s9, s10, s11, .val (.int (1 : Int32)), .val (.ref rd), .val (.int (2 : Int32)), .val (.int (0 : Int32)), .val (.int (2 : Int32)), s17] [(.ref rd)])) rfl (by rw [hml]; rfl) (Steps.refl _) (argsL := []) (rest := []) (lenOf pd_1 rfl) rfl (Nat.le_refl _) (dd at_288) (fun _ _ => ⟨rfl, e1, (by decide : 2 + 0 ≤ _), (by decide : 6 + 0 ≤ _)⟩)
    dsimp only [Pt.U, Pt.locs, Pt.cells, Pt.slots, Q_rmV2] at X6 l6 y6 z6 st6 hQ6
    subst l6 y6 z6
    obtain ⟨rfl, N6q, K6q, QE6_0, QF6_0, QF6_1, QF6_2⟩ := hQ6
    have N6 := Fr.app N1 N6q
    have f6_E_rd := Exa.keep E_rd K6q
    have f6_V_ba := Arv.keep V_ba K6q (ninS ne_ba_rd nin0)
    have SZ6 := Nat.le_trans Z0 K6q.1
    replace QF6_1 : Fld Z T6.heap rd "com/example/bad_status/badstatus/model/ProtoReader" "position" "I" (.int (2 : Int32)) := QF6_1
    refine Gz.tr st6 ?_
    refine Gz.st (S' := (T6.setTop (mkF m 292 #[s0, s1, s2, s3, s4, s5, s6, s7, .val (.int rr), s9, s10, s11, .val (.int (1 : Int32)), .val (.ref rd), .val (.int (2 : Int32)), .val (.int (0 : Int32)), .val (.int (2 : Int32)), s17] []))) (fun t k => by jvm_step X6.here [X6.here.top, hx, (dd at_291), Value.category]; exact k) ?_
    refine Gz.iload 294 X6 hx (dd at_292) rfl rfl ?_
    refine Gz.iload 296 X6 hx (dd at_294) rfl rfl ?_
    refine Gz.iaddV 297 (2 : Int32) X6 hx (dd at_296) rfl rfl ?_
    refine Gz.istore 299 #[s0, s1, s2, s3, s4, s5, s6, s7, .val (.int rr), s9, s10, s11, .val (.int (1 : Int32)), .val (.ref rd), .val (.int (2 : Int32)), .val (.int (2 : Int32)), .val (.int (2 : Int32)), s17] X6 hx (dd at_297) rfl rfl ?_
    refine Gz.iload 301 X6 hx (dd at_299) rfl rfl ?_
    refine Gz.ifNo 304 X6 hx (dd at_301) ((if0 _ _).trans (feq (by decide : ¬ ((1 : Int32) = (0 : Int32)))).1) rfl ?_
    refine Gz.aload 306 X6 hx (dd at_304) rfl rfl rfl ?_
    obtain ⟨cq7, kq7, q7a, q7b, q7c⟩ := isOf hZ rfl QE6_0
    obtain ⟨_, _, ⟨T7, L7, k7, n7⟩, -, X7, ⟨Lc7, hQ7, l7, y7, z7⟩, st7⟩ := X6.virtualBack hx (y := ym3) (z := ym3) hown (mvT hZ (ww hw 22 rfl)) (mvT hZ (ww hw 23 rfl)) (notFace_of_selects (args := #[]) (mvT hZ (ww hw 25 rfl))) (mvT hZ (ww hw 25 rfl)) (mvT hZ (ww hw 24 rfl)) (by decide) (backOf (W := 0) (rm4 l Z av0 hw [] rd (2 : Int32) (2 : Int32) T6.heap n0 SZ6 QF6_1 QF6_2) hZ (ww hw 26 rfl) (ww hw 4 rfl) (by decide) (by decide)) q7a q7c (g := (mkF m 306 #[s0, s1, s2, s3, s4, s5, s6, s7, .val (.int rr), s9, s10, s11, .val (.int (1 : Int32)), .val (.ref rd), .val (.int (2 : Int32)), .val (.int (2 : Int32)), .val (.int (2 : Int32)), s17] [(.ref rd)])) rfl (by rw [hml]; rfl) (Steps.refl _) (argsL := []) (rest := []) (lenOf pd_3 rfl) rfl (Nat.le_refl _) (dd at_306) (fun _ _ => ⟨rfl, rfl, (by decide : 2 + 0 ≤ _), (by decide : 6 + 0 ≤ _)⟩)
    dsimp only [Pt.U, Pt.locs, Pt.cells, Pt.slots, Q_rm4] at X7 l7 y7 z7 st7 hQ7
    subst l7 y7 z7
    rw [show (fHM rd (2 : Int32) (2 : Int32)) = (0 : Int32) from (by unfold fHM; rw [if_neg (by decide : ¬ ((2 : Int32) < (2 : Int32)))]; try decide)] at hQ7
    obtain ⟨rfl, N7q, e7⟩ := hQ7
    have N7 := Fr.app N6 N7q
    refine Gz.tr st7 ?_
    refine Gz.iload 311 X7 hx (dd at_309) rfl rfl ?_
    refine Gz.iload 313 X7 hx (dd at_311) rfl rfl ?_
    refine Gz.icmpYes 320 X7 hx (dd at_313) (flt (by decide : ¬ ((2 : Int32) < (2 : Int32)))).2.1 (by decide) (by decide) ?_
    refine Gz.iconst 321 (0 : Int32) X7 hx (dd at_320) rfl rfl ?_
    refine Gz.icmpNo 324 X7 hx (dd at_321) (teq (by decide : (0 : Int32) = (0 : Int32))).2 rfl ?_
    refine Gz.iconst 325 (1 : Int32) X7 hx (dd at_324) rfl rfl ?_
    refine Gz.goto 329 X7 hx (dd at_325) (by decide) (by decide) ?_
    refine Gz.istore 331 #[s0, s1, s2, s3, s4, s5, s6, s7, .val (.int rr), s9, s10, s11, .val (.int (1 : Int32)), .val (.ref rd), .val (.int (2 : Int32)), .val (.int (2 : Int32)), .val (.int (2 : Int32)), s17] X7 hx (dd at_329) rfl rfl ?_
    refine Gz.iload 333 X7 hx (dd at_331) rfl rfl ?_
    refine Gz.iconst 334 (2 : Int32) X7 hx (dd at_333) rfl rfl ?_
    by_cases hc8 : rr < (2 : Int32)
    · refine Gz.icmpYes 390 X7 hx (dd at_334) (tlt hc8).1 (by decide) (by decide) ?_
      refine Gz.iload 392 X7 hx (dd at_390) rfl rfl ?_
      refine Gz.iconst 393 (3 : Int32) X7 hx (dd at_392) rfl rfl ?_
      refine Gz.icmpYes 449 X7 hx (dd at_393) (tlt (own_ALt32 hc8 (by decide) : rr < (3 : Int32))).1 (by decide) (by decide) ?_
      refine Gz.iload 451 X7 hx (dd at_449) rfl rfl ?_
      refine Gz.fin X7 (v := some (.int (1 : Int32))) (fun h => by rw [hret] at h; cases h) hlk (by decide) (by decide) (fun fs hr => retN X7 hx (t := .boolean) hret (by simp) (dd at_451) hr) ?_
      exact ⟨rfl, N7⟩
    · refine Gz.icmpNo 337 X7 hx (dd at_334) (flt hc8).1 rfl ?_
      refine Gz.iload 339 X7 hx (dd at_337) rfl rfl ?_
      refine Gz.ifNo 342 X7 hx (dd at_339) ((if0 _ _).trans (tlt (by decide : (0 : Int32) < (2 : Int32))).2.2.2) rfl ?_
      refine Gz.iload 344 X7 hx (dd at_342) rfl rfl ?_
      refine Gz.iload 346 X7 hx (dd at_344) rfl rfl ?_
      refine Gz.icmpYes 390 X7 hx (dd at_346) (flt (by decide : ¬ ((2 : Int32) < (2 : Int32)))).2.1 (by decide) (by decide) ?_
      refine Gz.iload 392 X7 hx (dd at_390) rfl rfl ?_
      refine Gz.iconst 393 (3 : Int32) X7 hx (dd at_392) rfl rfl ?_
      by_cases hc9 : rr < (3 : Int32)
      · refine Gz.icmpYes 449 X7 hx (dd at_393) (tlt hc9).1 (by decide) (by decide) ?_
        refine Gz.iload 451 X7 hx (dd at_449) rfl rfl ?_
        refine Gz.fin X7 (v := some (.int (1 : Int32))) (fun h => by rw [hret] at h; cases h) hlk (by decide) (by decide) (fun fs hr => retN X7 hx (t := .boolean) hret (by simp) (dd at_451) hr) ?_
        exact ⟨rfl, N7⟩
      · refine Gz.icmpNo 396 X7 hx (dd at_393) (flt hc9).1 rfl ?_
        refine Gz.iload 398 X7 hx (dd at_396) rfl rfl ?_
        refine Gz.ifNo 401 X7 hx (dd at_398) ((if0 _ _).trans (tlt (by decide : (0 : Int32) < (2 : Int32))).2.2.2) rfl ?_
        refine Gz.iload 403 X7 hx (dd at_401) rfl rfl ?_
        refine Gz.iload 405 X7 hx (dd at_403) rfl rfl ?_
        refine Gz.icmpYes 449 X7 hx (dd at_405) (flt (by decide : ¬ ((2 : Int32) < (2 : Int32)))).2.1 (by decide) (by decide) ?_
        refine Gz.iload 451 X7 hx (dd at_449) rfl rfl ?_
        refine Gz.fin X7 (v := some (.int (1 : Int32))) (fun h => by rw [hret] at h; cases h) hlk (by decide) (by decide) (fun fs hr => retN X7 hx (t := .boolean) hret (by simp) (dd at_451) hr) ?_
        exact ⟨rfl, N7⟩
set_option maxRecDepth 65536 in
set_option maxHeartbeats 40000000 in
theorem sg_2_0_1 {p : Program} {l : Launch} {e : Env} {s : State} {m : MethodId} {args : Array Value} {below : List Frame} {meth : Method} {c : Code} {T0 : State} {locs : List Loc} {Z : State} {av0 : Array Value} {hS : Heap} (s0 : Slot) (s1 : Slot) (s2 : Slot) (s3 : Slot) (s4 : Slot) (s5 : Slot) (s6 : Slot) (s7 : Slot) (rr : Int32) (s9 : Slot) (s10 : Slot) (s11 : Slot) (rd : Addr) (s17 : Slot) (ba : Addr) (k_ba : ClassId) (w1 : Int32) (n0 : Nat)
    (X0 : Stand p l e room_1 s m args below meth c T0 locs 3 10) (hx : p.tables.exec = Jvm.exec) (hZ : Z.Warmed39 s.vm) (hw : ∀ d ∈ tables_1, d.before av0 Z = true) (hby : c.code = code) (hml : c.maxLocals = 18) (hown : s.vm.findClass "com/example/bad_status/badstatus/model/ProtoReaderHasMorePinLaw" = some m.cls) (hret : meth.sig.returnType = some .boolean) (hlk : meth.locks = false) (e0 : T0.heap = hS) (N0 : Fr n0 locs) (Z0 : n0 ≤ hS.size) (E_rd : Exa Z hS rd "com/example/bad_status/badstatus/model/ProtoReader") (F_bytes_rd : Fld Z hS rd "com/example/bad_status/badstatus/model/ProtoReader" "bytes" "[B" (.ref ba)) (F_position_rd : Fld Z hS rd "com/example/bad_status/badstatus/model/ProtoReader" "position" "I" (.int (1 : Int32))) (F_end_rd : Fld Z hS rd "com/example/bad_status/badstatus/model/ProtoReader" "end" "I" (.int (1 : Int32))) (g_rd : n0 ≤ rd) (V_ba : Arv Z hS ba k_ba .byte (2 : Int32) [(.int (0 : Int32)), (.int w1)] (.int (0 : Int32))) (ne_ba_rd : ba ≠ rd) (hw1 : ¬ (w1 < (0 : Int32))) :
    Gz p e below s 16 128 (Q_law n0) (T0.setTop (mkF m 240 #[s0, s1, s2, s3, s4, s5, s6, s7, .val (.int rr), s9, s10, s11, .val (.int (1 : Int32)), .val (.ref rd), .val (.int (0 : Int32)), .val (.int (0 : Int32)), .val (.int (1 : Int32)), s17] [])) := by
  have dd : ∀ {pc : Nat} {r : Except DecodeError (Instr × Nat)}, decode code pc = r → decode c.code pc = r := fun q => hb hby q
  refine Gz.iload 242 X0 hx (dd at_240) rfl rfl ?_
  refine Gz.ifNo 245 X0 hx (dd at_242) ((if0 _ _).trans (feq (by decide : ¬ ((1 : Int32) = (0 : Int32)))).1) rfl ?_
  refine Gz.aload 247 X0 hx (dd at_245) rfl rfl rfl ?_
  obtain ⟨cq1, kq1, q1a, q1b, q1c⟩ := isOf hZ e0 E_rd
  obtain ⟨_, _, ⟨T1, L1, k1, n1⟩, -, X1, ⟨Lc1, hQ1, l1, y1, z1⟩, st1⟩ := X0.virtualBack hx (y := ym3) (z := ym3) hown (mvT hZ (ww hw 22 rfl)) (mvT hZ (ww hw 23 rfl)) (notFace_of_selects (args := #[]) (mvT hZ (ww hw 25 rfl))) (mvT hZ (ww hw 25 rfl)) (mvT hZ (ww hw 24 rfl)) (by decide) (backOf (W := 0) (rm4 l Z av0 hw [] rd (1 : Int32) (1 : Int32) hS n0 Z0 F_position_rd F_end_rd) hZ (ww hw 26 rfl) (ww hw 4 rfl) (by decide) (by decide)) q1a q1c (g := (mkF m 247 #[s0, s1, s2, s3, s4, s5, s6, s7, .val (.int rr), s9, s10, s11, .val (.int (1 : Int32)), .val (.ref rd), .val (.int (0 : Int32)), .val (.int (0 : Int32)), .val (.int (1 : Int32)), s17] [(.ref rd)])) rfl (by rw [hml]; rfl) (Steps.refl _) (argsL := []) (rest := []) (lenOf pd_3 rfl) rfl (Nat.le_refl _) (dd at_247) (fun _ _ => ⟨rfl, e0, (by decide : 3 + 0 ≤ _), (by decide : 10 + 0 ≤ _)⟩)
  dsimp only [Pt.U, Pt.locs, Pt.cells, Pt.slots, Q_rm4] at X1 l1 y1 z1 st1 hQ1
  subst l1 y1 z1
  rw [show (fHM rd (1 : Int32) (1 : Int32)) = (0 : Int32) from (by unfold fHM; rw [if_neg (by decide : ¬ ((1 : Int32) < (1 : Int32)))]; try decide)] at hQ1
  obtain ⟨rfl, N1q, e1⟩ := hQ1
  have N1 := Fr.app N0 N1q
  refine Gz.tr st1 ?_
  refine Gz.iload 252 X1 hx (dd at_250) rfl rfl ?_
  refine Gz.ifYes 259 X1 hx (dd at_252) ((if0 _ _).trans (flt (by decide : ¬ ((0 : Int32) < (0 : Int32)))).2.2.2) (by decide) (by decide) ?_
  refine Gz.iconst 260 (0 : Int32) X1 hx (dd at_259) rfl rfl ?_
  refine Gz.icmpNo 263 X1 hx (dd at_260) (teq (by decide : (0 : Int32) = (0 : Int32))).2 rfl ?_
  refine Gz.iconst 264 (1 : Int32) X1 hx (dd at_263) rfl rfl ?_
  refine Gz.goto 268 X1 hx (dd at_264) (by decide) (by decide) ?_
  refine Gz.istore 270 #[s0, s1, s2, s3, s4, s5, s6, s7, .val (.int rr), s9, s10, s11, .val (.int (1 : Int32)), .val (.ref rd), .val (.int (0 : Int32)), .val (.int (0 : Int32)), .val (.int (1 : Int32)), s17] X1 hx (dd at_268) rfl rfl ?_
  refine Gz.iload 272 X1 hx (dd at_270) rfl rfl ?_
  refine Gz.iconst 273 (1 : Int32) X1 hx (dd at_272) rfl rfl ?_
  by_cases hc2 : rr < (1 : Int32)
  · refine Gz.icmpYes 331 X1 hx (dd at_273) (tlt hc2).1 (by decide) (by decide) ?_
    refine Gz.iload 333 X1 hx (dd at_331) rfl rfl ?_
    refine Gz.iconst 334 (2 : Int32) X1 hx (dd at_333) rfl rfl ?_
    refine Gz.icmpYes 390 X1 hx (dd at_334) (tlt (own_ALt32 hc2 (by decide) : rr < (2 : Int32))).1 (by decide) (by decide) ?_
    refine Gz.iload 392 X1 hx (dd at_390) rfl rfl ?_
    refine Gz.iconst 393 (3 : Int32) X1 hx (dd at_392) rfl rfl ?_
    refine Gz.icmpYes 449 X1 hx (dd at_393) (tlt (own_ALt32 hc2 (by decide) : rr < (3 : Int32))).1 (by decide) (by decide) ?_
    refine Gz.iload 451 X1 hx (dd at_449) rfl rfl ?_
    refine Gz.fin X1 (v := some (.int (1 : Int32))) (fun h => by rw [hret] at h; cases h) hlk (by decide) (by decide) (fun fs hr => retN X1 hx (t := .boolean) hret (by simp) (dd at_451) hr) ?_
    exact ⟨rfl, N1⟩
  · refine Gz.icmpNo 276 X1 hx (dd at_273) (flt hc2).1 rfl ?_
    refine Gz.iload 278 X1 hx (dd at_276) rfl rfl ?_
    refine Gz.iload 280 X1 hx (dd at_278) rfl rfl ?_
    refine Gz.iaddV 281 (1 : Int32) X1 hx (dd at_280) rfl rfl ?_
    refine Gz.iload 283 X1 hx (dd at_281) rfl rfl ?_
    refine Gz.icmpYes 331 X1 hx (dd at_283) (tlt (by decide : (0 : Int32) < (1 : Int32))).2.2.1 (by decide) (by decide) ?_
    refine Gz.iload 333 X1 hx (dd at_331) rfl rfl ?_
    refine Gz.iconst 334 (2 : Int32) X1 hx (dd at_333) rfl rfl ?_
    by_cases hc3 : rr < (2 : Int32)
    · refine Gz.icmpYes 390 X1 hx (dd at_334) (tlt hc3).1 (by decide) (by decide) ?_
      refine Gz.iload 392 X1 hx (dd at_390) rfl rfl ?_
      refine Gz.iconst 393 (3 : Int32) X1 hx (dd at_392) rfl rfl ?_
      refine Gz.icmpYes 449 X1 hx (dd at_393) (tlt (own_ALt32 hc3 (by decide) : rr < (3 : Int32))).1 (by decide) (by decide) ?_
      refine Gz.iload 451 X1 hx (dd at_449) rfl rfl ?_
      refine Gz.fin X1 (v := some (.int (1 : Int32))) (fun h => by rw [hret] at h; cases h) hlk (by decide) (by decide) (fun fs hr => retN X1 hx (t := .boolean) hret (by simp) (dd at_451) hr) ?_
      exact ⟨rfl, N1⟩
    · refine Gz.icmpNo 337 X1 hx (dd at_334) (flt hc3).1 rfl ?_
      refine Gz.iload 339 X1 hx (dd at_337) rfl rfl ?_
      refine Gz.ifYes 390 X1 hx (dd at_339) ((if0 _ _).trans (flt (by decide : ¬ ((0 : Int32) < (0 : Int32)))).2.2.2) (by decide) (by decide) ?_
      refine Gz.iload 392 X1 hx (dd at_390) rfl rfl ?_
      refine Gz.iconst 393 (3 : Int32) X1 hx (dd at_392) rfl rfl ?_
      by_cases hc4 : rr < (3 : Int32)
      · refine Gz.icmpYes 449 X1 hx (dd at_393) (tlt hc4).1 (by decide) (by decide) ?_
        refine Gz.iload 451 X1 hx (dd at_449) rfl rfl ?_
        refine Gz.fin X1 (v := some (.int (1 : Int32))) (fun h => by rw [hret] at h; cases h) hlk (by decide) (by decide) (fun fs hr => retN X1 hx (t := .boolean) hret (by simp) (dd at_451) hr) ?_
        exact ⟨rfl, N1⟩
      · refine Gz.icmpNo 396 X1 hx (dd at_393) (flt hc4).1 rfl ?_
        refine Gz.iload 398 X1 hx (dd at_396) rfl rfl ?_
        refine Gz.ifYes 449 X1 hx (dd at_398) ((if0 _ _).trans (flt (by decide : ¬ ((0 : Int32) < (0 : Int32)))).2.2.2) (by decide) (by decide) ?_
        refine Gz.iload 451 X1 hx (dd at_449) rfl rfl ?_
        refine Gz.fin X1 (v := some (.int (1 : Int32))) (fun h => by rw [hret] at h; cases h) hlk (by decide) (by decide) (fun fs hr => retN X1 hx (t := .boolean) hret (by simp) (dd at_451) hr) ?_
        exact ⟨rfl, N1⟩
set_option maxRecDepth 65536 in
set_option maxHeartbeats 40000000 in
theorem sg_2_1_1 {p : Program} {l : Launch} {e : Env} {s : State} {m : MethodId} {args : Array Value} {below : List Frame} {meth : Method} {c : Code} {T0 : State} {locs : List Loc} {Z : State} {av0 : Array Value} {hS : Heap} (s0 : Slot) (s1 : Slot) (s2 : Slot) (s3 : Slot) (s4 : Slot) (s5 : Slot) (s6 : Slot) (s7 : Slot) (rr : Int32) (s9 : Slot) (s10 : Slot) (s11 : Slot) (rd : Addr) (s17 : Slot) (ba : Addr) (k_ba : ClassId) (w1 : Int32) (n0 : Nat)
    (X0 : Stand p l e room_1 s m args below meth c T0 locs 3 10) (hx : p.tables.exec = Jvm.exec) (hZ : Z.Warmed39 s.vm) (hw : ∀ d ∈ tables_1, d.before av0 Z = true) (hby : c.code = code) (hml : c.maxLocals = 18) (hown : s.vm.findClass "com/example/bad_status/badstatus/model/ProtoReaderHasMorePinLaw" = some m.cls) (hret : meth.sig.returnType = some .boolean) (hlk : meth.locks = false) (e0 : T0.heap = hS) (N0 : Fr n0 locs) (Z0 : n0 ≤ hS.size) (E_rd : Exa Z hS rd "com/example/bad_status/badstatus/model/ProtoReader") (F_bytes_rd : Fld Z hS rd "com/example/bad_status/badstatus/model/ProtoReader" "bytes" "[B" (.ref ba)) (F_position_rd : Fld Z hS rd "com/example/bad_status/badstatus/model/ProtoReader" "position" "I" (.int (1 : Int32))) (F_end_rd : Fld Z hS rd "com/example/bad_status/badstatus/model/ProtoReader" "end" "I" (.int (2 : Int32))) (g_rd : n0 ≤ rd) (V_ba : Arv Z hS ba k_ba .byte (2 : Int32) [(.int (1 : Int32)), (.int w1)] (.int (0 : Int32))) (ne_ba_rd : ba ≠ rd) (hw1 : ¬ (w1 < (0 : Int32))) :
    Gz p e below s 16 128 (Q_law n0) (T0.setTop (mkF m 240 #[s0, s1, s2, s3, s4, s5, s6, s7, .val (.int rr), s9, s10, s11, .val (.int (1 : Int32)), .val (.ref rd), .val (.int (1 : Int32)), .val (.int (0 : Int32)), .val (.int (1 : Int32)), s17] [])) := by
  have dd : ∀ {pc : Nat} {r : Except DecodeError (Instr × Nat)}, decode code pc = r → decode c.code pc = r := fun q => hb hby q
  refine Gz.iload 242 X0 hx (dd at_240) rfl rfl ?_
  refine Gz.ifNo 245 X0 hx (dd at_242) ((if0 _ _).trans (feq (by decide : ¬ ((1 : Int32) = (0 : Int32)))).1) rfl ?_
  refine Gz.aload 247 X0 hx (dd at_245) rfl rfl rfl ?_
  obtain ⟨cq1, kq1, q1a, q1b, q1c⟩ := isOf hZ e0 E_rd
  obtain ⟨_, _, ⟨T1, L1, k1, n1⟩, -, X1, ⟨Lc1, hQ1, l1, y1, z1⟩, st1⟩ := X0.virtualBack hx (y := ym3) (z := ym3) hown (mvT hZ (ww hw 22 rfl)) (mvT hZ (ww hw 23 rfl)) (notFace_of_selects (args := #[]) (mvT hZ (ww hw 25 rfl))) (mvT hZ (ww hw 25 rfl)) (mvT hZ (ww hw 24 rfl)) (by decide) (backOf (W := 0) (rm4 l Z av0 hw [] rd (1 : Int32) (2 : Int32) hS n0 Z0 F_position_rd F_end_rd) hZ (ww hw 26 rfl) (ww hw 4 rfl) (by decide) (by decide)) q1a q1c (g := (mkF m 247 #[s0, s1, s2, s3, s4, s5, s6, s7, .val (.int rr), s9, s10, s11, .val (.int (1 : Int32)), .val (.ref rd), .val (.int (1 : Int32)), .val (.int (0 : Int32)), .val (.int (1 : Int32)), s17] [(.ref rd)])) rfl (by rw [hml]; rfl) (Steps.refl _) (argsL := []) (rest := []) (lenOf pd_3 rfl) rfl (Nat.le_refl _) (dd at_247) (fun _ _ => ⟨rfl, e0, (by decide : 3 + 0 ≤ _), (by decide : 10 + 0 ≤ _)⟩)
  dsimp only [Pt.U, Pt.locs, Pt.cells, Pt.slots, Q_rm4] at X1 l1 y1 z1 st1 hQ1
  subst l1 y1 z1
  rw [show (fHM rd (1 : Int32) (2 : Int32)) = (1 : Int32) from (by unfold fHM; rw [if_pos (by decide : (1 : Int32) < (2 : Int32))]; try decide)] at hQ1
  obtain ⟨rfl, N1q, e1⟩ := hQ1
  have N1 := Fr.app N0 N1q
  refine Gz.tr st1 ?_
  refine Gz.iload 252 X1 hx (dd at_250) rfl rfl ?_
  refine Gz.ifNo 255 X1 hx (dd at_252) ((if0 _ _).trans (tlt (by decide : (0 : Int32) < (1 : Int32))).2.2.2) rfl ?_
  refine Gz.iconst 256 (1 : Int32) X1 hx (dd at_255) rfl rfl ?_
  refine Gz.goto 260 X1 hx (dd at_256) (by decide) (by decide) ?_
  refine Gz.icmpNo 263 X1 hx (dd at_260) (teq (by decide : (1 : Int32) = (1 : Int32))).2 rfl ?_
  refine Gz.iconst 264 (1 : Int32) X1 hx (dd at_263) rfl rfl ?_
  refine Gz.goto 268 X1 hx (dd at_264) (by decide) (by decide) ?_
  refine Gz.istore 270 #[s0, s1, s2, s3, s4, s5, s6, s7, .val (.int rr), s9, s10, s11, .val (.int (1 : Int32)), .val (.ref rd), .val (.int (1 : Int32)), .val (.int (0 : Int32)), .val (.int (1 : Int32)), s17] X1 hx (dd at_268) rfl rfl ?_
  refine Gz.iload 272 X1 hx (dd at_270) rfl rfl ?_
  refine Gz.iconst 273 (1 : Int32) X1 hx (dd at_272) rfl rfl ?_
  by_cases hc2 : rr < (1 : Int32)
  · refine Gz.icmpYes 331 X1 hx (dd at_273) (tlt hc2).1 (by decide) (by decide) ?_
    refine Gz.iload 333 X1 hx (dd at_331) rfl rfl ?_
    refine Gz.iconst 334 (2 : Int32) X1 hx (dd at_333) rfl rfl ?_
    refine Gz.icmpYes 390 X1 hx (dd at_334) (tlt (own_ALt32 hc2 (by decide) : rr < (2 : Int32))).1 (by decide) (by decide) ?_
    refine Gz.iload 392 X1 hx (dd at_390) rfl rfl ?_
    refine Gz.iconst 393 (3 : Int32) X1 hx (dd at_392) rfl rfl ?_
    refine Gz.icmpYes 449 X1 hx (dd at_393) (tlt (own_ALt32 hc2 (by decide) : rr < (3 : Int32))).1 (by decide) (by decide) ?_
    refine Gz.iload 451 X1 hx (dd at_449) rfl rfl ?_
    refine Gz.fin X1 (v := some (.int (1 : Int32))) (fun h => by rw [hret] at h; cases h) hlk (by decide) (by decide) (fun fs hr => retN X1 hx (t := .boolean) hret (by simp) (dd at_451) hr) ?_
    exact ⟨rfl, N1⟩
  · refine Gz.icmpNo 276 X1 hx (dd at_273) (flt hc2).1 rfl ?_
    refine Gz.iload 278 X1 hx (dd at_276) rfl rfl ?_
    refine Gz.iload 280 X1 hx (dd at_278) rfl rfl ?_
    refine Gz.iaddV 281 (1 : Int32) X1 hx (dd at_280) rfl rfl ?_
    refine Gz.iload 283 X1 hx (dd at_281) rfl rfl ?_
    refine Gz.icmpNo 286 X1 hx (dd at_283) (flt (by decide : ¬ ((1 : Int32) < (1 : Int32)))).2.2.1 rfl ?_
    refine Gz.aload 288 X1 hx (dd at_286) rfl rfl rfl ?_
    obtain ⟨c3, A3, q3, S3, N3, H3, G3⟩ := id V_ba
    have hin4 : ¬ ((1 : Int32) < 0 ∨ c3.slots.size ≤ ((1 : Int32)).toNatClampNeg) := inb_of S3 ⟨by decide, by decide⟩
    have hat4 : c3.slots[((1 : Int32)).toNatClampNeg]? = some (.int w1) := Has.at H3 hin4 rfl
    obtain ⟨cq5, kq5, q5a, q5b, q5c⟩ := isOf hZ e1 E_rd
    obtain ⟨_, _, ⟨T5, L5, k5, n5⟩, -, X5, ⟨Lc5, hQ5, l5, y5, z5⟩, st5⟩ := X1.virtualBack hx (y := ym1) (z := ym1) hown (mvT hZ (ww hw 27 rfl)) (mvT hZ (ww hw 28 rfl)) (notFace_of_selects (args := #[]) (mvT hZ (ww hw 30 rfl))) (mvT hZ (ww hw 30 rfl)) (mvT hZ (ww hw 29 rfl)) (by decide) (backOf (W := 0) (rmV1 l Z av0 hw [] rd ba (1 : Int32) (2 : Int32) c3 w1 hS n0 Z0 E_rd F_bytes_rd F_position_rd F_end_rd g_rd A3 ne_ba_rd hin4 hat4 (by decide : ¬ ((1 : Int32) = (2 : Int32))) hw1) hZ (ww hw 31 rfl) (ww hw 4 rfl) (by decide) (by decide)) q5a q5c (g := (mkF m 288 #[s0, s1, s2, s3, s4, s5, s6, s7, .val (.int rr), s9, s10, s11, .val (.int (1 : Int32)), .val (.ref rd), .val (.int (1 : Int32)), .val (.int (0 : Int32)), .val (.int (1 : Int32)), s17] [(.ref rd)])) rfl (by rw [hml]; rfl) (Steps.refl _) (argsL := []) (rest := []) (lenOf pd_1 rfl) rfl (Nat.le_refl _) (dd at_288) (fun _ _ => ⟨rfl, e1, (by decide : 3 + 0 ≤ _), (by decide : 10 + 0 ≤ _)⟩)
    dsimp only [Pt.U, Pt.locs, Pt.cells, Pt.slots, Q_rmV1] at X5 l5 y5 z5 st5 hQ5
    subst l5 y5 z5
    obtain ⟨rfl, N5q, K5q, QE5_0, QF5_0, QF5_1, QF5_2⟩ := hQ5
    have N5 := Fr.app N1 N5q
    have f5_E_rd := Exa.keep E_rd K5q
    have f5_V_ba := Arv.keep V_ba K5q (ninS ne_ba_rd nin0)
    have SZ5 := Nat.le_trans Z0 K5q.1
    replace QF5_1 : Fld Z T5.heap rd "com/example/bad_status/badstatus/model/ProtoReader" "position" "I" (.int (2 : Int32)) := QF5_1
    refine Gz.tr st5 ?_
    refine Gz.st (S' := (T5.setTop (mkF m 292 #[s0, s1, s2, s3, s4, s5, s6, s7, .val (.int rr), s9, s10, s11, .val (.int (1 : Int32)), .val (.ref rd), .val (.int (1 : Int32)), .val (.int (0 : Int32)), .val (.int (1 : Int32)), s17] []))) (fun t k => by jvm_step X5.here [X5.here.top, hx, (dd at_291), Value.category]; exact k) ?_
    refine Gz.iload 294 X5 hx (dd at_292) rfl rfl ?_
    refine Gz.iload 296 X5 hx (dd at_294) rfl rfl ?_
    refine Gz.iaddV 297 (1 : Int32) X5 hx (dd at_296) rfl rfl ?_
    refine Gz.istore 299 #[s0, s1, s2, s3, s4, s5, s6, s7, .val (.int rr), s9, s10, s11, .val (.int (1 : Int32)), .val (.ref rd), .val (.int (1 : Int32)), .val (.int (1 : Int32)), .val (.int (1 : Int32)), s17] X5 hx (dd at_297) rfl rfl ?_
    refine Gz.iload 301 X5 hx (dd at_299) rfl rfl ?_
    refine Gz.ifNo 304 X5 hx (dd at_301) ((if0 _ _).trans (feq (by decide : ¬ ((1 : Int32) = (0 : Int32)))).1) rfl ?_
    refine Gz.aload 306 X5 hx (dd at_304) rfl rfl rfl ?_
    obtain ⟨cq6, kq6, q6a, q6b, q6c⟩ := isOf hZ rfl QE5_0
    obtain ⟨_, _, ⟨T6, L6, k6, n6⟩, -, X6, ⟨Lc6, hQ6, l6, y6, z6⟩, st6⟩ := X5.virtualBack hx (y := ym3) (z := ym3) hown (mvT hZ (ww hw 22 rfl)) (mvT hZ (ww hw 23 rfl)) (notFace_of_selects (args := #[]) (mvT hZ (ww hw 25 rfl))) (mvT hZ (ww hw 25 rfl)) (mvT hZ (ww hw 24 rfl)) (by decide) (backOf (W := 0) (rm4 l Z av0 hw [] rd (2 : Int32) (2 : Int32) T5.heap n0 SZ5 QF5_1 QF5_2) hZ (ww hw 26 rfl) (ww hw 4 rfl) (by decide) (by decide)) q6a q6c (g := (mkF m 306 #[s0, s1, s2, s3, s4, s5, s6, s7, .val (.int rr), s9, s10, s11, .val (.int (1 : Int32)), .val (.ref rd), .val (.int (1 : Int32)), .val (.int (1 : Int32)), .val (.int (1 : Int32)), s17] [(.ref rd)])) rfl (by rw [hml]; rfl) (Steps.refl _) (argsL := []) (rest := []) (lenOf pd_3 rfl) rfl (Nat.le_refl _) (dd at_306) (fun _ _ => ⟨rfl, rfl, (by decide : 3 + 0 ≤ _), (by decide : 10 + 0 ≤ _)⟩)
    dsimp only [Pt.U, Pt.locs, Pt.cells, Pt.slots, Q_rm4] at X6 l6 y6 z6 st6 hQ6
    subst l6 y6 z6
    rw [show (fHM rd (2 : Int32) (2 : Int32)) = (0 : Int32) from (by unfold fHM; rw [if_neg (by decide : ¬ ((2 : Int32) < (2 : Int32)))]; try decide)] at hQ6
    obtain ⟨rfl, N6q, e6⟩ := hQ6
    have N6 := Fr.app N5 N6q
    refine Gz.tr st6 ?_
    refine Gz.iload 311 X6 hx (dd at_309) rfl rfl ?_
    refine Gz.iload 313 X6 hx (dd at_311) rfl rfl ?_
    refine Gz.icmpYes 320 X6 hx (dd at_313) (flt (by decide : ¬ ((1 : Int32) < (1 : Int32)))).2.1 (by decide) (by decide) ?_
    refine Gz.iconst 321 (0 : Int32) X6 hx (dd at_320) rfl rfl ?_
    refine Gz.icmpNo 324 X6 hx (dd at_321) (teq (by decide : (0 : Int32) = (0 : Int32))).2 rfl ?_
    refine Gz.iconst 325 (1 : Int32) X6 hx (dd at_324) rfl rfl ?_
    refine Gz.goto 329 X6 hx (dd at_325) (by decide) (by decide) ?_
    refine Gz.istore 331 #[s0, s1, s2, s3, s4, s5, s6, s7, .val (.int rr), s9, s10, s11, .val (.int (1 : Int32)), .val (.ref rd), .val (.int (1 : Int32)), .val (.int (1 : Int32)), .val (.int (1 : Int32)), s17] X6 hx (dd at_329) rfl rfl ?_
    refine Gz.iload 333 X6 hx (dd at_331) rfl rfl ?_
    refine Gz.iconst 334 (2 : Int32) X6 hx (dd at_333) rfl rfl ?_
    by_cases hc7 : rr < (2 : Int32)
    · refine Gz.icmpYes 390 X6 hx (dd at_334) (tlt hc7).1 (by decide) (by decide) ?_
      refine Gz.iload 392 X6 hx (dd at_390) rfl rfl ?_
      refine Gz.iconst 393 (3 : Int32) X6 hx (dd at_392) rfl rfl ?_
      refine Gz.icmpYes 449 X6 hx (dd at_393) (tlt (own_ALt32 hc7 (by decide) : rr < (3 : Int32))).1 (by decide) (by decide) ?_
      refine Gz.iload 451 X6 hx (dd at_449) rfl rfl ?_
      refine Gz.fin X6 (v := some (.int (1 : Int32))) (fun h => by rw [hret] at h; cases h) hlk (by decide) (by decide) (fun fs hr => retN X6 hx (t := .boolean) hret (by simp) (dd at_451) hr) ?_
      exact ⟨rfl, N6⟩
    · refine Gz.icmpNo 337 X6 hx (dd at_334) (flt hc7).1 rfl ?_
      refine Gz.iload 339 X6 hx (dd at_337) rfl rfl ?_
      refine Gz.ifNo 342 X6 hx (dd at_339) ((if0 _ _).trans (tlt (by decide : (0 : Int32) < (1 : Int32))).2.2.2) rfl ?_
      refine Gz.iload 344 X6 hx (dd at_342) rfl rfl ?_
      refine Gz.iload 346 X6 hx (dd at_344) rfl rfl ?_
      refine Gz.icmpYes 390 X6 hx (dd at_346) (flt (by decide : ¬ ((1 : Int32) < (1 : Int32)))).2.1 (by decide) (by decide) ?_
      refine Gz.iload 392 X6 hx (dd at_390) rfl rfl ?_
      refine Gz.iconst 393 (3 : Int32) X6 hx (dd at_392) rfl rfl ?_
      by_cases hc8 : rr < (3 : Int32)
      · refine Gz.icmpYes 449 X6 hx (dd at_393) (tlt hc8).1 (by decide) (by decide) ?_
        refine Gz.iload 451 X6 hx (dd at_449) rfl rfl ?_
        refine Gz.fin X6 (v := some (.int (1 : Int32))) (fun h => by rw [hret] at h; cases h) hlk (by decide) (by decide) (fun fs hr => retN X6 hx (t := .boolean) hret (by simp) (dd at_451) hr) ?_
        exact ⟨rfl, N6⟩
      · refine Gz.icmpNo 396 X6 hx (dd at_393) (flt hc8).1 rfl ?_
        refine Gz.iload 398 X6 hx (dd at_396) rfl rfl ?_
        refine Gz.ifNo 401 X6 hx (dd at_398) ((if0 _ _).trans (tlt (by decide : (0 : Int32) < (1 : Int32))).2.2.2) rfl ?_
        refine Gz.iload 403 X6 hx (dd at_401) rfl rfl ?_
        refine Gz.iload 405 X6 hx (dd at_403) rfl rfl ?_
        refine Gz.icmpYes 449 X6 hx (dd at_405) (flt (by decide : ¬ ((1 : Int32) < (1 : Int32)))).2.1 (by decide) (by decide) ?_
        refine Gz.iload 451 X6 hx (dd at_449) rfl rfl ?_
        refine Gz.fin X6 (v := some (.int (1 : Int32))) (fun h => by rw [hret] at h; cases h) hlk (by decide) (by decide) (fun fs hr => retN X6 hx (t := .boolean) hret (by simp) (dd at_451) hr) ?_
        exact ⟨rfl, N6⟩
set_option maxRecDepth 65536 in
set_option maxHeartbeats 40000000 in
theorem sg_3_x_1 {p : Program} {l : Launch} {e : Env} {s : State} {m : MethodId} {args : Array Value} {below : List Frame} {meth : Method} {c : Code} {T0 : State} {locs : List Loc} {Z : State} {av0 : Array Value} {hS : Heap} (s0 : Slot) (s1 : Slot) (s2 : Slot) (s3 : Slot) (s4 : Slot) (s5 : Slot) (s6 : Slot) (s7 : Slot) (rr : Int32) (s9 : Slot) (s10 : Slot) (s11 : Slot) (rd : Addr) (s17 : Slot) (ba : Addr) (k_ba : ClassId) (w0 : Int32) (w1 : Int32) (w2 : Int32) (n0 : Nat)
    (X0 : Stand p l e room_1 s m args below meth c T0 locs 2 7) (hx : p.tables.exec = Jvm.exec) (hZ : Z.Warmed39 s.vm) (hw : ∀ d ∈ tables_1, d.before av0 Z = true) (hby : c.code = code) (hml : c.maxLocals = 18) (hown : s.vm.findClass "com/example/bad_status/badstatus/model/ProtoReaderHasMorePinLaw" = some m.cls) (hret : meth.sig.returnType = some .boolean) (hlk : meth.locks = false) (e0 : T0.heap = hS) (N0 : Fr n0 locs) (Z0 : n0 ≤ hS.size) (E_rd : Exa Z hS rd "com/example/bad_status/badstatus/model/ProtoReader") (F_bytes_rd : Fld Z hS rd "com/example/bad_status/badstatus/model/ProtoReader" "bytes" "[B" (.ref ba)) (F_position_rd : Fld Z hS rd "com/example/bad_status/badstatus/model/ProtoReader" "position" "I" (.int (0 : Int32))) (F_end_rd : Fld Z hS rd "com/example/bad_status/badstatus/model/ProtoReader" "end" "I" (.int (3 : Int32))) (g_rd : n0 ≤ rd) (V_ba : Arv Z hS ba k_ba .byte (3 : Int32) [(.int w0), (.int w1), (.int w2)] (.int (0 : Int32))) (ne_ba_rd : ba ≠ rd) (hw1 : ¬ (w1 < (0 : Int32))) (hw2 : ¬ (w2 < (0 : Int32))) (hw0 : ¬ (w0 < (0 : Int32))) :
    Gz p e below s 16 128 (Q_law n0) (T0.setTop (mkF m 240 #[s0, s1, s2, s3, s4, s5, s6, s7, .val (.int rr), s9, s10, s11, .val (.int (1 : Int32)), .val (.ref rd), .val (.int (3 : Int32)), .val (.int (0 : Int32)), .val (.int (1 : Int32)), s17] [])) := by
  have dd : ∀ {pc : Nat} {r : Except DecodeError (Instr × Nat)}, decode code pc = r → decode c.code pc = r := fun q => hb hby q
  refine Gz.iload 242 X0 hx (dd at_240) rfl rfl ?_
  refine Gz.ifNo 245 X0 hx (dd at_242) ((if0 _ _).trans (feq (by decide : ¬ ((1 : Int32) = (0 : Int32)))).1) rfl ?_
  refine Gz.aload 247 X0 hx (dd at_245) rfl rfl rfl ?_
  obtain ⟨cq1, kq1, q1a, q1b, q1c⟩ := isOf hZ e0 E_rd
  obtain ⟨_, _, ⟨T1, L1, k1, n1⟩, -, X1, ⟨Lc1, hQ1, l1, y1, z1⟩, st1⟩ := X0.virtualBack hx (y := ym3) (z := ym3) hown (mvT hZ (ww hw 22 rfl)) (mvT hZ (ww hw 23 rfl)) (notFace_of_selects (args := #[]) (mvT hZ (ww hw 25 rfl))) (mvT hZ (ww hw 25 rfl)) (mvT hZ (ww hw 24 rfl)) (by decide) (backOf (W := 0) (rm4 l Z av0 hw [] rd (0 : Int32) (3 : Int32) hS n0 Z0 F_position_rd F_end_rd) hZ (ww hw 26 rfl) (ww hw 4 rfl) (by decide) (by decide)) q1a q1c (g := (mkF m 247 #[s0, s1, s2, s3, s4, s5, s6, s7, .val (.int rr), s9, s10, s11, .val (.int (1 : Int32)), .val (.ref rd), .val (.int (3 : Int32)), .val (.int (0 : Int32)), .val (.int (1 : Int32)), s17] [(.ref rd)])) rfl (by rw [hml]; rfl) (Steps.refl _) (argsL := []) (rest := []) (lenOf pd_3 rfl) rfl (Nat.le_refl _) (dd at_247) (fun _ _ => ⟨rfl, e0, (by decide : 2 + 0 ≤ _), (by decide : 7 + 0 ≤ _)⟩)
  dsimp only [Pt.U, Pt.locs, Pt.cells, Pt.slots, Q_rm4] at X1 l1 y1 z1 st1 hQ1
  subst l1 y1 z1
  rw [show (fHM rd (0 : Int32) (3 : Int32)) = (1 : Int32) from (by unfold fHM; rw [if_pos (by decide : (0 : Int32) < (3 : Int32))]; try decide)] at hQ1
  obtain ⟨rfl, N1q, e1⟩ := hQ1
  have N1 := Fr.app N0 N1q
  refine Gz.tr st1 ?_
  refine Gz.iload 252 X1 hx (dd at_250) rfl rfl ?_
  refine Gz.ifNo 255 X1 hx (dd at_252) ((if0 _ _).trans (tlt (by decide : (0 : Int32) < (3 : Int32))).2.2.2) rfl ?_
  refine Gz.iconst 256 (1 : Int32) X1 hx (dd at_255) rfl rfl ?_
  refine Gz.goto 260 X1 hx (dd at_256) (by decide) (by decide) ?_
  refine Gz.icmpNo 263 X1 hx (dd at_260) (teq (by decide : (1 : Int32) = (1 : Int32))).2 rfl ?_
  refine Gz.iconst 264 (1 : Int32) X1 hx (dd at_263) rfl rfl ?_
  refine Gz.goto 268 X1 hx (dd at_264) (by decide) (by decide) ?_
  refine Gz.istore 270 #[s0, s1, s2, s3, s4, s5, s6, s7, .val (.int rr), s9, s10, s11, .val (.int (1 : Int32)), .val (.ref rd), .val (.int (3 : Int32)), .val (.int (0 : Int32)), .val (.int (1 : Int32)), s17] X1 hx (dd at_268) rfl rfl ?_
  refine Gz.iload 272 X1 hx (dd at_270) rfl rfl ?_
  refine Gz.iconst 273 (1 : Int32) X1 hx (dd at_272) rfl rfl ?_
  by_cases hc2 : rr < (1 : Int32)
  · refine Gz.icmpYes 331 X1 hx (dd at_273) (tlt hc2).1 (by decide) (by decide) ?_
    refine Gz.iload 333 X1 hx (dd at_331) rfl rfl ?_
    refine Gz.iconst 334 (2 : Int32) X1 hx (dd at_333) rfl rfl ?_
    refine Gz.icmpYes 390 X1 hx (dd at_334) (tlt (own_ALt32 hc2 (by decide) : rr < (2 : Int32))).1 (by decide) (by decide) ?_
    refine Gz.iload 392 X1 hx (dd at_390) rfl rfl ?_
    refine Gz.iconst 393 (3 : Int32) X1 hx (dd at_392) rfl rfl ?_
    refine Gz.icmpYes 449 X1 hx (dd at_393) (tlt (own_ALt32 hc2 (by decide) : rr < (3 : Int32))).1 (by decide) (by decide) ?_
    refine Gz.iload 451 X1 hx (dd at_449) rfl rfl ?_
    refine Gz.fin X1 (v := some (.int (1 : Int32))) (fun h => by rw [hret] at h; cases h) hlk (by decide) (by decide) (fun fs hr => retN X1 hx (t := .boolean) hret (by simp) (dd at_451) hr) ?_
    exact ⟨rfl, N1⟩
  · refine Gz.icmpNo 276 X1 hx (dd at_273) (flt hc2).1 rfl ?_
    refine Gz.iload 278 X1 hx (dd at_276) rfl rfl ?_
    refine Gz.iload 280 X1 hx (dd at_278) rfl rfl ?_
    refine Gz.iaddV 281 (1 : Int32) X1 hx (dd at_280) rfl rfl ?_
    refine Gz.iload 283 X1 hx (dd at_281) rfl rfl ?_
    refine Gz.icmpNo 286 X1 hx (dd at_283) (flt (by decide : ¬ ((3 : Int32) < (1 : Int32)))).2.2.1 rfl ?_
    refine Gz.aload 288 X1 hx (dd at_286) rfl rfl rfl ?_
    obtain ⟨c3, A3, q3, S3, N3, H3, G3⟩ := id V_ba
    have hin4 : ¬ ((0 : Int32) < 0 ∨ c3.slots.size ≤ ((0 : Int32)).toNatClampNeg) := inb_of S3 ⟨by decide, by decide⟩
    have hat4 : c3.slots[((0 : Int32)).toNatClampNeg]? = some (.int w0) := Has.at H3 hin4 rfl
    obtain ⟨cq5, kq5, q5a, q5b, q5c⟩ := isOf hZ e1 E_rd
    obtain ⟨_, _, ⟨T5, L5, k5, n5⟩, -, X5, ⟨Lc5, hQ5, l5, y5, z5⟩, st5⟩ := X1.virtualBack hx (y := ym1) (z := ym1) hown (mvT hZ (ww hw 27 rfl)) (mvT hZ (ww hw 28 rfl)) (notFace_of_selects (args := #[]) (mvT hZ (ww hw 30 rfl))) (mvT hZ (ww hw 30 rfl)) (mvT hZ (ww hw 29 rfl)) (by decide) (backOf (W := 0) (rmV1 l Z av0 hw [] rd ba (0 : Int32) (3 : Int32) c3 w0 hS n0 Z0 E_rd F_bytes_rd F_position_rd F_end_rd g_rd A3 ne_ba_rd hin4 hat4 (by decide : ¬ ((0 : Int32) = (3 : Int32))) hw0) hZ (ww hw 31 rfl) (ww hw 4 rfl) (by decide) (by decide)) q5a q5c (g := (mkF m 288 #[s0, s1, s2, s3, s4, s5, s6, s7, .val (.int rr), s9, s10, s11, .val (.int (1 : Int32)), .val (.ref rd), .val (.int (3 : Int32)), .val (.int (0 : Int32)), .val (.int (1 : Int32)), s17] [(.ref rd)])) rfl (by rw [hml]; rfl) (Steps.refl _) (argsL := []) (rest := []) (lenOf pd_1 rfl) rfl (Nat.le_refl _) (dd at_288) (fun _ _ => ⟨rfl, e1, (by decide : 2 + 0 ≤ _), (by decide : 7 + 0 ≤ _)⟩)
    dsimp only [Pt.U, Pt.locs, Pt.cells, Pt.slots, Q_rmV1] at X5 l5 y5 z5 st5 hQ5
    subst l5 y5 z5
    obtain ⟨rfl, N5q, K5q, QE5_0, QF5_0, QF5_1, QF5_2⟩ := hQ5
    have N5 := Fr.app N1 N5q
    have f5_E_rd := Exa.keep E_rd K5q
    have f5_V_ba := Arv.keep V_ba K5q (ninS ne_ba_rd nin0)
    have SZ5 := Nat.le_trans Z0 K5q.1
    replace QF5_1 : Fld Z T5.heap rd "com/example/bad_status/badstatus/model/ProtoReader" "position" "I" (.int (1 : Int32)) := QF5_1
    refine Gz.tr st5 ?_
    refine Gz.st (S' := (T5.setTop (mkF m 292 #[s0, s1, s2, s3, s4, s5, s6, s7, .val (.int rr), s9, s10, s11, .val (.int (1 : Int32)), .val (.ref rd), .val (.int (3 : Int32)), .val (.int (0 : Int32)), .val (.int (1 : Int32)), s17] []))) (fun t k => by jvm_step X5.here [X5.here.top, hx, (dd at_291), Value.category]; exact k) ?_
    refine Gz.iload 294 X5 hx (dd at_292) rfl rfl ?_
    refine Gz.iload 296 X5 hx (dd at_294) rfl rfl ?_
    refine Gz.iaddV 297 (1 : Int32) X5 hx (dd at_296) rfl rfl ?_
    refine Gz.istore 299 #[s0, s1, s2, s3, s4, s5, s6, s7, .val (.int rr), s9, s10, s11, .val (.int (1 : Int32)), .val (.ref rd), .val (.int (3 : Int32)), .val (.int (1 : Int32)), .val (.int (1 : Int32)), s17] X5 hx (dd at_297) rfl rfl ?_
    refine Gz.iload 301 X5 hx (dd at_299) rfl rfl ?_
    refine Gz.ifNo 304 X5 hx (dd at_301) ((if0 _ _).trans (feq (by decide : ¬ ((1 : Int32) = (0 : Int32)))).1) rfl ?_
    refine Gz.aload 306 X5 hx (dd at_304) rfl rfl rfl ?_
    obtain ⟨cq6, kq6, q6a, q6b, q6c⟩ := isOf hZ rfl QE5_0
    obtain ⟨_, _, ⟨T6, L6, k6, n6⟩, -, X6, ⟨Lc6, hQ6, l6, y6, z6⟩, st6⟩ := X5.virtualBack hx (y := ym3) (z := ym3) hown (mvT hZ (ww hw 22 rfl)) (mvT hZ (ww hw 23 rfl)) (notFace_of_selects (args := #[]) (mvT hZ (ww hw 25 rfl))) (mvT hZ (ww hw 25 rfl)) (mvT hZ (ww hw 24 rfl)) (by decide) (backOf (W := 0) (rm4 l Z av0 hw [] rd (1 : Int32) (3 : Int32) T5.heap n0 SZ5 QF5_1 QF5_2) hZ (ww hw 26 rfl) (ww hw 4 rfl) (by decide) (by decide)) q6a q6c (g := (mkF m 306 #[s0, s1, s2, s3, s4, s5, s6, s7, .val (.int rr), s9, s10, s11, .val (.int (1 : Int32)), .val (.ref rd), .val (.int (3 : Int32)), .val (.int (1 : Int32)), .val (.int (1 : Int32)), s17] [(.ref rd)])) rfl (by rw [hml]; rfl) (Steps.refl _) (argsL := []) (rest := []) (lenOf pd_3 rfl) rfl (Nat.le_refl _) (dd at_306) (fun _ _ => ⟨rfl, rfl, (by decide : 2 + 0 ≤ _), (by decide : 7 + 0 ≤ _)⟩)
    dsimp only [Pt.U, Pt.locs, Pt.cells, Pt.slots, Q_rm4] at X6 l6 y6 z6 st6 hQ6
    subst l6 y6 z6
    rw [show (fHM rd (1 : Int32) (3 : Int32)) = (1 : Int32) from (by unfold fHM; rw [if_pos (by decide : (1 : Int32) < (3 : Int32))]; try decide)] at hQ6
    obtain ⟨rfl, N6q, e6⟩ := hQ6
    have N6 := Fr.app N5 N6q
    refine Gz.tr st6 ?_
    refine Gz.iload 311 X6 hx (dd at_309) rfl rfl ?_
    refine Gz.iload 313 X6 hx (dd at_311) rfl rfl ?_
    refine Gz.icmpNo 316 X6 hx (dd at_313) (tlt (by decide : (1 : Int32) < (3 : Int32))).2.1 rfl ?_
    refine Gz.iconst 317 (1 : Int32) X6 hx (dd at_316) rfl rfl ?_
    refine Gz.goto 321 X6 hx (dd at_317) (by decide) (by decide) ?_
    refine Gz.icmpNo 324 X6 hx (dd at_321) (teq (by decide : (1 : Int32) = (1 : Int32))).2 rfl ?_
    refine Gz.iconst 325 (1 : Int32) X6 hx (dd at_324) rfl rfl ?_
    refine Gz.goto 329 X6 hx (dd at_325) (by decide) (by decide) ?_
    refine Gz.istore 331 #[s0, s1, s2, s3, s4, s5, s6, s7, .val (.int rr), s9, s10, s11, .val (.int (1 : Int32)), .val (.ref rd), .val (.int (3 : Int32)), .val (.int (1 : Int32)), .val (.int (1 : Int32)), s17] X6 hx (dd at_329) rfl rfl ?_
    refine Gz.iload 333 X6 hx (dd at_331) rfl rfl ?_
    refine Gz.iconst 334 (2 : Int32) X6 hx (dd at_333) rfl rfl ?_
    by_cases hc7 : rr < (2 : Int32)
    · refine Gz.icmpYes 390 X6 hx (dd at_334) (tlt hc7).1 (by decide) (by decide) ?_
      refine Gz.iload 392 X6 hx (dd at_390) rfl rfl ?_
      refine Gz.iconst 393 (3 : Int32) X6 hx (dd at_392) rfl rfl ?_
      refine Gz.icmpYes 449 X6 hx (dd at_393) (tlt (own_ALt32 hc7 (by decide) : rr < (3 : Int32))).1 (by decide) (by decide) ?_
      refine Gz.iload 451 X6 hx (dd at_449) rfl rfl ?_
      refine Gz.fin X6 (v := some (.int (1 : Int32))) (fun h => by rw [hret] at h; cases h) hlk (by decide) (by decide) (fun fs hr => retN X6 hx (t := .boolean) hret (by simp) (dd at_451) hr) ?_
      exact ⟨rfl, N6⟩
    · refine Gz.icmpNo 337 X6 hx (dd at_334) (flt hc7).1 rfl ?_
      refine Gz.iload 339 X6 hx (dd at_337) rfl rfl ?_
      refine Gz.ifNo 342 X6 hx (dd at_339) ((if0 _ _).trans (tlt (by decide : (0 : Int32) < (1 : Int32))).2.2.2) rfl ?_
      refine Gz.iload 344 X6 hx (dd at_342) rfl rfl ?_
      refine Gz.iload 346 X6 hx (dd at_344) rfl rfl ?_
      refine Gz.icmpNo 349 X6 hx (dd at_346) (tlt (by decide : (1 : Int32) < (3 : Int32))).2.1 rfl ?_
      refine Gz.aload 351 X6 hx (dd at_349) rfl rfl rfl ?_
      obtain ⟨c8, A8, q8, S8, N8, H8, G8⟩ := id f5_V_ba
      have hin9 : ¬ ((1 : Int32) < 0 ∨ c8.slots.size ≤ ((1 : Int32)).toNatClampNeg) := inb_of S8 ⟨by decide, by decide⟩
      have hat9 : c8.slots[((1 : Int32)).toNatClampNeg]? = some (.int w1) := Has.at H8 hin9 rfl
      obtain ⟨cq10, kq10, q10a, q10b, q10c⟩ := isOf hZ e6 QE5_0
      obtain ⟨_, _, ⟨T10, L10, k10, n10⟩, -, X10, ⟨Lc10, hQ10, l10, y10, z10⟩, st10⟩ := X6.virtualBack hx (y := ym1) (z := ym1) hown (mvT hZ (ww hw 27 rfl)) (mvT hZ (ww hw 28 rfl)) (notFace_of_selects (args := #[]) (mvT hZ (ww hw 30 rfl))) (mvT hZ (ww hw 30 rfl)) (mvT hZ (ww hw 29 rfl)) (by decide) (backOf (W := 0) (rmV1 l Z av0 hw [] rd ba (1 : Int32) (3 : Int32) c8 w1 T5.heap n0 SZ5 QE5_0 QF5_0 QF5_1 QF5_2 g_rd A8 ne_ba_rd hin9 hat9 (by decide : ¬ ((1 : Int32) = (3 : Int32))) hw1) hZ (ww hw 31 rfl) (ww hw 4 rfl) (by decide) (by decide)) q10a q10c (g := (mkF m 351 #[s0, s1, s2, s3, s4, s5, s6, s7, .val (.int rr), s9, s10, s11, .val (.int (1 : Int32)), .val (.ref rd), .val (.int (3 : Int32)), .val (.int (1 : Int32)), .val (.int (1 : Int32)), s17] [(.ref rd)])) rfl (by rw [hml]; rfl) (Steps.refl _) (argsL := []) (rest := []) (lenOf pd_1 rfl) rfl (Nat.le_refl _) (dd at_351) (fun _ _ => ⟨rfl, e6, (by decide : 2 + 0 ≤ _), (by decide : 7 + 0 ≤ _)⟩)
      dsimp only [Pt.U, Pt.locs, Pt.cells, Pt.slots, Q_rmV1] at X10 l10 y10 z10 st10 hQ10
      subst l10 y10 z10
      obtain ⟨rfl, N10q, K10q, QE10_0, QF10_0, QF10_1, QF10_2⟩ := hQ10
      have N10 := Fr.app N6 N10q
      have f10_E_rd := Exa.keep QE5_0 K10q
      have f10_V_ba := Arv.keep f5_V_ba K10q (ninS ne_ba_rd nin0)
      have SZ10 := Nat.le_trans SZ5 K10q.1
      replace QF10_1 : Fld Z T10.heap rd "com/example/bad_status/badstatus/model/ProtoReader" "position" "I" (.int (2 : Int32)) := QF10_1
      refine Gz.tr st10 ?_
      refine Gz.st (S' := (T10.setTop (mkF m 355 #[s0, s1, s2, s3, s4, s5, s6, s7, .val (.int rr), s9, s10, s11, .val (.int (1 : Int32)), .val (.ref rd), .val (.int (3 : Int32)), .val (.int (1 : Int32)), .val (.int (1 : Int32)), s17] []))) (fun t k => by jvm_step X10.here [X10.here.top, hx, (dd at_354), Value.category]; exact k) ?_
      refine Gz.iinc 358 #[s0, s1, s2, s3, s4, s5, s6, s7, .val (.int rr), s9, s10, s11, .val (.int (1 : Int32)), .val (.ref rd), .val (.int (3 : Int32)), .val (.int (2 : Int32)), .val (.int (1 : Int32)), s17] X10 hx (dd at_355) rfl rfl rfl ?_
      refine Gz.iload 360 X10 hx (dd at_358) rfl rfl ?_
      refine Gz.ifNo 363 X10 hx (dd at_360) ((if0 _ _).trans (feq (by decide : ¬ ((1 : Int32) = (0 : Int32)))).1) rfl ?_
      refine Gz.aload 365 X10 hx (dd at_363) rfl rfl rfl ?_
      obtain ⟨cq11, kq11, q11a, q11b, q11c⟩ := isOf hZ rfl QE10_0
      obtain ⟨_, _, ⟨T11, L11, k11, n11⟩, -, X11, ⟨Lc11, hQ11, l11, y11, z11⟩, st11⟩ := X10.virtualBack hx (y := ym3) (z := ym3) hown (mvT hZ (ww hw 22 rfl)) (mvT hZ (ww hw 23 rfl)) (notFace_of_selects (args := #[]) (mvT hZ (ww hw 25 rfl))) (mvT hZ (ww hw 25 rfl)) (mvT hZ (ww hw 24 rfl)) (by decide) (backOf (W := 0) (rm4 l Z av0 hw [] rd (2 : Int32) (3 : Int32) T10.heap n0 SZ10 QF10_1 QF10_2) hZ (ww hw 26 rfl) (ww hw 4 rfl) (by decide) (by decide)) q11a q11c (g := (mkF m 365 #[s0, s1, s2, s3, s4, s5, s6, s7, .val (.int rr), s9, s10, s11, .val (.int (1 : Int32)), .val (.ref rd), .val (.int (3 : Int32)), .val (.int (2 : Int32)), .val (.int (1 : Int32)), s17] [(.ref rd)])) rfl (by rw [hml]; rfl) (Steps.refl _) (argsL := []) (rest := []) (lenOf pd_3 rfl) rfl (Nat.le_refl _) (dd at_365) (fun _ _ => ⟨rfl, rfl, (by decide : 2 + 0 ≤ _), (by decide : 7 + 0 ≤ _)⟩)
      dsimp only [Pt.U, Pt.locs, Pt.cells, Pt.slots, Q_rm4] at X11 l11 y11 z11 st11 hQ11
      subst l11 y11 z11
      rw [show (fHM rd (2 : Int32) (3 : Int32)) = (1 : Int32) from (by unfold fHM; rw [if_pos (by decide : (2 : Int32) < (3 : Int32))]; try decide)] at hQ11
      obtain ⟨rfl, N11q, e11⟩ := hQ11
      have N11 := Fr.app N10 N11q
      refine Gz.tr st11 ?_
      refine Gz.iload 370 X11 hx (dd at_368) rfl rfl ?_
      refine Gz.iload 372 X11 hx (dd at_370) rfl rfl ?_
      refine Gz.icmpNo 375 X11 hx (dd at_372) (tlt (by decide : (2 : Int32) < (3 : Int32))).2.1 rfl ?_
      refine Gz.iconst 376 (1 : Int32) X11 hx (dd at_375) rfl rfl ?_
      refine Gz.goto 380 X11 hx (dd at_376) (by decide) (by decide) ?_
      refine Gz.icmpNo 383 X11 hx (dd at_380) (teq (by decide : (1 : Int32) = (1 : Int32))).2 rfl ?_
      refine Gz.iconst 384 (1 : Int32) X11 hx (dd at_383) rfl rfl ?_
      refine Gz.goto 388 X11 hx (dd at_384) (by decide) (by decide) ?_
      refine Gz.istore 390 #[s0, s1, s2, s3, s4, s5, s6, s7, .val (.int rr), s9, s10, s11, .val (.int (1 : Int32)), .val (.ref rd), .val (.int (3 : Int32)), .val (.int (2 : Int32)), .val (.int (1 : Int32)), s17] X11 hx (dd at_388) rfl rfl ?_
      refine Gz.iload 392 X11 hx (dd at_390) rfl rfl ?_
      refine Gz.iconst 393 (3 : Int32) X11 hx (dd at_392) rfl rfl ?_
      by_cases hc12 : rr < (3 : Int32)
      · refine Gz.icmpYes 449 X11 hx (dd at_393) (tlt hc12).1 (by decide) (by decide) ?_
        refine Gz.iload 451 X11 hx (dd at_449) rfl rfl ?_
        refine Gz.fin X11 (v := some (.int (1 : Int32))) (fun h => by rw [hret] at h; cases h) hlk (by decide) (by decide) (fun fs hr => retN X11 hx (t := .boolean) hret (by simp) (dd at_451) hr) ?_
        exact ⟨rfl, N11⟩
      · refine Gz.icmpNo 396 X11 hx (dd at_393) (flt hc12).1 rfl ?_
        refine Gz.iload 398 X11 hx (dd at_396) rfl rfl ?_
        refine Gz.ifNo 401 X11 hx (dd at_398) ((if0 _ _).trans (tlt (by decide : (0 : Int32) < (2 : Int32))).2.2.2) rfl ?_
        refine Gz.iload 403 X11 hx (dd at_401) rfl rfl ?_
        refine Gz.iload 405 X11 hx (dd at_403) rfl rfl ?_
        refine Gz.icmpNo 408 X11 hx (dd at_405) (tlt (by decide : (2 : Int32) < (3 : Int32))).2.1 rfl ?_
        refine Gz.aload 410 X11 hx (dd at_408) rfl rfl rfl ?_
        obtain ⟨c13, A13, q13, S13, N13, H13, G13⟩ := id f10_V_ba
        have hin14 : ¬ ((2 : Int32) < 0 ∨ c13.slots.size ≤ ((2 : Int32)).toNatClampNeg) := inb_of S13 ⟨by decide, by decide⟩
        have hat14 : c13.slots[((2 : Int32)).toNatClampNeg]? = some (.int w2) := Has.at H13 hin14 rfl
        obtain ⟨cq15, kq15, q15a, q15b, q15c⟩ := isOf hZ e11 QE10_0
        obtain ⟨_, _, ⟨T15, L15, k15, n15⟩, -, X15, ⟨Lc15, hQ15, l15, y15, z15⟩, st15⟩ := X11.virtualBack hx (y := ym1) (z := ym1) hown (mvT hZ (ww hw 27 rfl)) (mvT hZ (ww hw 28 rfl)) (notFace_of_selects (args := #[]) (mvT hZ (ww hw 30 rfl))) (mvT hZ (ww hw 30 rfl)) (mvT hZ (ww hw 29 rfl)) (by decide) (backOf (W := 0) (rmV1 l Z av0 hw [] rd ba (2 : Int32) (3 : Int32) c13 w2 T10.heap n0 SZ10 QE10_0 QF10_0 QF10_1 QF10_2 g_rd A13 ne_ba_rd hin14 hat14 (by decide : ¬ ((2 : Int32) = (3 : Int32))) hw2) hZ (ww hw 31 rfl) (ww hw 4 rfl) (by decide) (by decide)) q15a q15c (g := (mkF m 410 #[s0, s1, s2, s3, s4, s5, s6, s7, .val (.int rr), s9, s10, s11, .val (.int (1 : Int32)), .val (.ref rd), .val (.int (3 : Int32)), .val (.int (2 : Int32)), .val (.int (1 : Int32)), s17] [(.ref rd)])) rfl (by rw [hml]; rfl) (Steps.refl _) (argsL := []) (rest := []) (lenOf pd_1 rfl) rfl (Nat.le_refl _) (dd at_410) (fun _ _ => ⟨rfl, e11, (by decide : 2 + 0 ≤ _), (by decide : 7 + 0 ≤ _)⟩)
        dsimp only [Pt.U, Pt.locs, Pt.cells, Pt.slots, Q_rmV1] at X15 l15 y15 z15 st15 hQ15
        subst l15 y15 z15
        obtain ⟨rfl, N15q, K15q, QE15_0, QF15_0, QF15_1, QF15_2⟩ := hQ15
        have N15 := Fr.app N11 N15q
        have f15_E_rd := Exa.keep QE10_0 K15q
        have f15_V_ba := Arv.keep f10_V_ba K15q (ninS ne_ba_rd nin0)
        have SZ15 := Nat.le_trans SZ10 K15q.1
        replace QF15_1 : Fld Z T15.heap rd "com/example/bad_status/badstatus/model/ProtoReader" "position" "I" (.int (3 : Int32)) := QF15_1
        refine Gz.tr st15 ?_
        refine Gz.st (S' := (T15.setTop (mkF m 414 #[s0, s1, s2, s3, s4, s5, s6, s7, .val (.int rr), s9, s10, s11, .val (.int (1 : Int32)), .val (.ref rd), .val (.int (3 : Int32)), .val (.int (2 : Int32)), .val (.int (1 : Int32)), s17] []))) (fun t k => by jvm_step X15.here [X15.here.top, hx, (dd at_413), Value.category]; exact k) ?_
        refine Gz.iinc 417 #[s0, s1, s2, s3, s4, s5, s6, s7, .val (.int rr), s9, s10, s11, .val (.int (1 : Int32)), .val (.ref rd), .val (.int (3 : Int32)), .val (.int (3 : Int32)), .val (.int (1 : Int32)), s17] X15 hx (dd at_414) rfl rfl rfl ?_
        refine Gz.iload 419 X15 hx (dd at_417) rfl rfl ?_
        refine Gz.ifNo 422 X15 hx (dd at_419) ((if0 _ _).trans (feq (by decide : ¬ ((1 : Int32) = (0 : Int32)))).1) rfl ?_
        refine Gz.aload 424 X15 hx (dd at_422) rfl rfl rfl ?_
        obtain ⟨cq16, kq16, q16a, q16b, q16c⟩ := isOf hZ rfl QE15_0
        obtain ⟨_, _, ⟨T16, L16, k16, n16⟩, -, X16, ⟨Lc16, hQ16, l16, y16, z16⟩, st16⟩ := X15.virtualBack hx (y := ym3) (z := ym3) hown (mvT hZ (ww hw 22 rfl)) (mvT hZ (ww hw 23 rfl)) (notFace_of_selects (args := #[]) (mvT hZ (ww hw 25 rfl))) (mvT hZ (ww hw 25 rfl)) (mvT hZ (ww hw 24 rfl)) (by decide) (backOf (W := 0) (rm4 l Z av0 hw [] rd (3 : Int32) (3 : Int32) T15.heap n0 SZ15 QF15_1 QF15_2) hZ (ww hw 26 rfl) (ww hw 4 rfl) (by decide) (by decide)) q16a q16c (g := (mkF m 424 #[s0, s1, s2, s3, s4, s5, s6, s7, .val (.int rr), s9, s10, s11, .val (.int (1 : Int32)), .val (.ref rd), .val (.int (3 : Int32)), .val (.int (3 : Int32)), .val (.int (1 : Int32)), s17] [(.ref rd)])) rfl (by rw [hml]; rfl) (Steps.refl _) (argsL := []) (rest := []) (lenOf pd_3 rfl) rfl (Nat.le_refl _) (dd at_424) (fun _ _ => ⟨rfl, rfl, (by decide : 2 + 0 ≤ _), (by decide : 7 + 0 ≤ _)⟩)
        dsimp only [Pt.U, Pt.locs, Pt.cells, Pt.slots, Q_rm4] at X16 l16 y16 z16 st16 hQ16
        subst l16 y16 z16
        rw [show (fHM rd (3 : Int32) (3 : Int32)) = (0 : Int32) from (by unfold fHM; rw [if_neg (by decide : ¬ ((3 : Int32) < (3 : Int32)))]; try decide)] at hQ16
        obtain ⟨rfl, N16q, e16⟩ := hQ16
        have N16 := Fr.app N15 N16q
        refine Gz.tr st16 ?_
        refine Gz.iload 429 X16 hx (dd at_427) rfl rfl ?_
        refine Gz.iload 431 X16 hx (dd at_429) rfl rfl ?_
        refine Gz.icmpYes 438 X16 hx (dd at_431) (flt (by decide : ¬ ((3 : Int32) < (3 : Int32)))).2.1 (by decide) (by decide) ?_
        refine Gz.iconst 439 (0 : Int32) X16 hx (dd at_438) rfl rfl ?_
        refine Gz.icmpNo 442 X16 hx (dd at_439) (teq (by decide : (0 : Int32) = (0 : Int32))).2 rfl ?_
        refine Gz.iconst 443 (1 : Int32) X16 hx (dd at_442) rfl rfl ?_
        refine Gz.goto 447 X16 hx (dd at_443) (by decide) (by decide) ?_
        refine Gz.istore 449 #[s0, s1, s2, s3, s4, s5, s6, s7, .val (.int rr), s9, s10, s11, .val (.int (1 : Int32)), .val (.ref rd), .val (.int (3 : Int32)), .val (.int (3 : Int32)), .val (.int (1 : Int32)), s17] X16 hx (dd at_447) rfl rfl ?_
        refine Gz.iload 451 X16 hx (dd at_449) rfl rfl ?_
        refine Gz.fin X16 (v := some (.int (1 : Int32))) (fun h => by rw [hret] at h; cases h) hlk (by decide) (by decide) (fun fs hr => retN X16 hx (t := .boolean) hret (by simp) (dd at_451) hr) ?_
        exact ⟨rfl, N16⟩
set_option maxRecDepth 65536 in
set_option maxHeartbeats 40000000 in
theorem sg_3_x_2 {p : Program} {l : Launch} {e : Env} {s : State} {m : MethodId} {args : Array Value} {below : List Frame} {meth : Method} {c : Code} {T0 : State} {locs : List Loc} {Z : State} {av0 : Array Value} {hS : Heap} (s0 : Slot) (s1 : Slot) (s2 : Slot) (s3 : Slot) (s4 : Slot) (s5 : Slot) (s6 : Slot) (s7 : Slot) (rr : Int32) (s9 : Slot) (s10 : Slot) (s11 : Slot) (rd : Addr) (s17 : Slot) (ba : Addr) (k_ba : ClassId) (w0 : Int32) (w1 : Int32) (w2 : Int32) (n0 : Nat)
    (X0 : Stand p l e room_1 s m args below meth c T0 locs 2 7) (hx : p.tables.exec = Jvm.exec) (hZ : Z.Warmed39 s.vm) (hw : ∀ d ∈ tables_1, d.before av0 Z = true) (hby : c.code = code) (hml : c.maxLocals = 18) (hown : s.vm.findClass "com/example/bad_status/badstatus/model/ProtoReaderHasMorePinLaw" = some m.cls) (hret : meth.sig.returnType = some .boolean) (hlk : meth.locks = false) (e0 : T0.heap = hS) (N0 : Fr n0 locs) (Z0 : n0 ≤ hS.size) (E_rd : Exa Z hS rd "com/example/bad_status/badstatus/model/ProtoReader") (F_bytes_rd : Fld Z hS rd "com/example/bad_status/badstatus/model/ProtoReader" "bytes" "[B" (.ref ba)) (F_position_rd : Fld Z hS rd "com/example/bad_status/badstatus/model/ProtoReader" "position" "I" (.int (0 : Int32))) (F_end_rd : Fld Z hS rd "com/example/bad_status/badstatus/model/ProtoReader" "end" "I" (.int (3 : Int32))) (g_rd : n0 ≤ rd) (V_ba : Arv Z hS ba k_ba .byte (3 : Int32) [(.int w0), (.int w1), (.int w2)] (.int (0 : Int32))) (ne_ba_rd : ba ≠ rd) (hw1 : ¬ (w1 < (0 : Int32))) (hw2 : ¬ (w2 < (0 : Int32))) (hw0 : w0 < (0 : Int32)) :
    Gz p e below s 16 128 (Q_law n0) (T0.setTop (mkF m 240 #[s0, s1, s2, s3, s4, s5, s6, s7, .val (.int rr), s9, s10, s11, .val (.int (1 : Int32)), .val (.ref rd), .val (.int (3 : Int32)), .val (.int (0 : Int32)), .val (.int (2 : Int32)), s17] [])) := by
  have dd : ∀ {pc : Nat} {r : Except DecodeError (Instr × Nat)}, decode code pc = r → decode c.code pc = r := fun q => hb hby q
  refine Gz.iload 242 X0 hx (dd at_240) rfl rfl ?_
  refine Gz.ifNo 245 X0 hx (dd at_242) ((if0 _ _).trans (feq (by decide : ¬ ((1 : Int32) = (0 : Int32)))).1) rfl ?_
  refine Gz.aload 247 X0 hx (dd at_245) rfl rfl rfl ?_
  obtain ⟨cq1, kq1, q1a, q1b, q1c⟩ := isOf hZ e0 E_rd
  obtain ⟨_, _, ⟨T1, L1, k1, n1⟩, -, X1, ⟨Lc1, hQ1, l1, y1, z1⟩, st1⟩ := X0.virtualBack hx (y := ym3) (z := ym3) hown (mvT hZ (ww hw 22 rfl)) (mvT hZ (ww hw 23 rfl)) (notFace_of_selects (args := #[]) (mvT hZ (ww hw 25 rfl))) (mvT hZ (ww hw 25 rfl)) (mvT hZ (ww hw 24 rfl)) (by decide) (backOf (W := 0) (rm4 l Z av0 hw [] rd (0 : Int32) (3 : Int32) hS n0 Z0 F_position_rd F_end_rd) hZ (ww hw 26 rfl) (ww hw 4 rfl) (by decide) (by decide)) q1a q1c (g := (mkF m 247 #[s0, s1, s2, s3, s4, s5, s6, s7, .val (.int rr), s9, s10, s11, .val (.int (1 : Int32)), .val (.ref rd), .val (.int (3 : Int32)), .val (.int (0 : Int32)), .val (.int (2 : Int32)), s17] [(.ref rd)])) rfl (by rw [hml]; rfl) (Steps.refl _) (argsL := []) (rest := []) (lenOf pd_3 rfl) rfl (Nat.le_refl _) (dd at_247) (fun _ _ => ⟨rfl, e0, (by decide : 2 + 0 ≤ _), (by decide : 7 + 0 ≤ _)⟩)
  dsimp only [Pt.U, Pt.locs, Pt.cells, Pt.slots, Q_rm4] at X1 l1 y1 z1 st1 hQ1
  subst l1 y1 z1
  rw [show (fHM rd (0 : Int32) (3 : Int32)) = (1 : Int32) from (by unfold fHM; rw [if_pos (by decide : (0 : Int32) < (3 : Int32))]; try decide)] at hQ1
  obtain ⟨rfl, N1q, e1⟩ := hQ1
  have N1 := Fr.app N0 N1q
  refine Gz.tr st1 ?_
  refine Gz.iload 252 X1 hx (dd at_250) rfl rfl ?_
  refine Gz.ifNo 255 X1 hx (dd at_252) ((if0 _ _).trans (tlt (by decide : (0 : Int32) < (3 : Int32))).2.2.2) rfl ?_
  refine Gz.iconst 256 (1 : Int32) X1 hx (dd at_255) rfl rfl ?_
  refine Gz.goto 260 X1 hx (dd at_256) (by decide) (by decide) ?_
  refine Gz.icmpNo 263 X1 hx (dd at_260) (teq (by decide : (1 : Int32) = (1 : Int32))).2 rfl ?_
  refine Gz.iconst 264 (1 : Int32) X1 hx (dd at_263) rfl rfl ?_
  refine Gz.goto 268 X1 hx (dd at_264) (by decide) (by decide) ?_
  refine Gz.istore 270 #[s0, s1, s2, s3, s4, s5, s6, s7, .val (.int rr), s9, s10, s11, .val (.int (1 : Int32)), .val (.ref rd), .val (.int (3 : Int32)), .val (.int (0 : Int32)), .val (.int (2 : Int32)), s17] X1 hx (dd at_268) rfl rfl ?_
  refine Gz.iload 272 X1 hx (dd at_270) rfl rfl ?_
  refine Gz.iconst 273 (1 : Int32) X1 hx (dd at_272) rfl rfl ?_
  by_cases hc2 : rr < (1 : Int32)
  · refine Gz.icmpYes 331 X1 hx (dd at_273) (tlt hc2).1 (by decide) (by decide) ?_
    refine Gz.iload 333 X1 hx (dd at_331) rfl rfl ?_
    refine Gz.iconst 334 (2 : Int32) X1 hx (dd at_333) rfl rfl ?_
    refine Gz.icmpYes 390 X1 hx (dd at_334) (tlt (own_ALt32 hc2 (by decide) : rr < (2 : Int32))).1 (by decide) (by decide) ?_
    refine Gz.iload 392 X1 hx (dd at_390) rfl rfl ?_
    refine Gz.iconst 393 (3 : Int32) X1 hx (dd at_392) rfl rfl ?_
    refine Gz.icmpYes 449 X1 hx (dd at_393) (tlt (own_ALt32 hc2 (by decide) : rr < (3 : Int32))).1 (by decide) (by decide) ?_
    refine Gz.iload 451 X1 hx (dd at_449) rfl rfl ?_
    refine Gz.fin X1 (v := some (.int (1 : Int32))) (fun h => by rw [hret] at h; cases h) hlk (by decide) (by decide) (fun fs hr => retN X1 hx (t := .boolean) hret (by simp) (dd at_451) hr) ?_
    exact ⟨rfl, N1⟩
  · refine Gz.icmpNo 276 X1 hx (dd at_273) (flt hc2).1 rfl ?_
    refine Gz.iload 278 X1 hx (dd at_276) rfl rfl ?_
    refine Gz.iload 280 X1 hx (dd at_278) rfl rfl ?_
    refine Gz.iaddV 281 (2 : Int32) X1 hx (dd at_280) rfl rfl ?_
    refine Gz.iload 283 X1 hx (dd at_281) rfl rfl ?_
    refine Gz.icmpNo 286 X1 hx (dd at_283) (flt (by decide : ¬ ((3 : Int32) < (2 : Int32)))).2.2.1 rfl ?_
    refine Gz.aload 288 X1 hx (dd at_286) rfl rfl rfl ?_
    obtain ⟨c3, A3, q3, S3, N3, H3, G3⟩ := id V_ba
    have hin4 : ¬ ((0 : Int32) < 0 ∨ c3.slots.size ≤ ((0 : Int32)).toNatClampNeg) := inb_of S3 ⟨by decide, by decide⟩
    have hat4 : c3.slots[((0 : Int32)).toNatClampNeg]? = some (.int w0) := Has.at H3 hin4 rfl
    have hin5 : ¬ (((0 : Int32) + (1 : Int32)) < 0 ∨ c3.slots.size ≤ (((0 : Int32) + (1 : Int32))).toNatClampNeg) := inb_of S3 ⟨by decide, by decide⟩
    have hat5 : c3.slots[(((0 : Int32) + (1 : Int32))).toNatClampNeg]? = some (.int w1) := Has.at H3 hin5 rfl
    obtain ⟨cq6, kq6, q6a, q6b, q6c⟩ := isOf hZ e1 E_rd
    obtain ⟨_, _, ⟨T6, L6, k6, n6⟩, -, X6, ⟨Lc6, hQ6, l6, y6, z6⟩, st6⟩ := X1.virtualBack hx (y := ym1) (z := ym1) hown (mvT hZ (ww hw 27 rfl)) (mvT hZ (ww hw 28 rfl)) (notFace_of_selects (args := #[]) (mvT hZ (ww hw 30 rfl))) (mvT hZ (ww hw 30 rfl)) (mvT hZ (ww hw 29 rfl)) (by decide) (backOf (W := 0) (rmV2 l Z av0 hw [] rd ba (0 : Int32) (3 : Int32) c3 w0 w1 hS n0 Z0 E_rd F_bytes_rd F_position_rd F_end_rd g_rd A3 ne_ba_rd hin4 hat4 hin5 hat5 (by decide : ¬ ((0 : Int32) = (3 : Int32))) hw0 (by decide : ¬ ((1 : Int32) = (3 : Int32))) hw1) hZ (ww hw 31 rfl) (ww hw 4 rfl) (by decide) (by decide)) q6a q6c (g := (mkF m 288 #[s0, s1, s2, s3, s4, s5, s6, s7, .val (.int rr), s9, s10, s11, .val (.int (1 : Int32)), .val (.ref rd), .val (.int (3 : Int32)), .val (.int (0 : Int32)), .val (.int (2 : Int32)), s17] [(.ref rd)])) rfl (by rw [hml]; rfl) (Steps.refl _) (argsL := []) (rest := []) (lenOf pd_1 rfl) rfl (Nat.le_refl _) (dd at_288) (fun _ _ => ⟨rfl, e1, (by decide : 2 + 0 ≤ _), (by decide : 7 + 0 ≤ _)⟩)
    dsimp only [Pt.U, Pt.locs, Pt.cells, Pt.slots, Q_rmV2] at X6 l6 y6 z6 st6 hQ6
    subst l6 y6 z6
    obtain ⟨rfl, N6q, K6q, QE6_0, QF6_0, QF6_1, QF6_2⟩ := hQ6
    have N6 := Fr.app N1 N6q
    have f6_E_rd := Exa.keep E_rd K6q
    have f6_V_ba := Arv.keep V_ba K6q (ninS ne_ba_rd nin0)
    have SZ6 := Nat.le_trans Z0 K6q.1
    replace QF6_1 : Fld Z T6.heap rd "com/example/bad_status/badstatus/model/ProtoReader" "position" "I" (.int (2 : Int32)) := QF6_1
    refine Gz.tr st6 ?_
    refine Gz.st (S' := (T6.setTop (mkF m 292 #[s0, s1, s2, s3, s4, s5, s6, s7, .val (.int rr), s9, s10, s11, .val (.int (1 : Int32)), .val (.ref rd), .val (.int (3 : Int32)), .val (.int (0 : Int32)), .val (.int (2 : Int32)), s17] []))) (fun t k => by jvm_step X6.here [X6.here.top, hx, (dd at_291), Value.category]; exact k) ?_
    refine Gz.iload 294 X6 hx (dd at_292) rfl rfl ?_
    refine Gz.iload 296 X6 hx (dd at_294) rfl rfl ?_
    refine Gz.iaddV 297 (2 : Int32) X6 hx (dd at_296) rfl rfl ?_
    refine Gz.istore 299 #[s0, s1, s2, s3, s4, s5, s6, s7, .val (.int rr), s9, s10, s11, .val (.int (1 : Int32)), .val (.ref rd), .val (.int (3 : Int32)), .val (.int (2 : Int32)), .val (.int (2 : Int32)), s17] X6 hx (dd at_297) rfl rfl ?_
    refine Gz.iload 301 X6 hx (dd at_299) rfl rfl ?_
    refine Gz.ifNo 304 X6 hx (dd at_301) ((if0 _ _).trans (feq (by decide : ¬ ((1 : Int32) = (0 : Int32)))).1) rfl ?_
    refine Gz.aload 306 X6 hx (dd at_304) rfl rfl rfl ?_
    obtain ⟨cq7, kq7, q7a, q7b, q7c⟩ := isOf hZ rfl QE6_0
    obtain ⟨_, _, ⟨T7, L7, k7, n7⟩, -, X7, ⟨Lc7, hQ7, l7, y7, z7⟩, st7⟩ := X6.virtualBack hx (y := ym3) (z := ym3) hown (mvT hZ (ww hw 22 rfl)) (mvT hZ (ww hw 23 rfl)) (notFace_of_selects (args := #[]) (mvT hZ (ww hw 25 rfl))) (mvT hZ (ww hw 25 rfl)) (mvT hZ (ww hw 24 rfl)) (by decide) (backOf (W := 0) (rm4 l Z av0 hw [] rd (2 : Int32) (3 : Int32) T6.heap n0 SZ6 QF6_1 QF6_2) hZ (ww hw 26 rfl) (ww hw 4 rfl) (by decide) (by decide)) q7a q7c (g := (mkF m 306 #[s0, s1, s2, s3, s4, s5, s6, s7, .val (.int rr), s9, s10, s11, .val (.int (1 : Int32)), .val (.ref rd), .val (.int (3 : Int32)), .val (.int (2 : Int32)), .val (.int (2 : Int32)), s17] [(.ref rd)])) rfl (by rw [hml]; rfl) (Steps.refl _) (argsL := []) (rest := []) (lenOf pd_3 rfl) rfl (Nat.le_refl _) (dd at_306) (fun _ _ => ⟨rfl, rfl, (by decide : 2 + 0 ≤ _), (by decide : 7 + 0 ≤ _)⟩)
    dsimp only [Pt.U, Pt.locs, Pt.cells, Pt.slots, Q_rm4] at X7 l7 y7 z7 st7 hQ7
    subst l7 y7 z7
    rw [show (fHM rd (2 : Int32) (3 : Int32)) = (1 : Int32) from (by unfold fHM; rw [if_pos (by decide : (2 : Int32) < (3 : Int32))]; try decide)] at hQ7
    obtain ⟨rfl, N7q, e7⟩ := hQ7
    have N7 := Fr.app N6 N7q
    refine Gz.tr st7 ?_
    refine Gz.iload 311 X7 hx (dd at_309) rfl rfl ?_
    refine Gz.iload 313 X7 hx (dd at_311) rfl rfl ?_
    refine Gz.icmpNo 316 X7 hx (dd at_313) (tlt (by decide : (2 : Int32) < (3 : Int32))).2.1 rfl ?_
    refine Gz.iconst 317 (1 : Int32) X7 hx (dd at_316) rfl rfl ?_
    refine Gz.goto 321 X7 hx (dd at_317) (by decide) (by decide) ?_
    refine Gz.icmpNo 324 X7 hx (dd at_321) (teq (by decide : (1 : Int32) = (1 : Int32))).2 rfl ?_
    refine Gz.iconst 325 (1 : Int32) X7 hx (dd at_324) rfl rfl ?_
    refine Gz.goto 329 X7 hx (dd at_325) (by decide) (by decide) ?_
    refine Gz.istore 331 #[s0, s1, s2, s3, s4, s5, s6, s7, .val (.int rr), s9, s10, s11, .val (.int (1 : Int32)), .val (.ref rd), .val (.int (3 : Int32)), .val (.int (2 : Int32)), .val (.int (2 : Int32)), s17] X7 hx (dd at_329) rfl rfl ?_
    refine Gz.iload 333 X7 hx (dd at_331) rfl rfl ?_
    refine Gz.iconst 334 (2 : Int32) X7 hx (dd at_333) rfl rfl ?_
    by_cases hc8 : rr < (2 : Int32)
    · refine Gz.icmpYes 390 X7 hx (dd at_334) (tlt hc8).1 (by decide) (by decide) ?_
      refine Gz.iload 392 X7 hx (dd at_390) rfl rfl ?_
      refine Gz.iconst 393 (3 : Int32) X7 hx (dd at_392) rfl rfl ?_
      refine Gz.icmpYes 449 X7 hx (dd at_393) (tlt (own_ALt32 hc8 (by decide) : rr < (3 : Int32))).1 (by decide) (by decide) ?_
      refine Gz.iload 451 X7 hx (dd at_449) rfl rfl ?_
      refine Gz.fin X7 (v := some (.int (1 : Int32))) (fun h => by rw [hret] at h; cases h) hlk (by decide) (by decide) (fun fs hr => retN X7 hx (t := .boolean) hret (by simp) (dd at_451) hr) ?_
      exact ⟨rfl, N7⟩
    · refine Gz.icmpNo 337 X7 hx (dd at_334) (flt hc8).1 rfl ?_
      refine Gz.iload 339 X7 hx (dd at_337) rfl rfl ?_
      refine Gz.ifNo 342 X7 hx (dd at_339) ((if0 _ _).trans (tlt (by decide : (0 : Int32) < (2 : Int32))).2.2.2) rfl ?_
      refine Gz.iload 344 X7 hx (dd at_342) rfl rfl ?_
      refine Gz.iload 346 X7 hx (dd at_344) rfl rfl ?_
      refine Gz.icmpNo 349 X7 hx (dd at_346) (tlt (by decide : (2 : Int32) < (3 : Int32))).2.1 rfl ?_
      refine Gz.aload 351 X7 hx (dd at_349) rfl rfl rfl ?_
      obtain ⟨c9, A9, q9, S9, N9, H9, G9⟩ := id f6_V_ba
      have hin10 : ¬ ((2 : Int32) < 0 ∨ c9.slots.size ≤ ((2 : Int32)).toNatClampNeg) := inb_of S9 ⟨by decide, by decide⟩
      have hat10 : c9.slots[((2 : Int32)).toNatClampNeg]? = some (.int w2) := Has.at H9 hin10 rfl
      obtain ⟨cq11, kq11, q11a, q11b, q11c⟩ := isOf hZ e7 QE6_0
      obtain ⟨_, _, ⟨T11, L11, k11, n11⟩, -, X11, ⟨Lc11, hQ11, l11, y11, z11⟩, st11⟩ := X7.virtualBack hx (y := ym1) (z := ym1) hown (mvT hZ (ww hw 27 rfl)) (mvT hZ (ww hw 28 rfl)) (notFace_of_selects (args := #[]) (mvT hZ (ww hw 30 rfl))) (mvT hZ (ww hw 30 rfl)) (mvT hZ (ww hw 29 rfl)) (by decide) (backOf (W := 0) (rmV1 l Z av0 hw [] rd ba (2 : Int32) (3 : Int32) c9 w2 T6.heap n0 SZ6 QE6_0 QF6_0 QF6_1 QF6_2 g_rd A9 ne_ba_rd hin10 hat10 (by decide : ¬ ((2 : Int32) = (3 : Int32))) hw2) hZ (ww hw 31 rfl) (ww hw 4 rfl) (by decide) (by decide)) q11a q11c (g := (mkF m 351 #[s0, s1, s2, s3, s4, s5, s6, s7, .val (.int rr), s9, s10, s11, .val (.int (1 : Int32)), .val (.ref rd), .val (.int (3 : Int32)), .val (.int (2 : Int32)), .val (.int (2 : Int32)), s17] [(.ref rd)])) rfl (by rw [hml]; rfl) (Steps.refl _) (argsL := []) (rest := []) (lenOf pd_1 rfl) rfl (Nat.le_refl _) (dd at_351) (fun _ _ => ⟨rfl, e7, (by decide : 2 + 0 ≤ _), (by decide : 7 + 0 ≤ _)⟩)
      dsimp only [Pt.U, Pt.locs, Pt.cells, Pt.slots, Q_rmV1] at X11 l11 y11 z11 st11 hQ11
      subst l11 y11 z11
      obtain ⟨rfl, N11q, K11q, QE11_0, QF11_0, QF11_1, QF11_2⟩ := hQ11
      have N11 := Fr.app N7 N11q
      have f11_E_rd := Exa.keep QE6_0 K11q
      have f11_V_ba := Arv.keep f6_V_ba K11q (ninS ne_ba_rd nin0)
      have SZ11 := Nat.le_trans SZ6 K11q.1
      replace QF11_1 : Fld Z T11.heap rd "com/example/bad_status/badstatus/model/ProtoReader" "position" "I" (.int (3 : Int32)) := QF11_1
      refine Gz.tr st11 ?_
      refine Gz.st (S' := (T11.setTop (mkF m 355 #[s0, s1, s2, s3, s4, s5, s6, s7, .val (.int rr), s9, s10, s11, .val (.int (1 : Int32)), .val (.ref rd), .val (.int (3 : Int32)), .val (.int (2 : Int32)), .val (.int (2 : Int32)), s17] []))) (fun t k => by jvm_step X11.here [X11.here.top, hx, (dd at_354), Value.category]; exact k) ?_
      refine Gz.iinc 358 #[s0, s1, s2, s3, s4, s5, s6, s7, .val (.int rr), s9, s10, s11, .val (.int (1 : Int32)), .val (.ref rd), .val (.int (3 : Int32)), .val (.int (3 : Int32)), .val (.int (2 : Int32)), s17] X11 hx (dd at_355) rfl rfl rfl ?_
      refine Gz.iload 360 X11 hx (dd at_358) rfl rfl ?_
      refine Gz.ifNo 363 X11 hx (dd at_360) ((if0 _ _).trans (feq (by decide : ¬ ((1 : Int32) = (0 : Int32)))).1) rfl ?_
      refine Gz.aload 365 X11 hx (dd at_363) rfl rfl rfl ?_
      obtain ⟨cq12, kq12, q12a, q12b, q12c⟩ := isOf hZ rfl QE11_0
      obtain ⟨_, _, ⟨T12, L12, k12, n12⟩, -, X12, ⟨Lc12, hQ12, l12, y12, z12⟩, st12⟩ := X11.virtualBack hx (y := ym3) (z := ym3) hown (mvT hZ (ww hw 22 rfl)) (mvT hZ (ww hw 23 rfl)) (notFace_of_selects (args := #[]) (mvT hZ (ww hw 25 rfl))) (mvT hZ (ww hw 25 rfl)) (mvT hZ (ww hw 24 rfl)) (by decide) (backOf (W := 0) (rm4 l Z av0 hw [] rd (3 : Int32) (3 : Int32) T11.heap n0 SZ11 QF11_1 QF11_2) hZ (ww hw 26 rfl) (ww hw 4 rfl) (by decide) (by decide)) q12a q12c (g := (mkF m 365 #[s0, s1, s2, s3, s4, s5, s6, s7, .val (.int rr), s9, s10, s11, .val (.int (1 : Int32)), .val (.ref rd), .val (.int (3 : Int32)), .val (.int (3 : Int32)), .val (.int (2 : Int32)), s17] [(.ref rd)])) rfl (by rw [hml]; rfl) (Steps.refl _) (argsL := []) (rest := []) (lenOf pd_3 rfl) rfl (Nat.le_refl _) (dd at_365) (fun _ _ => ⟨rfl, rfl, (by decide : 2 + 0 ≤ _), (by decide : 7 + 0 ≤ _)⟩)
      dsimp only [Pt.U, Pt.locs, Pt.cells, Pt.slots, Q_rm4] at X12 l12 y12 z12 st12 hQ12
      subst l12 y12 z12
      rw [show (fHM rd (3 : Int32) (3 : Int32)) = (0 : Int32) from (by unfold fHM; rw [if_neg (by decide : ¬ ((3 : Int32) < (3 : Int32)))]; try decide)] at hQ12
      obtain ⟨rfl, N12q, e12⟩ := hQ12
      have N12 := Fr.app N11 N12q
      refine Gz.tr st12 ?_
      refine Gz.iload 370 X12 hx (dd at_368) rfl rfl ?_
      refine Gz.iload 372 X12 hx (dd at_370) rfl rfl ?_
      refine Gz.icmpYes 379 X12 hx (dd at_372) (flt (by decide : ¬ ((3 : Int32) < (3 : Int32)))).2.1 (by decide) (by decide) ?_
      refine Gz.iconst 380 (0 : Int32) X12 hx (dd at_379) rfl rfl ?_
      refine Gz.icmpNo 383 X12 hx (dd at_380) (teq (by decide : (0 : Int32) = (0 : Int32))).2 rfl ?_
      refine Gz.iconst 384 (1 : Int32) X12 hx (dd at_383) rfl rfl ?_
      refine Gz.goto 388 X12 hx (dd at_384) (by decide) (by decide) ?_
      refine Gz.istore 390 #[s0, s1, s2, s3, s4, s5, s6, s7, .val (.int rr), s9, s10, s11, .val (.int (1 : Int32)), .val (.ref rd), .val (.int (3 : Int32)), .val (.int (3 : Int32)), .val (.int (2 : Int32)), s17] X12 hx (dd at_388) rfl rfl ?_
      refine Gz.iload 392 X12 hx (dd at_390) rfl rfl ?_
      refine Gz.iconst 393 (3 : Int32) X12 hx (dd at_392) rfl rfl ?_
      by_cases hc13 : rr < (3 : Int32)
      · refine Gz.icmpYes 449 X12 hx (dd at_393) (tlt hc13).1 (by decide) (by decide) ?_
        refine Gz.iload 451 X12 hx (dd at_449) rfl rfl ?_
        refine Gz.fin X12 (v := some (.int (1 : Int32))) (fun h => by rw [hret] at h; cases h) hlk (by decide) (by decide) (fun fs hr => retN X12 hx (t := .boolean) hret (by simp) (dd at_451) hr) ?_
        exact ⟨rfl, N12⟩
      · refine Gz.icmpNo 396 X12 hx (dd at_393) (flt hc13).1 rfl ?_
        refine Gz.iload 398 X12 hx (dd at_396) rfl rfl ?_
        refine Gz.ifNo 401 X12 hx (dd at_398) ((if0 _ _).trans (tlt (by decide : (0 : Int32) < (3 : Int32))).2.2.2) rfl ?_
        refine Gz.iload 403 X12 hx (dd at_401) rfl rfl ?_
        refine Gz.iload 405 X12 hx (dd at_403) rfl rfl ?_
        refine Gz.icmpYes 449 X12 hx (dd at_405) (flt (by decide : ¬ ((3 : Int32) < (3 : Int32)))).2.1 (by decide) (by decide) ?_
        refine Gz.iload 451 X12 hx (dd at_449) rfl rfl ?_
        refine Gz.fin X12 (v := some (.int (1 : Int32))) (fun h => by rw [hret] at h; cases h) hlk (by decide) (by decide) (fun fs hr => retN X12 hx (t := .boolean) hret (by simp) (dd at_451) hr) ?_
        exact ⟨rfl, N12⟩
set_option maxRecDepth 65536 in
set_option maxHeartbeats 40000000 in
theorem sg_3_0_1 {p : Program} {l : Launch} {e : Env} {s : State} {m : MethodId} {args : Array Value} {below : List Frame} {meth : Method} {c : Code} {T0 : State} {locs : List Loc} {Z : State} {av0 : Array Value} {hS : Heap} (s0 : Slot) (s1 : Slot) (s2 : Slot) (s3 : Slot) (s4 : Slot) (s5 : Slot) (s6 : Slot) (s7 : Slot) (rr : Int32) (s9 : Slot) (s10 : Slot) (s11 : Slot) (rd : Addr) (s17 : Slot) (ba : Addr) (k_ba : ClassId) (w1 : Int32) (w2 : Int32) (n0 : Nat)
    (X0 : Stand p l e room_1 s m args below meth c T0 locs 3 11) (hx : p.tables.exec = Jvm.exec) (hZ : Z.Warmed39 s.vm) (hw : ∀ d ∈ tables_1, d.before av0 Z = true) (hby : c.code = code) (hml : c.maxLocals = 18) (hown : s.vm.findClass "com/example/bad_status/badstatus/model/ProtoReaderHasMorePinLaw" = some m.cls) (hret : meth.sig.returnType = some .boolean) (hlk : meth.locks = false) (e0 : T0.heap = hS) (N0 : Fr n0 locs) (Z0 : n0 ≤ hS.size) (E_rd : Exa Z hS rd "com/example/bad_status/badstatus/model/ProtoReader") (F_bytes_rd : Fld Z hS rd "com/example/bad_status/badstatus/model/ProtoReader" "bytes" "[B" (.ref ba)) (F_position_rd : Fld Z hS rd "com/example/bad_status/badstatus/model/ProtoReader" "position" "I" (.int (1 : Int32))) (F_end_rd : Fld Z hS rd "com/example/bad_status/badstatus/model/ProtoReader" "end" "I" (.int (1 : Int32))) (g_rd : n0 ≤ rd) (V_ba : Arv Z hS ba k_ba .byte (3 : Int32) [(.int (0 : Int32)), (.int w1), (.int w2)] (.int (0 : Int32))) (ne_ba_rd : ba ≠ rd) (hw1 : ¬ (w1 < (0 : Int32))) (hw2 : ¬ (w2 < (0 : Int32))) :
    Gz p e below s 16 128 (Q_law n0) (T0.setTop (mkF m 240 #[s0, s1, s2, s3, s4, s5, s6, s7, .val (.int rr), s9, s10, s11, .val (.int (1 : Int32)), .val (.ref rd), .val (.int (0 : Int32)), .val (.int (0 : Int32)), .val (.int (1 : Int32)), s17] [])) := by
  have dd : ∀ {pc : Nat} {r : Except DecodeError (Instr × Nat)}, decode code pc = r → decode c.code pc = r := fun q => hb hby q
  refine Gz.iload 242 X0 hx (dd at_240) rfl rfl ?_
  refine Gz.ifNo 245 X0 hx (dd at_242) ((if0 _ _).trans (feq (by decide : ¬ ((1 : Int32) = (0 : Int32)))).1) rfl ?_
  refine Gz.aload 247 X0 hx (dd at_245) rfl rfl rfl ?_
  obtain ⟨cq1, kq1, q1a, q1b, q1c⟩ := isOf hZ e0 E_rd
  obtain ⟨_, _, ⟨T1, L1, k1, n1⟩, -, X1, ⟨Lc1, hQ1, l1, y1, z1⟩, st1⟩ := X0.virtualBack hx (y := ym3) (z := ym3) hown (mvT hZ (ww hw 22 rfl)) (mvT hZ (ww hw 23 rfl)) (notFace_of_selects (args := #[]) (mvT hZ (ww hw 25 rfl))) (mvT hZ (ww hw 25 rfl)) (mvT hZ (ww hw 24 rfl)) (by decide) (backOf (W := 0) (rm4 l Z av0 hw [] rd (1 : Int32) (1 : Int32) hS n0 Z0 F_position_rd F_end_rd) hZ (ww hw 26 rfl) (ww hw 4 rfl) (by decide) (by decide)) q1a q1c (g := (mkF m 247 #[s0, s1, s2, s3, s4, s5, s6, s7, .val (.int rr), s9, s10, s11, .val (.int (1 : Int32)), .val (.ref rd), .val (.int (0 : Int32)), .val (.int (0 : Int32)), .val (.int (1 : Int32)), s17] [(.ref rd)])) rfl (by rw [hml]; rfl) (Steps.refl _) (argsL := []) (rest := []) (lenOf pd_3 rfl) rfl (Nat.le_refl _) (dd at_247) (fun _ _ => ⟨rfl, e0, (by decide : 3 + 0 ≤ _), (by decide : 11 + 0 ≤ _)⟩)
  dsimp only [Pt.U, Pt.locs, Pt.cells, Pt.slots, Q_rm4] at X1 l1 y1 z1 st1 hQ1
  subst l1 y1 z1
  rw [show (fHM rd (1 : Int32) (1 : Int32)) = (0 : Int32) from (by unfold fHM; rw [if_neg (by decide : ¬ ((1 : Int32) < (1 : Int32)))]; try decide)] at hQ1
  obtain ⟨rfl, N1q, e1⟩ := hQ1
  have N1 := Fr.app N0 N1q
  refine Gz.tr st1 ?_
  refine Gz.iload 252 X1 hx (dd at_250) rfl rfl ?_
  refine Gz.ifYes 259 X1 hx (dd at_252) ((if0 _ _).trans (flt (by decide : ¬ ((0 : Int32) < (0 : Int32)))).2.2.2) (by decide) (by decide) ?_
  refine Gz.iconst 260 (0 : Int32) X1 hx (dd at_259) rfl rfl ?_
  refine Gz.icmpNo 263 X1 hx (dd at_260) (teq (by decide : (0 : Int32) = (0 : Int32))).2 rfl ?_
  refine Gz.iconst 264 (1 : Int32) X1 hx (dd at_263) rfl rfl ?_
  refine Gz.goto 268 X1 hx (dd at_264) (by decide) (by decide) ?_
  refine Gz.istore 270 #[s0, s1, s2, s3, s4, s5, s6, s7, .val (.int rr), s9, s10, s11, .val (.int (1 : Int32)), .val (.ref rd), .val (.int (0 : Int32)), .val (.int (0 : Int32)), .val (.int (1 : Int32)), s17] X1 hx (dd at_268) rfl rfl ?_
  refine Gz.iload 272 X1 hx (dd at_270) rfl rfl ?_
  refine Gz.iconst 273 (1 : Int32) X1 hx (dd at_272) rfl rfl ?_
  by_cases hc2 : rr < (1 : Int32)
  · refine Gz.icmpYes 331 X1 hx (dd at_273) (tlt hc2).1 (by decide) (by decide) ?_
    refine Gz.iload 333 X1 hx (dd at_331) rfl rfl ?_
    refine Gz.iconst 334 (2 : Int32) X1 hx (dd at_333) rfl rfl ?_
    refine Gz.icmpYes 390 X1 hx (dd at_334) (tlt (own_ALt32 hc2 (by decide) : rr < (2 : Int32))).1 (by decide) (by decide) ?_
    refine Gz.iload 392 X1 hx (dd at_390) rfl rfl ?_
    refine Gz.iconst 393 (3 : Int32) X1 hx (dd at_392) rfl rfl ?_
    refine Gz.icmpYes 449 X1 hx (dd at_393) (tlt (own_ALt32 hc2 (by decide) : rr < (3 : Int32))).1 (by decide) (by decide) ?_
    refine Gz.iload 451 X1 hx (dd at_449) rfl rfl ?_
    refine Gz.fin X1 (v := some (.int (1 : Int32))) (fun h => by rw [hret] at h; cases h) hlk (by decide) (by decide) (fun fs hr => retN X1 hx (t := .boolean) hret (by simp) (dd at_451) hr) ?_
    exact ⟨rfl, N1⟩
  · refine Gz.icmpNo 276 X1 hx (dd at_273) (flt hc2).1 rfl ?_
    refine Gz.iload 278 X1 hx (dd at_276) rfl rfl ?_
    refine Gz.iload 280 X1 hx (dd at_278) rfl rfl ?_
    refine Gz.iaddV 281 (1 : Int32) X1 hx (dd at_280) rfl rfl ?_
    refine Gz.iload 283 X1 hx (dd at_281) rfl rfl ?_
    refine Gz.icmpYes 331 X1 hx (dd at_283) (tlt (by decide : (0 : Int32) < (1 : Int32))).2.2.1 (by decide) (by decide) ?_
    refine Gz.iload 333 X1 hx (dd at_331) rfl rfl ?_
    refine Gz.iconst 334 (2 : Int32) X1 hx (dd at_333) rfl rfl ?_
    by_cases hc3 : rr < (2 : Int32)
    · refine Gz.icmpYes 390 X1 hx (dd at_334) (tlt hc3).1 (by decide) (by decide) ?_
      refine Gz.iload 392 X1 hx (dd at_390) rfl rfl ?_
      refine Gz.iconst 393 (3 : Int32) X1 hx (dd at_392) rfl rfl ?_
      refine Gz.icmpYes 449 X1 hx (dd at_393) (tlt (own_ALt32 hc3 (by decide) : rr < (3 : Int32))).1 (by decide) (by decide) ?_
      refine Gz.iload 451 X1 hx (dd at_449) rfl rfl ?_
      refine Gz.fin X1 (v := some (.int (1 : Int32))) (fun h => by rw [hret] at h; cases h) hlk (by decide) (by decide) (fun fs hr => retN X1 hx (t := .boolean) hret (by simp) (dd at_451) hr) ?_
      exact ⟨rfl, N1⟩
    · refine Gz.icmpNo 337 X1 hx (dd at_334) (flt hc3).1 rfl ?_
      refine Gz.iload 339 X1 hx (dd at_337) rfl rfl ?_
      refine Gz.ifYes 390 X1 hx (dd at_339) ((if0 _ _).trans (flt (by decide : ¬ ((0 : Int32) < (0 : Int32)))).2.2.2) (by decide) (by decide) ?_
      refine Gz.iload 392 X1 hx (dd at_390) rfl rfl ?_
      refine Gz.iconst 393 (3 : Int32) X1 hx (dd at_392) rfl rfl ?_
      by_cases hc4 : rr < (3 : Int32)
      · refine Gz.icmpYes 449 X1 hx (dd at_393) (tlt hc4).1 (by decide) (by decide) ?_
        refine Gz.iload 451 X1 hx (dd at_449) rfl rfl ?_
        refine Gz.fin X1 (v := some (.int (1 : Int32))) (fun h => by rw [hret] at h; cases h) hlk (by decide) (by decide) (fun fs hr => retN X1 hx (t := .boolean) hret (by simp) (dd at_451) hr) ?_
        exact ⟨rfl, N1⟩
      · refine Gz.icmpNo 396 X1 hx (dd at_393) (flt hc4).1 rfl ?_
        refine Gz.iload 398 X1 hx (dd at_396) rfl rfl ?_
        refine Gz.ifYes 449 X1 hx (dd at_398) ((if0 _ _).trans (flt (by decide : ¬ ((0 : Int32) < (0 : Int32)))).2.2.2) (by decide) (by decide) ?_
        refine Gz.iload 451 X1 hx (dd at_449) rfl rfl ?_
        refine Gz.fin X1 (v := some (.int (1 : Int32))) (fun h => by rw [hret] at h; cases h) hlk (by decide) (by decide) (fun fs hr => retN X1 hx (t := .boolean) hret (by simp) (dd at_451) hr) ?_
        exact ⟨rfl, N1⟩
set_option maxRecDepth 65536 in
set_option maxHeartbeats 40000000 in
theorem sg_3_1_1 {p : Program} {l : Launch} {e : Env} {s : State} {m : MethodId} {args : Array Value} {below : List Frame} {meth : Method} {c : Code} {T0 : State} {locs : List Loc} {Z : State} {av0 : Array Value} {hS : Heap} (s0 : Slot) (s1 : Slot) (s2 : Slot) (s3 : Slot) (s4 : Slot) (s5 : Slot) (s6 : Slot) (s7 : Slot) (rr : Int32) (s9 : Slot) (s10 : Slot) (s11 : Slot) (rd : Addr) (s17 : Slot) (ba : Addr) (k_ba : ClassId) (w1 : Int32) (w2 : Int32) (n0 : Nat)
    (X0 : Stand p l e room_1 s m args below meth c T0 locs 3 11) (hx : p.tables.exec = Jvm.exec) (hZ : Z.Warmed39 s.vm) (hw : ∀ d ∈ tables_1, d.before av0 Z = true) (hby : c.code = code) (hml : c.maxLocals = 18) (hown : s.vm.findClass "com/example/bad_status/badstatus/model/ProtoReaderHasMorePinLaw" = some m.cls) (hret : meth.sig.returnType = some .boolean) (hlk : meth.locks = false) (e0 : T0.heap = hS) (N0 : Fr n0 locs) (Z0 : n0 ≤ hS.size) (E_rd : Exa Z hS rd "com/example/bad_status/badstatus/model/ProtoReader") (F_bytes_rd : Fld Z hS rd "com/example/bad_status/badstatus/model/ProtoReader" "bytes" "[B" (.ref ba)) (F_position_rd : Fld Z hS rd "com/example/bad_status/badstatus/model/ProtoReader" "position" "I" (.int (1 : Int32))) (F_end_rd : Fld Z hS rd "com/example/bad_status/badstatus/model/ProtoReader" "end" "I" (.int (2 : Int32))) (g_rd : n0 ≤ rd) (V_ba : Arv Z hS ba k_ba .byte (3 : Int32) [(.int (1 : Int32)), (.int w1), (.int w2)] (.int (0 : Int32))) (ne_ba_rd : ba ≠ rd) (hw1 : ¬ (w1 < (0 : Int32))) (hw2 : ¬ (w2 < (0 : Int32))) :
    Gz p e below s 16 128 (Q_law n0) (T0.setTop (mkF m 240 #[s0, s1, s2, s3, s4, s5, s6, s7, .val (.int rr), s9, s10, s11, .val (.int (1 : Int32)), .val (.ref rd), .val (.int (1 : Int32)), .val (.int (0 : Int32)), .val (.int (1 : Int32)), s17] [])) := by
  have dd : ∀ {pc : Nat} {r : Except DecodeError (Instr × Nat)}, decode code pc = r → decode c.code pc = r := fun q => hb hby q
  refine Gz.iload 242 X0 hx (dd at_240) rfl rfl ?_
  refine Gz.ifNo 245 X0 hx (dd at_242) ((if0 _ _).trans (feq (by decide : ¬ ((1 : Int32) = (0 : Int32)))).1) rfl ?_
  refine Gz.aload 247 X0 hx (dd at_245) rfl rfl rfl ?_
  obtain ⟨cq1, kq1, q1a, q1b, q1c⟩ := isOf hZ e0 E_rd
  obtain ⟨_, _, ⟨T1, L1, k1, n1⟩, -, X1, ⟨Lc1, hQ1, l1, y1, z1⟩, st1⟩ := X0.virtualBack hx (y := ym3) (z := ym3) hown (mvT hZ (ww hw 22 rfl)) (mvT hZ (ww hw 23 rfl)) (notFace_of_selects (args := #[]) (mvT hZ (ww hw 25 rfl))) (mvT hZ (ww hw 25 rfl)) (mvT hZ (ww hw 24 rfl)) (by decide) (backOf (W := 0) (rm4 l Z av0 hw [] rd (1 : Int32) (2 : Int32) hS n0 Z0 F_position_rd F_end_rd) hZ (ww hw 26 rfl) (ww hw 4 rfl) (by decide) (by decide)) q1a q1c (g := (mkF m 247 #[s0, s1, s2, s3, s4, s5, s6, s7, .val (.int rr), s9, s10, s11, .val (.int (1 : Int32)), .val (.ref rd), .val (.int (1 : Int32)), .val (.int (0 : Int32)), .val (.int (1 : Int32)), s17] [(.ref rd)])) rfl (by rw [hml]; rfl) (Steps.refl _) (argsL := []) (rest := []) (lenOf pd_3 rfl) rfl (Nat.le_refl _) (dd at_247) (fun _ _ => ⟨rfl, e0, (by decide : 3 + 0 ≤ _), (by decide : 11 + 0 ≤ _)⟩)
  dsimp only [Pt.U, Pt.locs, Pt.cells, Pt.slots, Q_rm4] at X1 l1 y1 z1 st1 hQ1
  subst l1 y1 z1
  rw [show (fHM rd (1 : Int32) (2 : Int32)) = (1 : Int32) from (by unfold fHM; rw [if_pos (by decide : (1 : Int32) < (2 : Int32))]; try decide)] at hQ1
  obtain ⟨rfl, N1q, e1⟩ := hQ1
  have N1 := Fr.app N0 N1q
  refine Gz.tr st1 ?_
  refine Gz.iload 252 X1 hx (dd at_250) rfl rfl ?_
  refine Gz.ifNo 255 X1 hx (dd at_252) ((if0 _ _).trans (tlt (by decide : (0 : Int32) < (1 : Int32))).2.2.2) rfl ?_
  refine Gz.iconst 256 (1 : Int32) X1 hx (dd at_255) rfl rfl ?_
  refine Gz.goto 260 X1 hx (dd at_256) (by decide) (by decide) ?_
  refine Gz.icmpNo 263 X1 hx (dd at_260) (teq (by decide : (1 : Int32) = (1 : Int32))).2 rfl ?_
  refine Gz.iconst 264 (1 : Int32) X1 hx (dd at_263) rfl rfl ?_
  refine Gz.goto 268 X1 hx (dd at_264) (by decide) (by decide) ?_
  refine Gz.istore 270 #[s0, s1, s2, s3, s4, s5, s6, s7, .val (.int rr), s9, s10, s11, .val (.int (1 : Int32)), .val (.ref rd), .val (.int (1 : Int32)), .val (.int (0 : Int32)), .val (.int (1 : Int32)), s17] X1 hx (dd at_268) rfl rfl ?_
  refine Gz.iload 272 X1 hx (dd at_270) rfl rfl ?_
  refine Gz.iconst 273 (1 : Int32) X1 hx (dd at_272) rfl rfl ?_
  by_cases hc2 : rr < (1 : Int32)
  · refine Gz.icmpYes 331 X1 hx (dd at_273) (tlt hc2).1 (by decide) (by decide) ?_
    refine Gz.iload 333 X1 hx (dd at_331) rfl rfl ?_
    refine Gz.iconst 334 (2 : Int32) X1 hx (dd at_333) rfl rfl ?_
    refine Gz.icmpYes 390 X1 hx (dd at_334) (tlt (own_ALt32 hc2 (by decide) : rr < (2 : Int32))).1 (by decide) (by decide) ?_
    refine Gz.iload 392 X1 hx (dd at_390) rfl rfl ?_
    refine Gz.iconst 393 (3 : Int32) X1 hx (dd at_392) rfl rfl ?_
    refine Gz.icmpYes 449 X1 hx (dd at_393) (tlt (own_ALt32 hc2 (by decide) : rr < (3 : Int32))).1 (by decide) (by decide) ?_
    refine Gz.iload 451 X1 hx (dd at_449) rfl rfl ?_
    refine Gz.fin X1 (v := some (.int (1 : Int32))) (fun h => by rw [hret] at h; cases h) hlk (by decide) (by decide) (fun fs hr => retN X1 hx (t := .boolean) hret (by simp) (dd at_451) hr) ?_
    exact ⟨rfl, N1⟩
  · refine Gz.icmpNo 276 X1 hx (dd at_273) (flt hc2).1 rfl ?_
    refine Gz.iload 278 X1 hx (dd at_276) rfl rfl ?_
    refine Gz.iload 280 X1 hx (dd at_278) rfl rfl ?_
    refine Gz.iaddV 281 (1 : Int32) X1 hx (dd at_280) rfl rfl ?_
    refine Gz.iload 283 X1 hx (dd at_281) rfl rfl ?_
    refine Gz.icmpNo 286 X1 hx (dd at_283) (flt (by decide : ¬ ((1 : Int32) < (1 : Int32)))).2.2.1 rfl ?_
    refine Gz.aload 288 X1 hx (dd at_286) rfl rfl rfl ?_
    obtain ⟨c3, A3, q3, S3, N3, H3, G3⟩ := id V_ba
    have hin4 : ¬ ((1 : Int32) < 0 ∨ c3.slots.size ≤ ((1 : Int32)).toNatClampNeg) := inb_of S3 ⟨by decide, by decide⟩
    have hat4 : c3.slots[((1 : Int32)).toNatClampNeg]? = some (.int w1) := Has.at H3 hin4 rfl
    obtain ⟨cq5, kq5, q5a, q5b, q5c⟩ := isOf hZ e1 E_rd
    obtain ⟨_, _, ⟨T5, L5, k5, n5⟩, -, X5, ⟨Lc5, hQ5, l5, y5, z5⟩, st5⟩ := X1.virtualBack hx (y := ym1) (z := ym1) hown (mvT hZ (ww hw 27 rfl)) (mvT hZ (ww hw 28 rfl)) (notFace_of_selects (args := #[]) (mvT hZ (ww hw 30 rfl))) (mvT hZ (ww hw 30 rfl)) (mvT hZ (ww hw 29 rfl)) (by decide) (backOf (W := 0) (rmV1 l Z av0 hw [] rd ba (1 : Int32) (2 : Int32) c3 w1 hS n0 Z0 E_rd F_bytes_rd F_position_rd F_end_rd g_rd A3 ne_ba_rd hin4 hat4 (by decide : ¬ ((1 : Int32) = (2 : Int32))) hw1) hZ (ww hw 31 rfl) (ww hw 4 rfl) (by decide) (by decide)) q5a q5c (g := (mkF m 288 #[s0, s1, s2, s3, s4, s5, s6, s7, .val (.int rr), s9, s10, s11, .val (.int (1 : Int32)), .val (.ref rd), .val (.int (1 : Int32)), .val (.int (0 : Int32)), .val (.int (1 : Int32)), s17] [(.ref rd)])) rfl (by rw [hml]; rfl) (Steps.refl _) (argsL := []) (rest := []) (lenOf pd_1 rfl) rfl (Nat.le_refl _) (dd at_288) (fun _ _ => ⟨rfl, e1, (by decide : 3 + 0 ≤ _), (by decide : 11 + 0 ≤ _)⟩)
    dsimp only [Pt.U, Pt.locs, Pt.cells, Pt.slots, Q_rmV1] at X5 l5 y5 z5 st5 hQ5
    subst l5 y5 z5
    obtain ⟨rfl, N5q, K5q, QE5_0, QF5_0, QF5_1, QF5_2⟩ := hQ5
    have N5 := Fr.app N1 N5q
    have f5_E_rd := Exa.keep E_rd K5q
    have f5_V_ba := Arv.keep V_ba K5q (ninS ne_ba_rd nin0)
    have SZ5 := Nat.le_trans Z0 K5q.1
    replace QF5_1 : Fld Z T5.heap rd "com/example/bad_status/badstatus/model/ProtoReader" "position" "I" (.int (2 : Int32)) := QF5_1
    refine Gz.tr st5 ?_
    refine Gz.st (S' := (T5.setTop (mkF m 292 #[s0, s1, s2, s3, s4, s5, s6, s7, .val (.int rr), s9, s10, s11, .val (.int (1 : Int32)), .val (.ref rd), .val (.int (1 : Int32)), .val (.int (0 : Int32)), .val (.int (1 : Int32)), s17] []))) (fun t k => by jvm_step X5.here [X5.here.top, hx, (dd at_291), Value.category]; exact k) ?_
    refine Gz.iload 294 X5 hx (dd at_292) rfl rfl ?_
    refine Gz.iload 296 X5 hx (dd at_294) rfl rfl ?_
    refine Gz.iaddV 297 (1 : Int32) X5 hx (dd at_296) rfl rfl ?_
    refine Gz.istore 299 #[s0, s1, s2, s3, s4, s5, s6, s7, .val (.int rr), s9, s10, s11, .val (.int (1 : Int32)), .val (.ref rd), .val (.int (1 : Int32)), .val (.int (1 : Int32)), .val (.int (1 : Int32)), s17] X5 hx (dd at_297) rfl rfl ?_
    refine Gz.iload 301 X5 hx (dd at_299) rfl rfl ?_
    refine Gz.ifNo 304 X5 hx (dd at_301) ((if0 _ _).trans (feq (by decide : ¬ ((1 : Int32) = (0 : Int32)))).1) rfl ?_
    refine Gz.aload 306 X5 hx (dd at_304) rfl rfl rfl ?_
    obtain ⟨cq6, kq6, q6a, q6b, q6c⟩ := isOf hZ rfl QE5_0
    obtain ⟨_, _, ⟨T6, L6, k6, n6⟩, -, X6, ⟨Lc6, hQ6, l6, y6, z6⟩, st6⟩ := X5.virtualBack hx (y := ym3) (z := ym3) hown (mvT hZ (ww hw 22 rfl)) (mvT hZ (ww hw 23 rfl)) (notFace_of_selects (args := #[]) (mvT hZ (ww hw 25 rfl))) (mvT hZ (ww hw 25 rfl)) (mvT hZ (ww hw 24 rfl)) (by decide) (backOf (W := 0) (rm4 l Z av0 hw [] rd (2 : Int32) (2 : Int32) T5.heap n0 SZ5 QF5_1 QF5_2) hZ (ww hw 26 rfl) (ww hw 4 rfl) (by decide) (by decide)) q6a q6c (g := (mkF m 306 #[s0, s1, s2, s3, s4, s5, s6, s7, .val (.int rr), s9, s10, s11, .val (.int (1 : Int32)), .val (.ref rd), .val (.int (1 : Int32)), .val (.int (1 : Int32)), .val (.int (1 : Int32)), s17] [(.ref rd)])) rfl (by rw [hml]; rfl) (Steps.refl _) (argsL := []) (rest := []) (lenOf pd_3 rfl) rfl (Nat.le_refl _) (dd at_306) (fun _ _ => ⟨rfl, rfl, (by decide : 3 + 0 ≤ _), (by decide : 11 + 0 ≤ _)⟩)
    dsimp only [Pt.U, Pt.locs, Pt.cells, Pt.slots, Q_rm4] at X6 l6 y6 z6 st6 hQ6
    subst l6 y6 z6
    rw [show (fHM rd (2 : Int32) (2 : Int32)) = (0 : Int32) from (by unfold fHM; rw [if_neg (by decide : ¬ ((2 : Int32) < (2 : Int32)))]; try decide)] at hQ6
    obtain ⟨rfl, N6q, e6⟩ := hQ6
    have N6 := Fr.app N5 N6q
    refine Gz.tr st6 ?_
    refine Gz.iload 311 X6 hx (dd at_309) rfl rfl ?_
    refine Gz.iload 313 X6 hx (dd at_311) rfl rfl ?_
    refine Gz.icmpYes 320 X6 hx (dd at_313) (flt (by decide : ¬ ((1 : Int32) < (1 : Int32)))).2.1 (by decide) (by decide) ?_
    refine Gz.iconst 321 (0 : Int32) X6 hx (dd at_320) rfl rfl ?_
    refine Gz.icmpNo 324 X6 hx (dd at_321) (teq (by decide : (0 : Int32) = (0 : Int32))).2 rfl ?_
    refine Gz.iconst 325 (1 : Int32) X6 hx (dd at_324) rfl rfl ?_
    refine Gz.goto 329 X6 hx (dd at_325) (by decide) (by decide) ?_
    refine Gz.istore 331 #[s0, s1, s2, s3, s4, s5, s6, s7, .val (.int rr), s9, s10, s11, .val (.int (1 : Int32)), .val (.ref rd), .val (.int (1 : Int32)), .val (.int (1 : Int32)), .val (.int (1 : Int32)), s17] X6 hx (dd at_329) rfl rfl ?_
    refine Gz.iload 333 X6 hx (dd at_331) rfl rfl ?_
    refine Gz.iconst 334 (2 : Int32) X6 hx (dd at_333) rfl rfl ?_
    by_cases hc7 : rr < (2 : Int32)
    · refine Gz.icmpYes 390 X6 hx (dd at_334) (tlt hc7).1 (by decide) (by decide) ?_
      refine Gz.iload 392 X6 hx (dd at_390) rfl rfl ?_
      refine Gz.iconst 393 (3 : Int32) X6 hx (dd at_392) rfl rfl ?_
      refine Gz.icmpYes 449 X6 hx (dd at_393) (tlt (own_ALt32 hc7 (by decide) : rr < (3 : Int32))).1 (by decide) (by decide) ?_
      refine Gz.iload 451 X6 hx (dd at_449) rfl rfl ?_
      refine Gz.fin X6 (v := some (.int (1 : Int32))) (fun h => by rw [hret] at h; cases h) hlk (by decide) (by decide) (fun fs hr => retN X6 hx (t := .boolean) hret (by simp) (dd at_451) hr) ?_
      exact ⟨rfl, N6⟩
    · refine Gz.icmpNo 337 X6 hx (dd at_334) (flt hc7).1 rfl ?_
      refine Gz.iload 339 X6 hx (dd at_337) rfl rfl ?_
      refine Gz.ifNo 342 X6 hx (dd at_339) ((if0 _ _).trans (tlt (by decide : (0 : Int32) < (1 : Int32))).2.2.2) rfl ?_
      refine Gz.iload 344 X6 hx (dd at_342) rfl rfl ?_
      refine Gz.iload 346 X6 hx (dd at_344) rfl rfl ?_
      refine Gz.icmpYes 390 X6 hx (dd at_346) (flt (by decide : ¬ ((1 : Int32) < (1 : Int32)))).2.1 (by decide) (by decide) ?_
      refine Gz.iload 392 X6 hx (dd at_390) rfl rfl ?_
      refine Gz.iconst 393 (3 : Int32) X6 hx (dd at_392) rfl rfl ?_
      by_cases hc8 : rr < (3 : Int32)
      · refine Gz.icmpYes 449 X6 hx (dd at_393) (tlt hc8).1 (by decide) (by decide) ?_
        refine Gz.iload 451 X6 hx (dd at_449) rfl rfl ?_
        refine Gz.fin X6 (v := some (.int (1 : Int32))) (fun h => by rw [hret] at h; cases h) hlk (by decide) (by decide) (fun fs hr => retN X6 hx (t := .boolean) hret (by simp) (dd at_451) hr) ?_
        exact ⟨rfl, N6⟩
      · refine Gz.icmpNo 396 X6 hx (dd at_393) (flt hc8).1 rfl ?_
        refine Gz.iload 398 X6 hx (dd at_396) rfl rfl ?_
        refine Gz.ifNo 401 X6 hx (dd at_398) ((if0 _ _).trans (tlt (by decide : (0 : Int32) < (1 : Int32))).2.2.2) rfl ?_
        refine Gz.iload 403 X6 hx (dd at_401) rfl rfl ?_
        refine Gz.iload 405 X6 hx (dd at_403) rfl rfl ?_
        refine Gz.icmpYes 449 X6 hx (dd at_405) (flt (by decide : ¬ ((1 : Int32) < (1 : Int32)))).2.1 (by decide) (by decide) ?_
        refine Gz.iload 451 X6 hx (dd at_449) rfl rfl ?_
        refine Gz.fin X6 (v := some (.int (1 : Int32))) (fun h => by rw [hret] at h; cases h) hlk (by decide) (by decide) (fun fs hr => retN X6 hx (t := .boolean) hret (by simp) (dd at_451) hr) ?_
        exact ⟨rfl, N6⟩
set_option maxRecDepth 65536 in
set_option maxHeartbeats 40000000 in
theorem sg_3_2_1 {p : Program} {l : Launch} {e : Env} {s : State} {m : MethodId} {args : Array Value} {below : List Frame} {meth : Method} {c : Code} {T0 : State} {locs : List Loc} {Z : State} {av0 : Array Value} {hS : Heap} (s0 : Slot) (s1 : Slot) (s2 : Slot) (s3 : Slot) (s4 : Slot) (s5 : Slot) (s6 : Slot) (s7 : Slot) (rr : Int32) (s9 : Slot) (s10 : Slot) (s11 : Slot) (rd : Addr) (s17 : Slot) (ba : Addr) (k_ba : ClassId) (w1 : Int32) (w2 : Int32) (n0 : Nat)
    (X0 : Stand p l e room_1 s m args below meth c T0 locs 3 11) (hx : p.tables.exec = Jvm.exec) (hZ : Z.Warmed39 s.vm) (hw : ∀ d ∈ tables_1, d.before av0 Z = true) (hby : c.code = code) (hml : c.maxLocals = 18) (hown : s.vm.findClass "com/example/bad_status/badstatus/model/ProtoReaderHasMorePinLaw" = some m.cls) (hret : meth.sig.returnType = some .boolean) (hlk : meth.locks = false) (e0 : T0.heap = hS) (N0 : Fr n0 locs) (Z0 : n0 ≤ hS.size) (E_rd : Exa Z hS rd "com/example/bad_status/badstatus/model/ProtoReader") (F_bytes_rd : Fld Z hS rd "com/example/bad_status/badstatus/model/ProtoReader" "bytes" "[B" (.ref ba)) (F_position_rd : Fld Z hS rd "com/example/bad_status/badstatus/model/ProtoReader" "position" "I" (.int (1 : Int32))) (F_end_rd : Fld Z hS rd "com/example/bad_status/badstatus/model/ProtoReader" "end" "I" (.int (3 : Int32))) (g_rd : n0 ≤ rd) (V_ba : Arv Z hS ba k_ba .byte (3 : Int32) [(.int (2 : Int32)), (.int w1), (.int w2)] (.int (0 : Int32))) (ne_ba_rd : ba ≠ rd) (hw1 : ¬ (w1 < (0 : Int32))) (hw2 : ¬ (w2 < (0 : Int32))) :
    Gz p e below s 16 128 (Q_law n0) (T0.setTop (mkF m 240 #[s0, s1, s2, s3, s4, s5, s6, s7, .val (.int rr), s9, s10, s11, .val (.int (1 : Int32)), .val (.ref rd), .val (.int (2 : Int32)), .val (.int (0 : Int32)), .val (.int (1 : Int32)), s17] [])) := by
  have dd : ∀ {pc : Nat} {r : Except DecodeError (Instr × Nat)}, decode code pc = r → decode c.code pc = r := fun q => hb hby q
  refine Gz.iload 242 X0 hx (dd at_240) rfl rfl ?_
  refine Gz.ifNo 245 X0 hx (dd at_242) ((if0 _ _).trans (feq (by decide : ¬ ((1 : Int32) = (0 : Int32)))).1) rfl ?_
  refine Gz.aload 247 X0 hx (dd at_245) rfl rfl rfl ?_
  obtain ⟨cq1, kq1, q1a, q1b, q1c⟩ := isOf hZ e0 E_rd
  obtain ⟨_, _, ⟨T1, L1, k1, n1⟩, -, X1, ⟨Lc1, hQ1, l1, y1, z1⟩, st1⟩ := X0.virtualBack hx (y := ym3) (z := ym3) hown (mvT hZ (ww hw 22 rfl)) (mvT hZ (ww hw 23 rfl)) (notFace_of_selects (args := #[]) (mvT hZ (ww hw 25 rfl))) (mvT hZ (ww hw 25 rfl)) (mvT hZ (ww hw 24 rfl)) (by decide) (backOf (W := 0) (rm4 l Z av0 hw [] rd (1 : Int32) (3 : Int32) hS n0 Z0 F_position_rd F_end_rd) hZ (ww hw 26 rfl) (ww hw 4 rfl) (by decide) (by decide)) q1a q1c (g := (mkF m 247 #[s0, s1, s2, s3, s4, s5, s6, s7, .val (.int rr), s9, s10, s11, .val (.int (1 : Int32)), .val (.ref rd), .val (.int (2 : Int32)), .val (.int (0 : Int32)), .val (.int (1 : Int32)), s17] [(.ref rd)])) rfl (by rw [hml]; rfl) (Steps.refl _) (argsL := []) (rest := []) (lenOf pd_3 rfl) rfl (Nat.le_refl _) (dd at_247) (fun _ _ => ⟨rfl, e0, (by decide : 3 + 0 ≤ _), (by decide : 11 + 0 ≤ _)⟩)
  dsimp only [Pt.U, Pt.locs, Pt.cells, Pt.slots, Q_rm4] at X1 l1 y1 z1 st1 hQ1
  subst l1 y1 z1
  rw [show (fHM rd (1 : Int32) (3 : Int32)) = (1 : Int32) from (by unfold fHM; rw [if_pos (by decide : (1 : Int32) < (3 : Int32))]; try decide)] at hQ1
  obtain ⟨rfl, N1q, e1⟩ := hQ1
  have N1 := Fr.app N0 N1q
  refine Gz.tr st1 ?_
  refine Gz.iload 252 X1 hx (dd at_250) rfl rfl ?_
  refine Gz.ifNo 255 X1 hx (dd at_252) ((if0 _ _).trans (tlt (by decide : (0 : Int32) < (2 : Int32))).2.2.2) rfl ?_
  refine Gz.iconst 256 (1 : Int32) X1 hx (dd at_255) rfl rfl ?_
  refine Gz.goto 260 X1 hx (dd at_256) (by decide) (by decide) ?_
  refine Gz.icmpNo 263 X1 hx (dd at_260) (teq (by decide : (1 : Int32) = (1 : Int32))).2 rfl ?_
  refine Gz.iconst 264 (1 : Int32) X1 hx (dd at_263) rfl rfl ?_
  refine Gz.goto 268 X1 hx (dd at_264) (by decide) (by decide) ?_
  refine Gz.istore 270 #[s0, s1, s2, s3, s4, s5, s6, s7, .val (.int rr), s9, s10, s11, .val (.int (1 : Int32)), .val (.ref rd), .val (.int (2 : Int32)), .val (.int (0 : Int32)), .val (.int (1 : Int32)), s17] X1 hx (dd at_268) rfl rfl ?_
  refine Gz.iload 272 X1 hx (dd at_270) rfl rfl ?_
  refine Gz.iconst 273 (1 : Int32) X1 hx (dd at_272) rfl rfl ?_
  by_cases hc2 : rr < (1 : Int32)
  · refine Gz.icmpYes 331 X1 hx (dd at_273) (tlt hc2).1 (by decide) (by decide) ?_
    refine Gz.iload 333 X1 hx (dd at_331) rfl rfl ?_
    refine Gz.iconst 334 (2 : Int32) X1 hx (dd at_333) rfl rfl ?_
    refine Gz.icmpYes 390 X1 hx (dd at_334) (tlt (own_ALt32 hc2 (by decide) : rr < (2 : Int32))).1 (by decide) (by decide) ?_
    refine Gz.iload 392 X1 hx (dd at_390) rfl rfl ?_
    refine Gz.iconst 393 (3 : Int32) X1 hx (dd at_392) rfl rfl ?_
    refine Gz.icmpYes 449 X1 hx (dd at_393) (tlt (own_ALt32 hc2 (by decide) : rr < (3 : Int32))).1 (by decide) (by decide) ?_
    refine Gz.iload 451 X1 hx (dd at_449) rfl rfl ?_
    refine Gz.fin X1 (v := some (.int (1 : Int32))) (fun h => by rw [hret] at h; cases h) hlk (by decide) (by decide) (fun fs hr => retN X1 hx (t := .boolean) hret (by simp) (dd at_451) hr) ?_
    exact ⟨rfl, N1⟩
  · refine Gz.icmpNo 276 X1 hx (dd at_273) (flt hc2).1 rfl ?_
    refine Gz.iload 278 X1 hx (dd at_276) rfl rfl ?_
    refine Gz.iload 280 X1 hx (dd at_278) rfl rfl ?_
    refine Gz.iaddV 281 (1 : Int32) X1 hx (dd at_280) rfl rfl ?_
    refine Gz.iload 283 X1 hx (dd at_281) rfl rfl ?_
    refine Gz.icmpNo 286 X1 hx (dd at_283) (flt (by decide : ¬ ((2 : Int32) < (1 : Int32)))).2.2.1 rfl ?_
    refine Gz.aload 288 X1 hx (dd at_286) rfl rfl rfl ?_
    obtain ⟨c3, A3, q3, S3, N3, H3, G3⟩ := id V_ba
    have hin4 : ¬ ((1 : Int32) < 0 ∨ c3.slots.size ≤ ((1 : Int32)).toNatClampNeg) := inb_of S3 ⟨by decide, by decide⟩
    have hat4 : c3.slots[((1 : Int32)).toNatClampNeg]? = some (.int w1) := Has.at H3 hin4 rfl
    obtain ⟨cq5, kq5, q5a, q5b, q5c⟩ := isOf hZ e1 E_rd
    obtain ⟨_, _, ⟨T5, L5, k5, n5⟩, -, X5, ⟨Lc5, hQ5, l5, y5, z5⟩, st5⟩ := X1.virtualBack hx (y := ym1) (z := ym1) hown (mvT hZ (ww hw 27 rfl)) (mvT hZ (ww hw 28 rfl)) (notFace_of_selects (args := #[]) (mvT hZ (ww hw 30 rfl))) (mvT hZ (ww hw 30 rfl)) (mvT hZ (ww hw 29 rfl)) (by decide) (backOf (W := 0) (rmV1 l Z av0 hw [] rd ba (1 : Int32) (3 : Int32) c3 w1 hS n0 Z0 E_rd F_bytes_rd F_position_rd F_end_rd g_rd A3 ne_ba_rd hin4 hat4 (by decide : ¬ ((1 : Int32) = (3 : Int32))) hw1) hZ (ww hw 31 rfl) (ww hw 4 rfl) (by decide) (by decide)) q5a q5c (g := (mkF m 288 #[s0, s1, s2, s3, s4, s5, s6, s7, .val (.int rr), s9, s10, s11, .val (.int (1 : Int32)), .val (.ref rd), .val (.int (2 : Int32)), .val (.int (0 : Int32)), .val (.int (1 : Int32)), s17] [(.ref rd)])) rfl (by rw [hml]; rfl) (Steps.refl _) (argsL := []) (rest := []) (lenOf pd_1 rfl) rfl (Nat.le_refl _) (dd at_288) (fun _ _ => ⟨rfl, e1, (by decide : 3 + 0 ≤ _), (by decide : 11 + 0 ≤ _)⟩)
    dsimp only [Pt.U, Pt.locs, Pt.cells, Pt.slots, Q_rmV1] at X5 l5 y5 z5 st5 hQ5
    subst l5 y5 z5
    obtain ⟨rfl, N5q, K5q, QE5_0, QF5_0, QF5_1, QF5_2⟩ := hQ5
    have N5 := Fr.app N1 N5q
    have f5_E_rd := Exa.keep E_rd K5q
    have f5_V_ba := Arv.keep V_ba K5q (ninS ne_ba_rd nin0)
    have SZ5 := Nat.le_trans Z0 K5q.1
    replace QF5_1 : Fld Z T5.heap rd "com/example/bad_status/badstatus/model/ProtoReader" "position" "I" (.int (2 : Int32)) := QF5_1
    refine Gz.tr st5 ?_
    refine Gz.st (S' := (T5.setTop (mkF m 292 #[s0, s1, s2, s3, s4, s5, s6, s7, .val (.int rr), s9, s10, s11, .val (.int (1 : Int32)), .val (.ref rd), .val (.int (2 : Int32)), .val (.int (0 : Int32)), .val (.int (1 : Int32)), s17] []))) (fun t k => by jvm_step X5.here [X5.here.top, hx, (dd at_291), Value.category]; exact k) ?_
    refine Gz.iload 294 X5 hx (dd at_292) rfl rfl ?_
    refine Gz.iload 296 X5 hx (dd at_294) rfl rfl ?_
    refine Gz.iaddV 297 (1 : Int32) X5 hx (dd at_296) rfl rfl ?_
    refine Gz.istore 299 #[s0, s1, s2, s3, s4, s5, s6, s7, .val (.int rr), s9, s10, s11, .val (.int (1 : Int32)), .val (.ref rd), .val (.int (2 : Int32)), .val (.int (1 : Int32)), .val (.int (1 : Int32)), s17] X5 hx (dd at_297) rfl rfl ?_
    refine Gz.iload 301 X5 hx (dd at_299) rfl rfl ?_
    refine Gz.ifNo 304 X5 hx (dd at_301) ((if0 _ _).trans (feq (by decide : ¬ ((1 : Int32) = (0 : Int32)))).1) rfl ?_
    refine Gz.aload 306 X5 hx (dd at_304) rfl rfl rfl ?_
    obtain ⟨cq6, kq6, q6a, q6b, q6c⟩ := isOf hZ rfl QE5_0
    obtain ⟨_, _, ⟨T6, L6, k6, n6⟩, -, X6, ⟨Lc6, hQ6, l6, y6, z6⟩, st6⟩ := X5.virtualBack hx (y := ym3) (z := ym3) hown (mvT hZ (ww hw 22 rfl)) (mvT hZ (ww hw 23 rfl)) (notFace_of_selects (args := #[]) (mvT hZ (ww hw 25 rfl))) (mvT hZ (ww hw 25 rfl)) (mvT hZ (ww hw 24 rfl)) (by decide) (backOf (W := 0) (rm4 l Z av0 hw [] rd (2 : Int32) (3 : Int32) T5.heap n0 SZ5 QF5_1 QF5_2) hZ (ww hw 26 rfl) (ww hw 4 rfl) (by decide) (by decide)) q6a q6c (g := (mkF m 306 #[s0, s1, s2, s3, s4, s5, s6, s7, .val (.int rr), s9, s10, s11, .val (.int (1 : Int32)), .val (.ref rd), .val (.int (2 : Int32)), .val (.int (1 : Int32)), .val (.int (1 : Int32)), s17] [(.ref rd)])) rfl (by rw [hml]; rfl) (Steps.refl _) (argsL := []) (rest := []) (lenOf pd_3 rfl) rfl (Nat.le_refl _) (dd at_306) (fun _ _ => ⟨rfl, rfl, (by decide : 3 + 0 ≤ _), (by decide : 11 + 0 ≤ _)⟩)
    dsimp only [Pt.U, Pt.locs, Pt.cells, Pt.slots, Q_rm4] at X6 l6 y6 z6 st6 hQ6
    subst l6 y6 z6
    rw [show (fHM rd (2 : Int32) (3 : Int32)) = (1 : Int32) from (by unfold fHM; rw [if_pos (by decide : (2 : Int32) < (3 : Int32))]; try decide)] at hQ6
    obtain ⟨rfl, N6q, e6⟩ := hQ6
    have N6 := Fr.app N5 N6q
    refine Gz.tr st6 ?_
    refine Gz.iload 311 X6 hx (dd at_309) rfl rfl ?_
    refine Gz.iload 313 X6 hx (dd at_311) rfl rfl ?_
    refine Gz.icmpNo 316 X6 hx (dd at_313) (tlt (by decide : (1 : Int32) < (2 : Int32))).2.1 rfl ?_
    refine Gz.iconst 317 (1 : Int32) X6 hx (dd at_316) rfl rfl ?_
    refine Gz.goto 321 X6 hx (dd at_317) (by decide) (by decide) ?_
    refine Gz.icmpNo 324 X6 hx (dd at_321) (teq (by decide : (1 : Int32) = (1 : Int32))).2 rfl ?_
    refine Gz.iconst 325 (1 : Int32) X6 hx (dd at_324) rfl rfl ?_
    refine Gz.goto 329 X6 hx (dd at_325) (by decide) (by decide) ?_
    refine Gz.istore 331 #[s0, s1, s2, s3, s4, s5, s6, s7, .val (.int rr), s9, s10, s11, .val (.int (1 : Int32)), .val (.ref rd), .val (.int (2 : Int32)), .val (.int (1 : Int32)), .val (.int (1 : Int32)), s17] X6 hx (dd at_329) rfl rfl ?_
    refine Gz.iload 333 X6 hx (dd at_331) rfl rfl ?_
    refine Gz.iconst 334 (2 : Int32) X6 hx (dd at_333) rfl rfl ?_
    by_cases hc7 : rr < (2 : Int32)
    · refine Gz.icmpYes 390 X6 hx (dd at_334) (tlt hc7).1 (by decide) (by decide) ?_
      refine Gz.iload 392 X6 hx (dd at_390) rfl rfl ?_
      refine Gz.iconst 393 (3 : Int32) X6 hx (dd at_392) rfl rfl ?_
      refine Gz.icmpYes 449 X6 hx (dd at_393) (tlt (own_ALt32 hc7 (by decide) : rr < (3 : Int32))).1 (by decide) (by decide) ?_
      refine Gz.iload 451 X6 hx (dd at_449) rfl rfl ?_
      refine Gz.fin X6 (v := some (.int (1 : Int32))) (fun h => by rw [hret] at h; cases h) hlk (by decide) (by decide) (fun fs hr => retN X6 hx (t := .boolean) hret (by simp) (dd at_451) hr) ?_
      exact ⟨rfl, N6⟩
    · refine Gz.icmpNo 337 X6 hx (dd at_334) (flt hc7).1 rfl ?_
      refine Gz.iload 339 X6 hx (dd at_337) rfl rfl ?_
      refine Gz.ifNo 342 X6 hx (dd at_339) ((if0 _ _).trans (tlt (by decide : (0 : Int32) < (1 : Int32))).2.2.2) rfl ?_
      refine Gz.iload 344 X6 hx (dd at_342) rfl rfl ?_
      refine Gz.iload 346 X6 hx (dd at_344) rfl rfl ?_
      refine Gz.icmpNo 349 X6 hx (dd at_346) (tlt (by decide : (1 : Int32) < (2 : Int32))).2.1 rfl ?_
      refine Gz.aload 351 X6 hx (dd at_349) rfl rfl rfl ?_
      obtain ⟨c8, A8, q8, S8, N8, H8, G8⟩ := id f5_V_ba
      have hin9 : ¬ ((2 : Int32) < 0 ∨ c8.slots.size ≤ ((2 : Int32)).toNatClampNeg) := inb_of S8 ⟨by decide, by decide⟩
      have hat9 : c8.slots[((2 : Int32)).toNatClampNeg]? = some (.int w2) := Has.at H8 hin9 rfl
      obtain ⟨cq10, kq10, q10a, q10b, q10c⟩ := isOf hZ e6 QE5_0
      obtain ⟨_, _, ⟨T10, L10, k10, n10⟩, -, X10, ⟨Lc10, hQ10, l10, y10, z10⟩, st10⟩ := X6.virtualBack hx (y := ym1) (z := ym1) hown (mvT hZ (ww hw 27 rfl)) (mvT hZ (ww hw 28 rfl)) (notFace_of_selects (args := #[]) (mvT hZ (ww hw 30 rfl))) (mvT hZ (ww hw 30 rfl)) (mvT hZ (ww hw 29 rfl)) (by decide) (backOf (W := 0) (rmV1 l Z av0 hw [] rd ba (2 : Int32) (3 : Int32) c8 w2 T5.heap n0 SZ5 QE5_0 QF5_0 QF5_1 QF5_2 g_rd A8 ne_ba_rd hin9 hat9 (by decide : ¬ ((2 : Int32) = (3 : Int32))) hw2) hZ (ww hw 31 rfl) (ww hw 4 rfl) (by decide) (by decide)) q10a q10c (g := (mkF m 351 #[s0, s1, s2, s3, s4, s5, s6, s7, .val (.int rr), s9, s10, s11, .val (.int (1 : Int32)), .val (.ref rd), .val (.int (2 : Int32)), .val (.int (1 : Int32)), .val (.int (1 : Int32)), s17] [(.ref rd)])) rfl (by rw [hml]; rfl) (Steps.refl _) (argsL := []) (rest := []) (lenOf pd_1 rfl) rfl (Nat.le_refl _) (dd at_351) (fun _ _ => ⟨rfl, e6, (by decide : 3 + 0 ≤ _), (by decide : 11 + 0 ≤ _)⟩)
      dsimp only [Pt.U, Pt.locs, Pt.cells, Pt.slots, Q_rmV1] at X10 l10 y10 z10 st10 hQ10
      subst l10 y10 z10
      obtain ⟨rfl, N10q, K10q, QE10_0, QF10_0, QF10_1, QF10_2⟩ := hQ10
      have N10 := Fr.app N6 N10q
      have f10_E_rd := Exa.keep QE5_0 K10q
      have f10_V_ba := Arv.keep f5_V_ba K10q (ninS ne_ba_rd nin0)
      have SZ10 := Nat.le_trans SZ5 K10q.1
      replace QF10_1 : Fld Z T10.heap rd "com/example/bad_status/badstatus/model/ProtoReader" "position" "I" (.int (3 : Int32)) := QF10_1
      refine Gz.tr st10 ?_
      refine Gz.st (S' := (T10.setTop (mkF m 355 #[s0, s1, s2, s3, s4, s5, s6, s7, .val (.int rr), s9, s10, s11, .val (.int (1 : Int32)), .val (.ref rd), .val (.int (2 : Int32)), .val (.int (1 : Int32)), .val (.int (1 : Int32)), s17] []))) (fun t k => by jvm_step X10.here [X10.here.top, hx, (dd at_354), Value.category]; exact k) ?_
      refine Gz.iinc 358 #[s0, s1, s2, s3, s4, s5, s6, s7, .val (.int rr), s9, s10, s11, .val (.int (1 : Int32)), .val (.ref rd), .val (.int (2 : Int32)), .val (.int (2 : Int32)), .val (.int (1 : Int32)), s17] X10 hx (dd at_355) rfl rfl rfl ?_
      refine Gz.iload 360 X10 hx (dd at_358) rfl rfl ?_
      refine Gz.ifNo 363 X10 hx (dd at_360) ((if0 _ _).trans (feq (by decide : ¬ ((1 : Int32) = (0 : Int32)))).1) rfl ?_
      refine Gz.aload 365 X10 hx (dd at_363) rfl rfl rfl ?_
      obtain ⟨cq11, kq11, q11a, q11b, q11c⟩ := isOf hZ rfl QE10_0
      obtain ⟨_, _, ⟨T11, L11, k11, n11⟩, -, X11, ⟨Lc11, hQ11, l11, y11, z11⟩, st11⟩ := X10.virtualBack hx (y := ym3) (z := ym3) hown (mvT hZ (ww hw 22 rfl)) (mvT hZ (ww hw 23 rfl)) (notFace_of_selects (args := #[]) (mvT hZ (ww hw 25 rfl))) (mvT hZ (ww hw 25 rfl)) (mvT hZ (ww hw 24 rfl)) (by decide) (backOf (W := 0) (rm4 l Z av0 hw [] rd (3 : Int32) (3 : Int32) T10.heap n0 SZ10 QF10_1 QF10_2) hZ (ww hw 26 rfl) (ww hw 4 rfl) (by decide) (by decide)) q11a q11c (g := (mkF m 365 #[s0, s1, s2, s3, s4, s5, s6, s7, .val (.int rr), s9, s10, s11, .val (.int (1 : Int32)), .val (.ref rd), .val (.int (2 : Int32)), .val (.int (2 : Int32)), .val (.int (1 : Int32)), s17] [(.ref rd)])) rfl (by rw [hml]; rfl) (Steps.refl _) (argsL := []) (rest := []) (lenOf pd_3 rfl) rfl (Nat.le_refl _) (dd at_365) (fun _ _ => ⟨rfl, rfl, (by decide : 3 + 0 ≤ _), (by decide : 11 + 0 ≤ _)⟩)
      dsimp only [Pt.U, Pt.locs, Pt.cells, Pt.slots, Q_rm4] at X11 l11 y11 z11 st11 hQ11
      subst l11 y11 z11
      rw [show (fHM rd (3 : Int32) (3 : Int32)) = (0 : Int32) from (by unfold fHM; rw [if_neg (by decide : ¬ ((3 : Int32) < (3 : Int32)))]; try decide)] at hQ11
      obtain ⟨rfl, N11q, e11⟩ := hQ11
      have N11 := Fr.app N10 N11q
      refine Gz.tr st11 ?_
      refine Gz.iload 370 X11 hx (dd at_368) rfl rfl ?_
      refine Gz.iload 372 X11 hx (dd at_370) rfl rfl ?_
      refine Gz.icmpYes 379 X11 hx (dd at_372) (flt (by decide : ¬ ((2 : Int32) < (2 : Int32)))).2.1 (by decide) (by decide) ?_
      refine Gz.iconst 380 (0 : Int32) X11 hx (dd at_379) rfl rfl ?_
      refine Gz.icmpNo 383 X11 hx (dd at_380) (teq (by decide : (0 : Int32) = (0 : Int32))).2 rfl ?_
      refine Gz.iconst 384 (1 : Int32) X11 hx (dd at_383) rfl rfl ?_
      refine Gz.goto 388 X11 hx (dd at_384) (by decide) (by decide) ?_
      refine Gz.istore 390 #[s0, s1, s2, s3, s4, s5, s6, s7, .val (.int rr), s9, s10, s11, .val (.int (1 : Int32)), .val (.ref rd), .val (.int (2 : Int32)), .val (.int (2 : Int32)), .val (.int (1 : Int32)), s17] X11 hx (dd at_388) rfl rfl ?_
      refine Gz.iload 392 X11 hx (dd at_390) rfl rfl ?_
      refine Gz.iconst 393 (3 : Int32) X11 hx (dd at_392) rfl rfl ?_
      by_cases hc12 : rr < (3 : Int32)
      · refine Gz.icmpYes 449 X11 hx (dd at_393) (tlt hc12).1 (by decide) (by decide) ?_
        refine Gz.iload 451 X11 hx (dd at_449) rfl rfl ?_
        refine Gz.fin X11 (v := some (.int (1 : Int32))) (fun h => by rw [hret] at h; cases h) hlk (by decide) (by decide) (fun fs hr => retN X11 hx (t := .boolean) hret (by simp) (dd at_451) hr) ?_
        exact ⟨rfl, N11⟩
      · refine Gz.icmpNo 396 X11 hx (dd at_393) (flt hc12).1 rfl ?_
        refine Gz.iload 398 X11 hx (dd at_396) rfl rfl ?_
        refine Gz.ifNo 401 X11 hx (dd at_398) ((if0 _ _).trans (tlt (by decide : (0 : Int32) < (2 : Int32))).2.2.2) rfl ?_
        refine Gz.iload 403 X11 hx (dd at_401) rfl rfl ?_
        refine Gz.iload 405 X11 hx (dd at_403) rfl rfl ?_
        refine Gz.icmpYes 449 X11 hx (dd at_405) (flt (by decide : ¬ ((2 : Int32) < (2 : Int32)))).2.1 (by decide) (by decide) ?_
        refine Gz.iload 451 X11 hx (dd at_449) rfl rfl ?_
        refine Gz.fin X11 (v := some (.int (1 : Int32))) (fun h => by rw [hret] at h; cases h) hlk (by decide) (by decide) (fun fs hr => retN X11 hx (t := .boolean) hret (by simp) (dd at_451) hr) ?_
        exact ⟨rfl, N11⟩
set_option maxRecDepth 65536 in
set_option maxHeartbeats 40000000 in
theorem sg_4_x_1 {p : Program} {l : Launch} {e : Env} {s : State} {m : MethodId} {args : Array Value} {below : List Frame} {meth : Method} {c : Code} {T0 : State} {locs : List Loc} {Z : State} {av0 : Array Value} {hS : Heap} (s0 : Slot) (s1 : Slot) (s2 : Slot) (s3 : Slot) (s4 : Slot) (s5 : Slot) (s6 : Slot) (s7 : Slot) (rr : Int32) (s9 : Slot) (s10 : Slot) (s11 : Slot) (rd : Addr) (s17 : Slot) (ba : Addr) (k_ba : ClassId) (w0 : Int32) (w1 : Int32) (w2 : Int32) (w3 : Int32) (n0 : Nat)
    (X0 : Stand p l e room_1 s m args below meth c T0 locs 2 8) (hx : p.tables.exec = Jvm.exec) (hZ : Z.Warmed39 s.vm) (hw : ∀ d ∈ tables_1, d.before av0 Z = true) (hby : c.code = code) (hml : c.maxLocals = 18) (hown : s.vm.findClass "com/example/bad_status/badstatus/model/ProtoReaderHasMorePinLaw" = some m.cls) (hret : meth.sig.returnType = some .boolean) (hlk : meth.locks = false) (e0 : T0.heap = hS) (N0 : Fr n0 locs) (Z0 : n0 ≤ hS.size) (E_rd : Exa Z hS rd "com/example/bad_status/badstatus/model/ProtoReader") (F_bytes_rd : Fld Z hS rd "com/example/bad_status/badstatus/model/ProtoReader" "bytes" "[B" (.ref ba)) (F_position_rd : Fld Z hS rd "com/example/bad_status/badstatus/model/ProtoReader" "position" "I" (.int (0 : Int32))) (F_end_rd : Fld Z hS rd "com/example/bad_status/badstatus/model/ProtoReader" "end" "I" (.int (4 : Int32))) (g_rd : n0 ≤ rd) (V_ba : Arv Z hS ba k_ba .byte (4 : Int32) [(.int w0), (.int w1), (.int w2), (.int w3)] (.int (0 : Int32))) (ne_ba_rd : ba ≠ rd) (hw1 : ¬ (w1 < (0 : Int32))) (hw2 : ¬ (w2 < (0 : Int32))) (hw3 : ¬ (w3 < (0 : Int32))) (hw0 : ¬ (w0 < (0 : Int32))) :
    Gz p e below s 16 128 (Q_law n0) (T0.setTop (mkF m 240 #[s0, s1, s2, s3, s4, s5, s6, s7, .val (.int rr), s9, s10, s11, .val (.int (1 : Int32)), .val (.ref rd), .val (.int (4 : Int32)), .val (.int (0 : Int32)), .val (.int (1 : Int32)), s17] [])) := by
  have dd : ∀ {pc : Nat} {r : Except DecodeError (Instr × Nat)}, decode code pc = r → decode c.code pc = r := fun q => hb hby q
  refine Gz.iload 242 X0 hx (dd at_240) rfl rfl ?_
  refine Gz.ifNo 245 X0 hx (dd at_242) ((if0 _ _).trans (feq (by decide : ¬ ((1 : Int32) = (0 : Int32)))).1) rfl ?_
  refine Gz.aload 247 X0 hx (dd at_245) rfl rfl rfl ?_
  obtain ⟨cq1, kq1, q1a, q1b, q1c⟩ := isOf hZ e0 E_rd
  obtain ⟨_, _, ⟨T1, L1, k1, n1⟩, -, X1, ⟨Lc1, hQ1, l1, y1, z1⟩, st1⟩ := X0.virtualBack hx (y := ym3) (z := ym3) hown (mvT hZ (ww hw 22 rfl)) (mvT hZ (ww hw 23 rfl)) (notFace_of_selects (args := #[]) (mvT hZ (ww hw 25 rfl))) (mvT hZ (ww hw 25 rfl)) (mvT hZ (ww hw 24 rfl)) (by decide) (backOf (W := 0) (rm4 l Z av0 hw [] rd (0 : Int32) (4 : Int32) hS n0 Z0 F_position_rd F_end_rd) hZ (ww hw 26 rfl) (ww hw 4 rfl) (by decide) (by decide)) q1a q1c (g := (mkF m 247 #[s0, s1, s2, s3, s4, s5, s6, s7, .val (.int rr), s9, s10, s11, .val (.int (1 : Int32)), .val (.ref rd), .val (.int (4 : Int32)), .val (.int (0 : Int32)), .val (.int (1 : Int32)), s17] [(.ref rd)])) rfl (by rw [hml]; rfl) (Steps.refl _) (argsL := []) (rest := []) (lenOf pd_3 rfl) rfl (Nat.le_refl _) (dd at_247) (fun _ _ => ⟨rfl, e0, (by decide : 2 + 0 ≤ _), (by decide : 8 + 0 ≤ _)⟩)
  dsimp only [Pt.U, Pt.locs, Pt.cells, Pt.slots, Q_rm4] at X1 l1 y1 z1 st1 hQ1
  subst l1 y1 z1
  rw [show (fHM rd (0 : Int32) (4 : Int32)) = (1 : Int32) from (by unfold fHM; rw [if_pos (by decide : (0 : Int32) < (4 : Int32))]; try decide)] at hQ1
  obtain ⟨rfl, N1q, e1⟩ := hQ1
  have N1 := Fr.app N0 N1q
  refine Gz.tr st1 ?_
  refine Gz.iload 252 X1 hx (dd at_250) rfl rfl ?_
  refine Gz.ifNo 255 X1 hx (dd at_252) ((if0 _ _).trans (tlt (by decide : (0 : Int32) < (4 : Int32))).2.2.2) rfl ?_
  refine Gz.iconst 256 (1 : Int32) X1 hx (dd at_255) rfl rfl ?_
  refine Gz.goto 260 X1 hx (dd at_256) (by decide) (by decide) ?_
  refine Gz.icmpNo 263 X1 hx (dd at_260) (teq (by decide : (1 : Int32) = (1 : Int32))).2 rfl ?_
  refine Gz.iconst 264 (1 : Int32) X1 hx (dd at_263) rfl rfl ?_
  refine Gz.goto 268 X1 hx (dd at_264) (by decide) (by decide) ?_
  refine Gz.istore 270 #[s0, s1, s2, s3, s4, s5, s6, s7, .val (.int rr), s9, s10, s11, .val (.int (1 : Int32)), .val (.ref rd), .val (.int (4 : Int32)), .val (.int (0 : Int32)), .val (.int (1 : Int32)), s17] X1 hx (dd at_268) rfl rfl ?_
  refine Gz.iload 272 X1 hx (dd at_270) rfl rfl ?_
  refine Gz.iconst 273 (1 : Int32) X1 hx (dd at_272) rfl rfl ?_
  by_cases hc2 : rr < (1 : Int32)
  · refine Gz.icmpYes 331 X1 hx (dd at_273) (tlt hc2).1 (by decide) (by decide) ?_
    refine Gz.iload 333 X1 hx (dd at_331) rfl rfl ?_
    refine Gz.iconst 334 (2 : Int32) X1 hx (dd at_333) rfl rfl ?_
    refine Gz.icmpYes 390 X1 hx (dd at_334) (tlt (own_ALt32 hc2 (by decide) : rr < (2 : Int32))).1 (by decide) (by decide) ?_
    refine Gz.iload 392 X1 hx (dd at_390) rfl rfl ?_
    refine Gz.iconst 393 (3 : Int32) X1 hx (dd at_392) rfl rfl ?_
    refine Gz.icmpYes 449 X1 hx (dd at_393) (tlt (own_ALt32 hc2 (by decide) : rr < (3 : Int32))).1 (by decide) (by decide) ?_
    refine Gz.iload 451 X1 hx (dd at_449) rfl rfl ?_
    refine Gz.fin X1 (v := some (.int (1 : Int32))) (fun h => by rw [hret] at h; cases h) hlk (by decide) (by decide) (fun fs hr => retN X1 hx (t := .boolean) hret (by simp) (dd at_451) hr) ?_
    exact ⟨rfl, N1⟩
  · refine Gz.icmpNo 276 X1 hx (dd at_273) (flt hc2).1 rfl ?_
    refine Gz.iload 278 X1 hx (dd at_276) rfl rfl ?_
    refine Gz.iload 280 X1 hx (dd at_278) rfl rfl ?_
    refine Gz.iaddV 281 (1 : Int32) X1 hx (dd at_280) rfl rfl ?_
    refine Gz.iload 283 X1 hx (dd at_281) rfl rfl ?_
    refine Gz.icmpNo 286 X1 hx (dd at_283) (flt (by decide : ¬ ((4 : Int32) < (1 : Int32)))).2.2.1 rfl ?_
    refine Gz.aload 288 X1 hx (dd at_286) rfl rfl rfl ?_
    obtain ⟨c3, A3, q3, S3, N3, H3, G3⟩ := id V_ba
    have hin4 : ¬ ((0 : Int32) < 0 ∨ c3.slots.size ≤ ((0 : Int32)).toNatClampNeg) := inb_of S3 ⟨by decide, by decide⟩
    have hat4 : c3.slots[((0 : Int32)).toNatClampNeg]? = some (.int w0) := Has.at H3 hin4 rfl
    obtain ⟨cq5, kq5, q5a, q5b, q5c⟩ := isOf hZ e1 E_rd
    obtain ⟨_, _, ⟨T5, L5, k5, n5⟩, -, X5, ⟨Lc5, hQ5, l5, y5, z5⟩, st5⟩ := X1.virtualBack hx (y := ym1) (z := ym1) hown (mvT hZ (ww hw 27 rfl)) (mvT hZ (ww hw 28 rfl)) (notFace_of_selects (args := #[]) (mvT hZ (ww hw 30 rfl))) (mvT hZ (ww hw 30 rfl)) (mvT hZ (ww hw 29 rfl)) (by decide) (backOf (W := 0) (rmV1 l Z av0 hw [] rd ba (0 : Int32) (4 : Int32) c3 w0 hS n0 Z0 E_rd F_bytes_rd F_position_rd F_end_rd g_rd A3 ne_ba_rd hin4 hat4 (by decide : ¬ ((0 : Int32) = (4 : Int32))) hw0) hZ (ww hw 31 rfl) (ww hw 4 rfl) (by decide) (by decide)) q5a q5c (g := (mkF m 288 #[s0, s1, s2, s3, s4, s5, s6, s7, .val (.int rr), s9, s10, s11, .val (.int (1 : Int32)), .val (.ref rd), .val (.int (4 : Int32)), .val (.int (0 : Int32)), .val (.int (1 : Int32)), s17] [(.ref rd)])) rfl (by rw [hml]; rfl) (Steps.refl _) (argsL := []) (rest := []) (lenOf pd_1 rfl) rfl (Nat.le_refl _) (dd at_288) (fun _ _ => ⟨rfl, e1, (by decide : 2 + 0 ≤ _), (by decide : 8 + 0 ≤ _)⟩)
    dsimp only [Pt.U, Pt.locs, Pt.cells, Pt.slots, Q_rmV1] at X5 l5 y5 z5 st5 hQ5
    subst l5 y5 z5
    obtain ⟨rfl, N5q, K5q, QE5_0, QF5_0, QF5_1, QF5_2⟩ := hQ5
    have N5 := Fr.app N1 N5q
    have f5_E_rd := Exa.keep E_rd K5q
    have f5_V_ba := Arv.keep V_ba K5q (ninS ne_ba_rd nin0)
    have SZ5 := Nat.le_trans Z0 K5q.1
    replace QF5_1 : Fld Z T5.heap rd "com/example/bad_status/badstatus/model/ProtoReader" "position" "I" (.int (1 : Int32)) := QF5_1
    refine Gz.tr st5 ?_
    refine Gz.st (S' := (T5.setTop (mkF m 292 #[s0, s1, s2, s3, s4, s5, s6, s7, .val (.int rr), s9, s10, s11, .val (.int (1 : Int32)), .val (.ref rd), .val (.int (4 : Int32)), .val (.int (0 : Int32)), .val (.int (1 : Int32)), s17] []))) (fun t k => by jvm_step X5.here [X5.here.top, hx, (dd at_291), Value.category]; exact k) ?_
    refine Gz.iload 294 X5 hx (dd at_292) rfl rfl ?_
    refine Gz.iload 296 X5 hx (dd at_294) rfl rfl ?_
    refine Gz.iaddV 297 (1 : Int32) X5 hx (dd at_296) rfl rfl ?_
    refine Gz.istore 299 #[s0, s1, s2, s3, s4, s5, s6, s7, .val (.int rr), s9, s10, s11, .val (.int (1 : Int32)), .val (.ref rd), .val (.int (4 : Int32)), .val (.int (1 : Int32)), .val (.int (1 : Int32)), s17] X5 hx (dd at_297) rfl rfl ?_
    refine Gz.iload 301 X5 hx (dd at_299) rfl rfl ?_
    refine Gz.ifNo 304 X5 hx (dd at_301) ((if0 _ _).trans (feq (by decide : ¬ ((1 : Int32) = (0 : Int32)))).1) rfl ?_
    refine Gz.aload 306 X5 hx (dd at_304) rfl rfl rfl ?_
    obtain ⟨cq6, kq6, q6a, q6b, q6c⟩ := isOf hZ rfl QE5_0
    obtain ⟨_, _, ⟨T6, L6, k6, n6⟩, -, X6, ⟨Lc6, hQ6, l6, y6, z6⟩, st6⟩ := X5.virtualBack hx (y := ym3) (z := ym3) hown (mvT hZ (ww hw 22 rfl)) (mvT hZ (ww hw 23 rfl)) (notFace_of_selects (args := #[]) (mvT hZ (ww hw 25 rfl))) (mvT hZ (ww hw 25 rfl)) (mvT hZ (ww hw 24 rfl)) (by decide) (backOf (W := 0) (rm4 l Z av0 hw [] rd (1 : Int32) (4 : Int32) T5.heap n0 SZ5 QF5_1 QF5_2) hZ (ww hw 26 rfl) (ww hw 4 rfl) (by decide) (by decide)) q6a q6c (g := (mkF m 306 #[s0, s1, s2, s3, s4, s5, s6, s7, .val (.int rr), s9, s10, s11, .val (.int (1 : Int32)), .val (.ref rd), .val (.int (4 : Int32)), .val (.int (1 : Int32)), .val (.int (1 : Int32)), s17] [(.ref rd)])) rfl (by rw [hml]; rfl) (Steps.refl _) (argsL := []) (rest := []) (lenOf pd_3 rfl) rfl (Nat.le_refl _) (dd at_306) (fun _ _ => ⟨rfl, rfl, (by decide : 2 + 0 ≤ _), (by decide : 8 + 0 ≤ _)⟩)
    dsimp only [Pt.U, Pt.locs, Pt.cells, Pt.slots, Q_rm4] at X6 l6 y6 z6 st6 hQ6
    subst l6 y6 z6
    rw [show (fHM rd (1 : Int32) (4 : Int32)) = (1 : Int32) from (by unfold fHM; rw [if_pos (by decide : (1 : Int32) < (4 : Int32))]; try decide)] at hQ6
    obtain ⟨rfl, N6q, e6⟩ := hQ6
    have N6 := Fr.app N5 N6q
    refine Gz.tr st6 ?_
    refine Gz.iload 311 X6 hx (dd at_309) rfl rfl ?_
    refine Gz.iload 313 X6 hx (dd at_311) rfl rfl ?_
    refine Gz.icmpNo 316 X6 hx (dd at_313) (tlt (by decide : (1 : Int32) < (4 : Int32))).2.1 rfl ?_
    refine Gz.iconst 317 (1 : Int32) X6 hx (dd at_316) rfl rfl ?_
    refine Gz.goto 321 X6 hx (dd at_317) (by decide) (by decide) ?_
    refine Gz.icmpNo 324 X6 hx (dd at_321) (teq (by decide : (1 : Int32) = (1 : Int32))).2 rfl ?_
    refine Gz.iconst 325 (1 : Int32) X6 hx (dd at_324) rfl rfl ?_
    refine Gz.goto 329 X6 hx (dd at_325) (by decide) (by decide) ?_
    refine Gz.istore 331 #[s0, s1, s2, s3, s4, s5, s6, s7, .val (.int rr), s9, s10, s11, .val (.int (1 : Int32)), .val (.ref rd), .val (.int (4 : Int32)), .val (.int (1 : Int32)), .val (.int (1 : Int32)), s17] X6 hx (dd at_329) rfl rfl ?_
    refine Gz.iload 333 X6 hx (dd at_331) rfl rfl ?_
    refine Gz.iconst 334 (2 : Int32) X6 hx (dd at_333) rfl rfl ?_
    by_cases hc7 : rr < (2 : Int32)
    · refine Gz.icmpYes 390 X6 hx (dd at_334) (tlt hc7).1 (by decide) (by decide) ?_
      refine Gz.iload 392 X6 hx (dd at_390) rfl rfl ?_
      refine Gz.iconst 393 (3 : Int32) X6 hx (dd at_392) rfl rfl ?_
      refine Gz.icmpYes 449 X6 hx (dd at_393) (tlt (own_ALt32 hc7 (by decide) : rr < (3 : Int32))).1 (by decide) (by decide) ?_
      refine Gz.iload 451 X6 hx (dd at_449) rfl rfl ?_
      refine Gz.fin X6 (v := some (.int (1 : Int32))) (fun h => by rw [hret] at h; cases h) hlk (by decide) (by decide) (fun fs hr => retN X6 hx (t := .boolean) hret (by simp) (dd at_451) hr) ?_
      exact ⟨rfl, N6⟩
    · refine Gz.icmpNo 337 X6 hx (dd at_334) (flt hc7).1 rfl ?_
      refine Gz.iload 339 X6 hx (dd at_337) rfl rfl ?_
      refine Gz.ifNo 342 X6 hx (dd at_339) ((if0 _ _).trans (tlt (by decide : (0 : Int32) < (1 : Int32))).2.2.2) rfl ?_
      refine Gz.iload 344 X6 hx (dd at_342) rfl rfl ?_
      refine Gz.iload 346 X6 hx (dd at_344) rfl rfl ?_
      refine Gz.icmpNo 349 X6 hx (dd at_346) (tlt (by decide : (1 : Int32) < (4 : Int32))).2.1 rfl ?_
      refine Gz.aload 351 X6 hx (dd at_349) rfl rfl rfl ?_
      obtain ⟨c8, A8, q8, S8, N8, H8, G8⟩ := id f5_V_ba
      have hin9 : ¬ ((1 : Int32) < 0 ∨ c8.slots.size ≤ ((1 : Int32)).toNatClampNeg) := inb_of S8 ⟨by decide, by decide⟩
      have hat9 : c8.slots[((1 : Int32)).toNatClampNeg]? = some (.int w1) := Has.at H8 hin9 rfl
      obtain ⟨cq10, kq10, q10a, q10b, q10c⟩ := isOf hZ e6 QE5_0
      obtain ⟨_, _, ⟨T10, L10, k10, n10⟩, -, X10, ⟨Lc10, hQ10, l10, y10, z10⟩, st10⟩ := X6.virtualBack hx (y := ym1) (z := ym1) hown (mvT hZ (ww hw 27 rfl)) (mvT hZ (ww hw 28 rfl)) (notFace_of_selects (args := #[]) (mvT hZ (ww hw 30 rfl))) (mvT hZ (ww hw 30 rfl)) (mvT hZ (ww hw 29 rfl)) (by decide) (backOf (W := 0) (rmV1 l Z av0 hw [] rd ba (1 : Int32) (4 : Int32) c8 w1 T5.heap n0 SZ5 QE5_0 QF5_0 QF5_1 QF5_2 g_rd A8 ne_ba_rd hin9 hat9 (by decide : ¬ ((1 : Int32) = (4 : Int32))) hw1) hZ (ww hw 31 rfl) (ww hw 4 rfl) (by decide) (by decide)) q10a q10c (g := (mkF m 351 #[s0, s1, s2, s3, s4, s5, s6, s7, .val (.int rr), s9, s10, s11, .val (.int (1 : Int32)), .val (.ref rd), .val (.int (4 : Int32)), .val (.int (1 : Int32)), .val (.int (1 : Int32)), s17] [(.ref rd)])) rfl (by rw [hml]; rfl) (Steps.refl _) (argsL := []) (rest := []) (lenOf pd_1 rfl) rfl (Nat.le_refl _) (dd at_351) (fun _ _ => ⟨rfl, e6, (by decide : 2 + 0 ≤ _), (by decide : 8 + 0 ≤ _)⟩)
      dsimp only [Pt.U, Pt.locs, Pt.cells, Pt.slots, Q_rmV1] at X10 l10 y10 z10 st10 hQ10
      subst l10 y10 z10
      obtain ⟨rfl, N10q, K10q, QE10_0, QF10_0, QF10_1, QF10_2⟩ := hQ10
      have N10 := Fr.app N6 N10q
      have f10_E_rd := Exa.keep QE5_0 K10q
      have f10_V_ba := Arv.keep f5_V_ba K10q (ninS ne_ba_rd nin0)
      have SZ10 := Nat.le_trans SZ5 K10q.1
      replace QF10_1 : Fld Z T10.heap rd "com/example/bad_status/badstatus/model/ProtoReader" "position" "I" (.int (2 : Int32)) := QF10_1
      refine Gz.tr st10 ?_
      refine Gz.st (S' := (T10.setTop (mkF m 355 #[s0, s1, s2, s3, s4, s5, s6, s7, .val (.int rr), s9, s10, s11, .val (.int (1 : Int32)), .val (.ref rd), .val (.int (4 : Int32)), .val (.int (1 : Int32)), .val (.int (1 : Int32)), s17] []))) (fun t k => by jvm_step X10.here [X10.here.top, hx, (dd at_354), Value.category]; exact k) ?_
      refine Gz.iinc 358 #[s0, s1, s2, s3, s4, s5, s6, s7, .val (.int rr), s9, s10, s11, .val (.int (1 : Int32)), .val (.ref rd), .val (.int (4 : Int32)), .val (.int (2 : Int32)), .val (.int (1 : Int32)), s17] X10 hx (dd at_355) rfl rfl rfl ?_
      refine Gz.iload 360 X10 hx (dd at_358) rfl rfl ?_
      refine Gz.ifNo 363 X10 hx (dd at_360) ((if0 _ _).trans (feq (by decide : ¬ ((1 : Int32) = (0 : Int32)))).1) rfl ?_
      refine Gz.aload 365 X10 hx (dd at_363) rfl rfl rfl ?_
      obtain ⟨cq11, kq11, q11a, q11b, q11c⟩ := isOf hZ rfl QE10_0
      obtain ⟨_, _, ⟨T11, L11, k11, n11⟩, -, X11, ⟨Lc11, hQ11, l11, y11, z11⟩, st11⟩ := X10.virtualBack hx (y := ym3) (z := ym3) hown (mvT hZ (ww hw 22 rfl)) (mvT hZ (ww hw 23 rfl)) (notFace_of_selects (args := #[]) (mvT hZ (ww hw 25 rfl))) (mvT hZ (ww hw 25 rfl)) (mvT hZ (ww hw 24 rfl)) (by decide) (backOf (W := 0) (rm4 l Z av0 hw [] rd (2 : Int32) (4 : Int32) T10.heap n0 SZ10 QF10_1 QF10_2) hZ (ww hw 26 rfl) (ww hw 4 rfl) (by decide) (by decide)) q11a q11c (g := (mkF m 365 #[s0, s1, s2, s3, s4, s5, s6, s7, .val (.int rr), s9, s10, s11, .val (.int (1 : Int32)), .val (.ref rd), .val (.int (4 : Int32)), .val (.int (2 : Int32)), .val (.int (1 : Int32)), s17] [(.ref rd)])) rfl (by rw [hml]; rfl) (Steps.refl _) (argsL := []) (rest := []) (lenOf pd_3 rfl) rfl (Nat.le_refl _) (dd at_365) (fun _ _ => ⟨rfl, rfl, (by decide : 2 + 0 ≤ _), (by decide : 8 + 0 ≤ _)⟩)
      dsimp only [Pt.U, Pt.locs, Pt.cells, Pt.slots, Q_rm4] at X11 l11 y11 z11 st11 hQ11
      subst l11 y11 z11
      rw [show (fHM rd (2 : Int32) (4 : Int32)) = (1 : Int32) from (by unfold fHM; rw [if_pos (by decide : (2 : Int32) < (4 : Int32))]; try decide)] at hQ11
      obtain ⟨rfl, N11q, e11⟩ := hQ11
      have N11 := Fr.app N10 N11q
      refine Gz.tr st11 ?_
      refine Gz.iload 370 X11 hx (dd at_368) rfl rfl ?_
      refine Gz.iload 372 X11 hx (dd at_370) rfl rfl ?_
      refine Gz.icmpNo 375 X11 hx (dd at_372) (tlt (by decide : (2 : Int32) < (4 : Int32))).2.1 rfl ?_
      refine Gz.iconst 376 (1 : Int32) X11 hx (dd at_375) rfl rfl ?_
      refine Gz.goto 380 X11 hx (dd at_376) (by decide) (by decide) ?_
      refine Gz.icmpNo 383 X11 hx (dd at_380) (teq (by decide : (1 : Int32) = (1 : Int32))).2 rfl ?_
      refine Gz.iconst 384 (1 : Int32) X11 hx (dd at_383) rfl rfl ?_
      refine Gz.goto 388 X11 hx (dd at_384) (by decide) (by decide) ?_
      refine Gz.istore 390 #[s0, s1, s2, s3, s4, s5, s6, s7, .val (.int rr), s9, s10, s11, .val (.int (1 : Int32)), .val (.ref rd), .val (.int (4 : Int32)), .val (.int (2 : Int32)), .val (.int (1 : Int32)), s17] X11 hx (dd at_388) rfl rfl ?_
      refine Gz.iload 392 X11 hx (dd at_390) rfl rfl ?_
      refine Gz.iconst 393 (3 : Int32) X11 hx (dd at_392) rfl rfl ?_
      by_cases hc12 : rr < (3 : Int32)
      · refine Gz.icmpYes 449 X11 hx (dd at_393) (tlt hc12).1 (by decide) (by decide) ?_
        refine Gz.iload 451 X11 hx (dd at_449) rfl rfl ?_
        refine Gz.fin X11 (v := some (.int (1 : Int32))) (fun h => by rw [hret] at h; cases h) hlk (by decide) (by decide) (fun fs hr => retN X11 hx (t := .boolean) hret (by simp) (dd at_451) hr) ?_
        exact ⟨rfl, N11⟩
      · refine Gz.icmpNo 396 X11 hx (dd at_393) (flt hc12).1 rfl ?_
        refine Gz.iload 398 X11 hx (dd at_396) rfl rfl ?_
        refine Gz.ifNo 401 X11 hx (dd at_398) ((if0 _ _).trans (tlt (by decide : (0 : Int32) < (2 : Int32))).2.2.2) rfl ?_
        refine Gz.iload 403 X11 hx (dd at_401) rfl rfl ?_
        refine Gz.iload 405 X11 hx (dd at_403) rfl rfl ?_
        refine Gz.icmpNo 408 X11 hx (dd at_405) (tlt (by decide : (2 : Int32) < (4 : Int32))).2.1 rfl ?_
        refine Gz.aload 410 X11 hx (dd at_408) rfl rfl rfl ?_
        obtain ⟨c13, A13, q13, S13, N13, H13, G13⟩ := id f10_V_ba
        have hin14 : ¬ ((2 : Int32) < 0 ∨ c13.slots.size ≤ ((2 : Int32)).toNatClampNeg) := inb_of S13 ⟨by decide, by decide⟩
        have hat14 : c13.slots[((2 : Int32)).toNatClampNeg]? = some (.int w2) := Has.at H13 hin14 rfl
        obtain ⟨cq15, kq15, q15a, q15b, q15c⟩ := isOf hZ e11 QE10_0
        obtain ⟨_, _, ⟨T15, L15, k15, n15⟩, -, X15, ⟨Lc15, hQ15, l15, y15, z15⟩, st15⟩ := X11.virtualBack hx (y := ym1) (z := ym1) hown (mvT hZ (ww hw 27 rfl)) (mvT hZ (ww hw 28 rfl)) (notFace_of_selects (args := #[]) (mvT hZ (ww hw 30 rfl))) (mvT hZ (ww hw 30 rfl)) (mvT hZ (ww hw 29 rfl)) (by decide) (backOf (W := 0) (rmV1 l Z av0 hw [] rd ba (2 : Int32) (4 : Int32) c13 w2 T10.heap n0 SZ10 QE10_0 QF10_0 QF10_1 QF10_2 g_rd A13 ne_ba_rd hin14 hat14 (by decide : ¬ ((2 : Int32) = (4 : Int32))) hw2) hZ (ww hw 31 rfl) (ww hw 4 rfl) (by decide) (by decide)) q15a q15c (g := (mkF m 410 #[s0, s1, s2, s3, s4, s5, s6, s7, .val (.int rr), s9, s10, s11, .val (.int (1 : Int32)), .val (.ref rd), .val (.int (4 : Int32)), .val (.int (2 : Int32)), .val (.int (1 : Int32)), s17] [(.ref rd)])) rfl (by rw [hml]; rfl) (Steps.refl _) (argsL := []) (rest := []) (lenOf pd_1 rfl) rfl (Nat.le_refl _) (dd at_410) (fun _ _ => ⟨rfl, e11, (by decide : 2 + 0 ≤ _), (by decide : 8 + 0 ≤ _)⟩)
        dsimp only [Pt.U, Pt.locs, Pt.cells, Pt.slots, Q_rmV1] at X15 l15 y15 z15 st15 hQ15
        subst l15 y15 z15
        obtain ⟨rfl, N15q, K15q, QE15_0, QF15_0, QF15_1, QF15_2⟩ := hQ15
        have N15 := Fr.app N11 N15q
        have f15_E_rd := Exa.keep QE10_0 K15q
        have f15_V_ba := Arv.keep f10_V_ba K15q (ninS ne_ba_rd nin0)
        have SZ15 := Nat.le_trans SZ10 K15q.1
        replace QF15_1 : Fld Z T15.heap rd "com/example/bad_status/badstatus/model/ProtoReader" "position" "I" (.int (3 : Int32)) := QF15_1
        refine Gz.tr st15 ?_
        refine Gz.st (S' := (T15.setTop (mkF m 414 #[s0, s1, s2, s3, s4, s5, s6, s7, .val (.int rr), s9, s10, s11, .val (.int (1 : Int32)), .val (.ref rd), .val (.int (4 : Int32)), .val (.int (2 : Int32)), .val (.int (1 : Int32)), s17] []))) (fun t k => by jvm_step X15.here [X15.here.top, hx, (dd at_413), Value.category]; exact k) ?_
        refine Gz.iinc 417 #[s0, s1, s2, s3, s4, s5, s6, s7, .val (.int rr), s9, s10, s11, .val (.int (1 : Int32)), .val (.ref rd), .val (.int (4 : Int32)), .val (.int (3 : Int32)), .val (.int (1 : Int32)), s17] X15 hx (dd at_414) rfl rfl rfl ?_
        refine Gz.iload 419 X15 hx (dd at_417) rfl rfl ?_
        refine Gz.ifNo 422 X15 hx (dd at_419) ((if0 _ _).trans (feq (by decide : ¬ ((1 : Int32) = (0 : Int32)))).1) rfl ?_
        refine Gz.aload 424 X15 hx (dd at_422) rfl rfl rfl ?_
        obtain ⟨cq16, kq16, q16a, q16b, q16c⟩ := isOf hZ rfl QE15_0
        obtain ⟨_, _, ⟨T16, L16, k16, n16⟩, -, X16, ⟨Lc16, hQ16, l16, y16, z16⟩, st16⟩ := X15.virtualBack hx (y := ym3) (z := ym3) hown (mvT hZ (ww hw 22 rfl)) (mvT hZ (ww hw 23 rfl)) (notFace_of_selects (args := #[]) (mvT hZ (ww hw 25 rfl))) (mvT hZ (ww hw 25 rfl)) (mvT hZ (ww hw 24 rfl)) (by decide) (backOf (W := 0) (rm4 l Z av0 hw [] rd (3 : Int32) (4 : Int32) T15.heap n0 SZ15 QF15_1 QF15_2) hZ (ww hw 26 rfl) (ww hw 4 rfl) (by decide) (by decide)) q16a q16c (g := (mkF m 424 #[s0, s1, s2, s3, s4, s5, s6, s7, .val (.int rr), s9, s10, s11, .val (.int (1 : Int32)), .val (.ref rd), .val (.int (4 : Int32)), .val (.int (3 : Int32)), .val (.int (1 : Int32)), s17] [(.ref rd)])) rfl (by rw [hml]; rfl) (Steps.refl _) (argsL := []) (rest := []) (lenOf pd_3 rfl) rfl (Nat.le_refl _) (dd at_424) (fun _ _ => ⟨rfl, rfl, (by decide : 2 + 0 ≤ _), (by decide : 8 + 0 ≤ _)⟩)
        dsimp only [Pt.U, Pt.locs, Pt.cells, Pt.slots, Q_rm4] at X16 l16 y16 z16 st16 hQ16
        subst l16 y16 z16
        rw [show (fHM rd (3 : Int32) (4 : Int32)) = (1 : Int32) from (by unfold fHM; rw [if_pos (by decide : (3 : Int32) < (4 : Int32))]; try decide)] at hQ16
        obtain ⟨rfl, N16q, e16⟩ := hQ16
        have N16 := Fr.app N15 N16q
        refine Gz.tr st16 ?_
        refine Gz.iload 429 X16 hx (dd at_427) rfl rfl ?_
        refine Gz.iload 431 X16 hx (dd at_429) rfl rfl ?_
        refine Gz.icmpNo 434 X16 hx (dd at_431) (tlt (by decide : (3 : Int32) < (4 : Int32))).2.1 rfl ?_
        refine Gz.iconst 435 (1 : Int32) X16 hx (dd at_434) rfl rfl ?_
        refine Gz.goto 439 X16 hx (dd at_435) (by decide) (by decide) ?_
        refine Gz.icmpNo 442 X16 hx (dd at_439) (teq (by decide : (1 : Int32) = (1 : Int32))).2 rfl ?_
        refine Gz.iconst 443 (1 : Int32) X16 hx (dd at_442) rfl rfl ?_
        refine Gz.goto 447 X16 hx (dd at_443) (by decide) (by decide) ?_
        refine Gz.istore 449 #[s0, s1, s2, s3, s4, s5, s6, s7, .val (.int rr), s9, s10, s11, .val (.int (1 : Int32)), .val (.ref rd), .val (.int (4 : Int32)), .val (.int (3 : Int32)), .val (.int (1 : Int32)), s17] X16 hx (dd at_447) rfl rfl ?_
        refine Gz.iload 451 X16 hx (dd at_449) rfl rfl ?_
        refine Gz.fin X16 (v := some (.int (1 : Int32))) (fun h => by rw [hret] at h; cases h) hlk (by decide) (by decide) (fun fs hr => retN X16 hx (t := .boolean) hret (by simp) (dd at_451) hr) ?_
        exact ⟨rfl, N16⟩
set_option maxRecDepth 65536 in
set_option maxHeartbeats 40000000 in
theorem sg_4_x_2 {p : Program} {l : Launch} {e : Env} {s : State} {m : MethodId} {args : Array Value} {below : List Frame} {meth : Method} {c : Code} {T0 : State} {locs : List Loc} {Z : State} {av0 : Array Value} {hS : Heap} (s0 : Slot) (s1 : Slot) (s2 : Slot) (s3 : Slot) (s4 : Slot) (s5 : Slot) (s6 : Slot) (s7 : Slot) (rr : Int32) (s9 : Slot) (s10 : Slot) (s11 : Slot) (rd : Addr) (s17 : Slot) (ba : Addr) (k_ba : ClassId) (w0 : Int32) (w1 : Int32) (w2 : Int32) (w3 : Int32) (n0 : Nat)
    (X0 : Stand p l e room_1 s m args below meth c T0 locs 2 8) (hx : p.tables.exec = Jvm.exec) (hZ : Z.Warmed39 s.vm) (hw : ∀ d ∈ tables_1, d.before av0 Z = true) (hby : c.code = code) (hml : c.maxLocals = 18) (hown : s.vm.findClass "com/example/bad_status/badstatus/model/ProtoReaderHasMorePinLaw" = some m.cls) (hret : meth.sig.returnType = some .boolean) (hlk : meth.locks = false) (e0 : T0.heap = hS) (N0 : Fr n0 locs) (Z0 : n0 ≤ hS.size) (E_rd : Exa Z hS rd "com/example/bad_status/badstatus/model/ProtoReader") (F_bytes_rd : Fld Z hS rd "com/example/bad_status/badstatus/model/ProtoReader" "bytes" "[B" (.ref ba)) (F_position_rd : Fld Z hS rd "com/example/bad_status/badstatus/model/ProtoReader" "position" "I" (.int (0 : Int32))) (F_end_rd : Fld Z hS rd "com/example/bad_status/badstatus/model/ProtoReader" "end" "I" (.int (4 : Int32))) (g_rd : n0 ≤ rd) (V_ba : Arv Z hS ba k_ba .byte (4 : Int32) [(.int w0), (.int w1), (.int w2), (.int w3)] (.int (0 : Int32))) (ne_ba_rd : ba ≠ rd) (hw1 : ¬ (w1 < (0 : Int32))) (hw2 : ¬ (w2 < (0 : Int32))) (hw3 : ¬ (w3 < (0 : Int32))) (hw0 : w0 < (0 : Int32)) :
    Gz p e below s 16 128 (Q_law n0) (T0.setTop (mkF m 240 #[s0, s1, s2, s3, s4, s5, s6, s7, .val (.int rr), s9, s10, s11, .val (.int (1 : Int32)), .val (.ref rd), .val (.int (4 : Int32)), .val (.int (0 : Int32)), .val (.int (2 : Int32)), s17] [])) := by
  have dd : ∀ {pc : Nat} {r : Except DecodeError (Instr × Nat)}, decode code pc = r → decode c.code pc = r := fun q => hb hby q
  refine Gz.iload 242 X0 hx (dd at_240) rfl rfl ?_
  refine Gz.ifNo 245 X0 hx (dd at_242) ((if0 _ _).trans (feq (by decide : ¬ ((1 : Int32) = (0 : Int32)))).1) rfl ?_
  refine Gz.aload 247 X0 hx (dd at_245) rfl rfl rfl ?_
  obtain ⟨cq1, kq1, q1a, q1b, q1c⟩ := isOf hZ e0 E_rd
  obtain ⟨_, _, ⟨T1, L1, k1, n1⟩, -, X1, ⟨Lc1, hQ1, l1, y1, z1⟩, st1⟩ := X0.virtualBack hx (y := ym3) (z := ym3) hown (mvT hZ (ww hw 22 rfl)) (mvT hZ (ww hw 23 rfl)) (notFace_of_selects (args := #[]) (mvT hZ (ww hw 25 rfl))) (mvT hZ (ww hw 25 rfl)) (mvT hZ (ww hw 24 rfl)) (by decide) (backOf (W := 0) (rm4 l Z av0 hw [] rd (0 : Int32) (4 : Int32) hS n0 Z0 F_position_rd F_end_rd) hZ (ww hw 26 rfl) (ww hw 4 rfl) (by decide) (by decide)) q1a q1c (g := (mkF m 247 #[s0, s1, s2, s3, s4, s5, s6, s7, .val (.int rr), s9, s10, s11, .val (.int (1 : Int32)), .val (.ref rd), .val (.int (4 : Int32)), .val (.int (0 : Int32)), .val (.int (2 : Int32)), s17] [(.ref rd)])) rfl (by rw [hml]; rfl) (Steps.refl _) (argsL := []) (rest := []) (lenOf pd_3 rfl) rfl (Nat.le_refl _) (dd at_247) (fun _ _ => ⟨rfl, e0, (by decide : 2 + 0 ≤ _), (by decide : 8 + 0 ≤ _)⟩)
  dsimp only [Pt.U, Pt.locs, Pt.cells, Pt.slots, Q_rm4] at X1 l1 y1 z1 st1 hQ1
  subst l1 y1 z1
  rw [show (fHM rd (0 : Int32) (4 : Int32)) = (1 : Int32) from (by unfold fHM; rw [if_pos (by decide : (0 : Int32) < (4 : Int32))]; try decide)] at hQ1
  obtain ⟨rfl, N1q, e1⟩ := hQ1
  have N1 := Fr.app N0 N1q
  refine Gz.tr st1 ?_
  refine Gz.iload 252 X1 hx (dd at_250) rfl rfl ?_
  refine Gz.ifNo 255 X1 hx (dd at_252) ((if0 _ _).trans (tlt (by decide : (0 : Int32) < (4 : Int32))).2.2.2) rfl ?_
  refine Gz.iconst 256 (1 : Int32) X1 hx (dd at_255) rfl rfl ?_
  refine Gz.goto 260 X1 hx (dd at_256) (by decide) (by decide) ?_
  refine Gz.icmpNo 263 X1 hx (dd at_260) (teq (by decide : (1 : Int32) = (1 : Int32))).2 rfl ?_
  refine Gz.iconst 264 (1 : Int32) X1 hx (dd at_263) rfl rfl ?_
  refine Gz.goto 268 X1 hx (dd at_264) (by decide) (by decide) ?_
  refine Gz.istore 270 #[s0, s1, s2, s3, s4, s5, s6, s7, .val (.int rr), s9, s10, s11, .val (.int (1 : Int32)), .val (.ref rd), .val (.int (4 : Int32)), .val (.int (0 : Int32)), .val (.int (2 : Int32)), s17] X1 hx (dd at_268) rfl rfl ?_
  refine Gz.iload 272 X1 hx (dd at_270) rfl rfl ?_
  refine Gz.iconst 273 (1 : Int32) X1 hx (dd at_272) rfl rfl ?_
  by_cases hc2 : rr < (1 : Int32)
  · refine Gz.icmpYes 331 X1 hx (dd at_273) (tlt hc2).1 (by decide) (by decide) ?_
    refine Gz.iload 333 X1 hx (dd at_331) rfl rfl ?_
    refine Gz.iconst 334 (2 : Int32) X1 hx (dd at_333) rfl rfl ?_
    refine Gz.icmpYes 390 X1 hx (dd at_334) (tlt (own_ALt32 hc2 (by decide) : rr < (2 : Int32))).1 (by decide) (by decide) ?_
    refine Gz.iload 392 X1 hx (dd at_390) rfl rfl ?_
    refine Gz.iconst 393 (3 : Int32) X1 hx (dd at_392) rfl rfl ?_
    refine Gz.icmpYes 449 X1 hx (dd at_393) (tlt (own_ALt32 hc2 (by decide) : rr < (3 : Int32))).1 (by decide) (by decide) ?_
    refine Gz.iload 451 X1 hx (dd at_449) rfl rfl ?_
    refine Gz.fin X1 (v := some (.int (1 : Int32))) (fun h => by rw [hret] at h; cases h) hlk (by decide) (by decide) (fun fs hr => retN X1 hx (t := .boolean) hret (by simp) (dd at_451) hr) ?_
    exact ⟨rfl, N1⟩
  · refine Gz.icmpNo 276 X1 hx (dd at_273) (flt hc2).1 rfl ?_
    refine Gz.iload 278 X1 hx (dd at_276) rfl rfl ?_
    refine Gz.iload 280 X1 hx (dd at_278) rfl rfl ?_
    refine Gz.iaddV 281 (2 : Int32) X1 hx (dd at_280) rfl rfl ?_
    refine Gz.iload 283 X1 hx (dd at_281) rfl rfl ?_
    refine Gz.icmpNo 286 X1 hx (dd at_283) (flt (by decide : ¬ ((4 : Int32) < (2 : Int32)))).2.2.1 rfl ?_
    refine Gz.aload 288 X1 hx (dd at_286) rfl rfl rfl ?_
    obtain ⟨c3, A3, q3, S3, N3, H3, G3⟩ := id V_ba
    have hin4 : ¬ ((0 : Int32) < 0 ∨ c3.slots.size ≤ ((0 : Int32)).toNatClampNeg) := inb_of S3 ⟨by decide, by decide⟩
    have hat4 : c3.slots[((0 : Int32)).toNatClampNeg]? = some (.int w0) := Has.at H3 hin4 rfl
    have hin5 : ¬ (((0 : Int32) + (1 : Int32)) < 0 ∨ c3.slots.size ≤ (((0 : Int32) + (1 : Int32))).toNatClampNeg) := inb_of S3 ⟨by decide, by decide⟩
    have hat5 : c3.slots[(((0 : Int32) + (1 : Int32))).toNatClampNeg]? = some (.int w1) := Has.at H3 hin5 rfl
    obtain ⟨cq6, kq6, q6a, q6b, q6c⟩ := isOf hZ e1 E_rd
    obtain ⟨_, _, ⟨T6, L6, k6, n6⟩, -, X6, ⟨Lc6, hQ6, l6, y6, z6⟩, st6⟩ := X1.virtualBack hx (y := ym1) (z := ym1) hown (mvT hZ (ww hw 27 rfl)) (mvT hZ (ww hw 28 rfl)) (notFace_of_selects (args := #[]) (mvT hZ (ww hw 30 rfl))) (mvT hZ (ww hw 30 rfl)) (mvT hZ (ww hw 29 rfl)) (by decide) (backOf (W := 0) (rmV2 l Z av0 hw [] rd ba (0 : Int32) (4 : Int32) c3 w0 w1 hS n0 Z0 E_rd F_bytes_rd F_position_rd F_end_rd g_rd A3 ne_ba_rd hin4 hat4 hin5 hat5 (by decide : ¬ ((0 : Int32) = (4 : Int32))) hw0 (by decide : ¬ ((1 : Int32) = (4 : Int32))) hw1) hZ (ww hw 31 rfl) (ww hw 4 rfl) (by decide) (by decide)) q6a q6c (g := (mkF m 288 #[s0, s1, s2, s3, s4, s5, s6, s7, .val (.int rr), s9, s10, s11, .val (.int (1 : Int32)), .val (.ref rd), .val (.int (4 : Int32)), .val (.int (0 : Int32)), .val (.int (2 : Int32)), s17] [(.ref rd)])) rfl (by rw [hml]; rfl) (Steps.refl _) (argsL := []) (rest := []) (lenOf pd_1 rfl) rfl (Nat.le_refl _) (dd at_288) (fun _ _ => ⟨rfl, e1, (by decide : 2 + 0 ≤ _), (by decide : 8 + 0 ≤ _)⟩)
    dsimp only [Pt.U, Pt.locs, Pt.cells, Pt.slots, Q_rmV2] at X6 l6 y6 z6 st6 hQ6
    subst l6 y6 z6
    obtain ⟨rfl, N6q, K6q, QE6_0, QF6_0, QF6_1, QF6_2⟩ := hQ6
    have N6 := Fr.app N1 N6q
    have f6_E_rd := Exa.keep E_rd K6q
    have f6_V_ba := Arv.keep V_ba K6q (ninS ne_ba_rd nin0)
    have SZ6 := Nat.le_trans Z0 K6q.1
    replace QF6_1 : Fld Z T6.heap rd "com/example/bad_status/badstatus/model/ProtoReader" "position" "I" (.int (2 : Int32)) := QF6_1
    refine Gz.tr st6 ?_
    refine Gz.st (S' := (T6.setTop (mkF m 292 #[s0, s1, s2, s3, s4, s5, s6, s7, .val (.int rr), s9, s10, s11, .val (.int (1 : Int32)), .val (.ref rd), .val (.int (4 : Int32)), .val (.int (0 : Int32)), .val (.int (2 : Int32)), s17] []))) (fun t k => by jvm_step X6.here [X6.here.top, hx, (dd at_291), Value.category]; exact k) ?_
    refine Gz.iload 294 X6 hx (dd at_292) rfl rfl ?_
    refine Gz.iload 296 X6 hx (dd at_294) rfl rfl ?_
    refine Gz.iaddV 297 (2 : Int32) X6 hx (dd at_296) rfl rfl ?_
    refine Gz.istore 299 #[s0, s1, s2, s3, s4, s5, s6, s7, .val (.int rr), s9, s10, s11, .val (.int (1 : Int32)), .val (.ref rd), .val (.int (4 : Int32)), .val (.int (2 : Int32)), .val (.int (2 : Int32)), s17] X6 hx (dd at_297) rfl rfl ?_
    refine Gz.iload 301 X6 hx (dd at_299) rfl rfl ?_
    refine Gz.ifNo 304 X6 hx (dd at_301) ((if0 _ _).trans (feq (by decide : ¬ ((1 : Int32) = (0 : Int32)))).1) rfl ?_
    refine Gz.aload 306 X6 hx (dd at_304) rfl rfl rfl ?_
    obtain ⟨cq7, kq7, q7a, q7b, q7c⟩ := isOf hZ rfl QE6_0
    obtain ⟨_, _, ⟨T7, L7, k7, n7⟩, -, X7, ⟨Lc7, hQ7, l7, y7, z7⟩, st7⟩ := X6.virtualBack hx (y := ym3) (z := ym3) hown (mvT hZ (ww hw 22 rfl)) (mvT hZ (ww hw 23 rfl)) (notFace_of_selects (args := #[]) (mvT hZ (ww hw 25 rfl))) (mvT hZ (ww hw 25 rfl)) (mvT hZ (ww hw 24 rfl)) (by decide) (backOf (W := 0) (rm4 l Z av0 hw [] rd (2 : Int32) (4 : Int32) T6.heap n0 SZ6 QF6_1 QF6_2) hZ (ww hw 26 rfl) (ww hw 4 rfl) (by decide) (by decide)) q7a q7c (g := (mkF m 306 #[s0, s1, s2, s3, s4, s5, s6, s7, .val (.int rr), s9, s10, s11, .val (.int (1 : Int32)), .val (.ref rd), .val (.int (4 : Int32)), .val (.int (2 : Int32)), .val (.int (2 : Int32)), s17] [(.ref rd)])) rfl (by rw [hml]; rfl) (Steps.refl _) (argsL := []) (rest := []) (lenOf pd_3 rfl) rfl (Nat.le_refl _) (dd at_306) (fun _ _ => ⟨rfl, rfl, (by decide : 2 + 0 ≤ _), (by decide : 8 + 0 ≤ _)⟩)
    dsimp only [Pt.U, Pt.locs, Pt.cells, Pt.slots, Q_rm4] at X7 l7 y7 z7 st7 hQ7
    subst l7 y7 z7
    rw [show (fHM rd (2 : Int32) (4 : Int32)) = (1 : Int32) from (by unfold fHM; rw [if_pos (by decide : (2 : Int32) < (4 : Int32))]; try decide)] at hQ7
    obtain ⟨rfl, N7q, e7⟩ := hQ7
    have N7 := Fr.app N6 N7q
    refine Gz.tr st7 ?_
    refine Gz.iload 311 X7 hx (dd at_309) rfl rfl ?_
    refine Gz.iload 313 X7 hx (dd at_311) rfl rfl ?_
    refine Gz.icmpNo 316 X7 hx (dd at_313) (tlt (by decide : (2 : Int32) < (4 : Int32))).2.1 rfl ?_
    refine Gz.iconst 317 (1 : Int32) X7 hx (dd at_316) rfl rfl ?_
    refine Gz.goto 321 X7 hx (dd at_317) (by decide) (by decide) ?_
    refine Gz.icmpNo 324 X7 hx (dd at_321) (teq (by decide : (1 : Int32) = (1 : Int32))).2 rfl ?_
    refine Gz.iconst 325 (1 : Int32) X7 hx (dd at_324) rfl rfl ?_
    refine Gz.goto 329 X7 hx (dd at_325) (by decide) (by decide) ?_
    refine Gz.istore 331 #[s0, s1, s2, s3, s4, s5, s6, s7, .val (.int rr), s9, s10, s11, .val (.int (1 : Int32)), .val (.ref rd), .val (.int (4 : Int32)), .val (.int (2 : Int32)), .val (.int (2 : Int32)), s17] X7 hx (dd at_329) rfl rfl ?_
    refine Gz.iload 333 X7 hx (dd at_331) rfl rfl ?_
    refine Gz.iconst 334 (2 : Int32) X7 hx (dd at_333) rfl rfl ?_
    by_cases hc8 : rr < (2 : Int32)
    · refine Gz.icmpYes 390 X7 hx (dd at_334) (tlt hc8).1 (by decide) (by decide) ?_
      refine Gz.iload 392 X7 hx (dd at_390) rfl rfl ?_
      refine Gz.iconst 393 (3 : Int32) X7 hx (dd at_392) rfl rfl ?_
      refine Gz.icmpYes 449 X7 hx (dd at_393) (tlt (own_ALt32 hc8 (by decide) : rr < (3 : Int32))).1 (by decide) (by decide) ?_
      refine Gz.iload 451 X7 hx (dd at_449) rfl rfl ?_
      refine Gz.fin X7 (v := some (.int (1 : Int32))) (fun h => by rw [hret] at h; cases h) hlk (by decide) (by decide) (fun fs hr => retN X7 hx (t := .boolean) hret (by simp) (dd at_451) hr) ?_
      exact ⟨rfl, N7⟩
    · refine Gz.icmpNo 337 X7 hx (dd at_334) (flt hc8).1 rfl ?_
      refine Gz.iload 339 X7 hx (dd at_337) rfl rfl ?_
      refine Gz.ifNo 342 X7 hx (dd at_339) ((if0 _ _).trans (tlt (by decide : (0 : Int32) < (2 : Int32))).2.2.2) rfl ?_
      refine Gz.iload 344 X7 hx (dd at_342) rfl rfl ?_
      refine Gz.iload 346 X7 hx (dd at_344) rfl rfl ?_
      refine Gz.icmpNo 349 X7 hx (dd at_346) (tlt (by decide : (2 : Int32) < (4 : Int32))).2.1 rfl ?_
      refine Gz.aload 351 X7 hx (dd at_349) rfl rfl rfl ?_
      obtain ⟨c9, A9, q9, S9, N9, H9, G9⟩ := id f6_V_ba
      have hin10 : ¬ ((2 : Int32) < 0 ∨ c9.slots.size ≤ ((2 : Int32)).toNatClampNeg) := inb_of S9 ⟨by decide, by decide⟩
      have hat10 : c9.slots[((2 : Int32)).toNatClampNeg]? = some (.int w2) := Has.at H9 hin10 rfl
      obtain ⟨cq11, kq11, q11a, q11b, q11c⟩ := isOf hZ e7 QE6_0
      obtain ⟨_, _, ⟨T11, L11, k11, n11⟩, -, X11, ⟨Lc11, hQ11, l11, y11, z11⟩, st11⟩ := X7.virtualBack hx (y := ym1) (z := ym1) hown (mvT hZ (ww hw 27 rfl)) (mvT hZ (ww hw 28 rfl)) (notFace_of_selects (args := #[]) (mvT hZ (ww hw 30 rfl))) (mvT hZ (ww hw 30 rfl)) (mvT hZ (ww hw 29 rfl)) (by decide) (backOf (W := 0) (rmV1 l Z av0 hw [] rd ba (2 : Int32) (4 : Int32) c9 w2 T6.heap n0 SZ6 QE6_0 QF6_0 QF6_1 QF6_2 g_rd A9 ne_ba_rd hin10 hat10 (by decide : ¬ ((2 : Int32) = (4 : Int32))) hw2) hZ (ww hw 31 rfl) (ww hw 4 rfl) (by decide) (by decide)) q11a q11c (g := (mkF m 351 #[s0, s1, s2, s3, s4, s5, s6, s7, .val (.int rr), s9, s10, s11, .val (.int (1 : Int32)), .val (.ref rd), .val (.int (4 : Int32)), .val (.int (2 : Int32)), .val (.int (2 : Int32)), s17] [(.ref rd)])) rfl (by rw [hml]; rfl) (Steps.refl _) (argsL := []) (rest := []) (lenOf pd_1 rfl) rfl (Nat.le_refl _) (dd at_351) (fun _ _ => ⟨rfl, e7, (by decide : 2 + 0 ≤ _), (by decide : 8 + 0 ≤ _)⟩)
      dsimp only [Pt.U, Pt.locs, Pt.cells, Pt.slots, Q_rmV1] at X11 l11 y11 z11 st11 hQ11
      subst l11 y11 z11
      obtain ⟨rfl, N11q, K11q, QE11_0, QF11_0, QF11_1, QF11_2⟩ := hQ11
      have N11 := Fr.app N7 N11q
      have f11_E_rd := Exa.keep QE6_0 K11q
      have f11_V_ba := Arv.keep f6_V_ba K11q (ninS ne_ba_rd nin0)
      have SZ11 := Nat.le_trans SZ6 K11q.1
      replace QF11_1 : Fld Z T11.heap rd "com/example/bad_status/badstatus/model/ProtoReader" "position" "I" (.int (3 : Int32)) := QF11_1
      refine Gz.tr st11 ?_
      refine Gz.st (S' := (T11.setTop (mkF m 355 #[s0, s1, s2, s3, s4, s5, s6, s7, .val (.int rr), s9, s10, s11, .val (.int (1 : Int32)), .val (.ref rd), .val (.int (4 : Int32)), .val (.int (2 : Int32)), .val (.int (2 : Int32)), s17] []))) (fun t k => by jvm_step X11.here [X11.here.top, hx, (dd at_354), Value.category]; exact k) ?_
      refine Gz.iinc 358 #[s0, s1, s2, s3, s4, s5, s6, s7, .val (.int rr), s9, s10, s11, .val (.int (1 : Int32)), .val (.ref rd), .val (.int (4 : Int32)), .val (.int (3 : Int32)), .val (.int (2 : Int32)), s17] X11 hx (dd at_355) rfl rfl rfl ?_
      refine Gz.iload 360 X11 hx (dd at_358) rfl rfl ?_
      refine Gz.ifNo 363 X11 hx (dd at_360) ((if0 _ _).trans (feq (by decide : ¬ ((1 : Int32) = (0 : Int32)))).1) rfl ?_
      refine Gz.aload 365 X11 hx (dd at_363) rfl rfl rfl ?_
      obtain ⟨cq12, kq12, q12a, q12b, q12c⟩ := isOf hZ rfl QE11_0
      obtain ⟨_, _, ⟨T12, L12, k12, n12⟩, -, X12, ⟨Lc12, hQ12, l12, y12, z12⟩, st12⟩ := X11.virtualBack hx (y := ym3) (z := ym3) hown (mvT hZ (ww hw 22 rfl)) (mvT hZ (ww hw 23 rfl)) (notFace_of_selects (args := #[]) (mvT hZ (ww hw 25 rfl))) (mvT hZ (ww hw 25 rfl)) (mvT hZ (ww hw 24 rfl)) (by decide) (backOf (W := 0) (rm4 l Z av0 hw [] rd (3 : Int32) (4 : Int32) T11.heap n0 SZ11 QF11_1 QF11_2) hZ (ww hw 26 rfl) (ww hw 4 rfl) (by decide) (by decide)) q12a q12c (g := (mkF m 365 #[s0, s1, s2, s3, s4, s5, s6, s7, .val (.int rr), s9, s10, s11, .val (.int (1 : Int32)), .val (.ref rd), .val (.int (4 : Int32)), .val (.int (3 : Int32)), .val (.int (2 : Int32)), s17] [(.ref rd)])) rfl (by rw [hml]; rfl) (Steps.refl _) (argsL := []) (rest := []) (lenOf pd_3 rfl) rfl (Nat.le_refl _) (dd at_365) (fun _ _ => ⟨rfl, rfl, (by decide : 2 + 0 ≤ _), (by decide : 8 + 0 ≤ _)⟩)
      dsimp only [Pt.U, Pt.locs, Pt.cells, Pt.slots, Q_rm4] at X12 l12 y12 z12 st12 hQ12
      subst l12 y12 z12
      rw [show (fHM rd (3 : Int32) (4 : Int32)) = (1 : Int32) from (by unfold fHM; rw [if_pos (by decide : (3 : Int32) < (4 : Int32))]; try decide)] at hQ12
      obtain ⟨rfl, N12q, e12⟩ := hQ12
      have N12 := Fr.app N11 N12q
      refine Gz.tr st12 ?_
      refine Gz.iload 370 X12 hx (dd at_368) rfl rfl ?_
      refine Gz.iload 372 X12 hx (dd at_370) rfl rfl ?_
      refine Gz.icmpNo 375 X12 hx (dd at_372) (tlt (by decide : (3 : Int32) < (4 : Int32))).2.1 rfl ?_
      refine Gz.iconst 376 (1 : Int32) X12 hx (dd at_375) rfl rfl ?_
      refine Gz.goto 380 X12 hx (dd at_376) (by decide) (by decide) ?_
      refine Gz.icmpNo 383 X12 hx (dd at_380) (teq (by decide : (1 : Int32) = (1 : Int32))).2 rfl ?_
      refine Gz.iconst 384 (1 : Int32) X12 hx (dd at_383) rfl rfl ?_
      refine Gz.goto 388 X12 hx (dd at_384) (by decide) (by decide) ?_
      refine Gz.istore 390 #[s0, s1, s2, s3, s4, s5, s6, s7, .val (.int rr), s9, s10, s11, .val (.int (1 : Int32)), .val (.ref rd), .val (.int (4 : Int32)), .val (.int (3 : Int32)), .val (.int (2 : Int32)), s17] X12 hx (dd at_388) rfl rfl ?_
      refine Gz.iload 392 X12 hx (dd at_390) rfl rfl ?_
      refine Gz.iconst 393 (3 : Int32) X12 hx (dd at_392) rfl rfl ?_
      by_cases hc13 : rr < (3 : Int32)
      · refine Gz.icmpYes 449 X12 hx (dd at_393) (tlt hc13).1 (by decide) (by decide) ?_
        refine Gz.iload 451 X12 hx (dd at_449) rfl rfl ?_
        refine Gz.fin X12 (v := some (.int (1 : Int32))) (fun h => by rw [hret] at h; cases h) hlk (by decide) (by decide) (fun fs hr => retN X12 hx (t := .boolean) hret (by simp) (dd at_451) hr) ?_
        exact ⟨rfl, N12⟩
      · refine Gz.icmpNo 396 X12 hx (dd at_393) (flt hc13).1 rfl ?_
        refine Gz.iload 398 X12 hx (dd at_396) rfl rfl ?_
        refine Gz.ifNo 401 X12 hx (dd at_398) ((if0 _ _).trans (tlt (by decide : (0 : Int32) < (3 : Int32))).2.2.2) rfl ?_
        refine Gz.iload 403 X12 hx (dd at_401) rfl rfl ?_
        refine Gz.iload 405 X12 hx (dd at_403) rfl rfl ?_
        refine Gz.icmpNo 408 X12 hx (dd at_405) (tlt (by decide : (3 : Int32) < (4 : Int32))).2.1 rfl ?_
        refine Gz.aload 410 X12 hx (dd at_408) rfl rfl rfl ?_
        obtain ⟨c14, A14, q14, S14, N14, H14, G14⟩ := id f11_V_ba
        have hin15 : ¬ ((3 : Int32) < 0 ∨ c14.slots.size ≤ ((3 : Int32)).toNatClampNeg) := inb_of S14 ⟨by decide, by decide⟩
        have hat15 : c14.slots[((3 : Int32)).toNatClampNeg]? = some (.int w3) := Has.at H14 hin15 rfl
        obtain ⟨cq16, kq16, q16a, q16b, q16c⟩ := isOf hZ e12 QE11_0
        obtain ⟨_, _, ⟨T16, L16, k16, n16⟩, -, X16, ⟨Lc16, hQ16, l16, y16, z16⟩, st16⟩ := X12.virtualBack hx (y := ym1) (z := ym1) hown (mvT hZ (ww hw 27 rfl)) (mvT hZ (ww hw 28 rfl)) (notFace_of_selects (args := #[]) (mvT hZ (ww hw 30 rfl))) (mvT hZ (ww hw 30 rfl)) (mvT hZ (ww hw 29 rfl)) (by decide) (backOf (W := 0) (rmV1 l Z av0 hw [] rd ba (3 : Int32) (4 : Int32) c14 w3 T11.heap n0 SZ11 QE11_0 QF11_0 QF11_1 QF11_2 g_rd A14 ne_ba_rd hin15 hat15 (by decide : ¬ ((3 : Int32) = (4 : Int32))) hw3) hZ (ww hw 31 rfl) (ww hw 4 rfl) (by decide) (by decide)) q16a q16c (g := (mkF m 410 #[s0, s1, s2, s3, s4, s5, s6, s7, .val (.int rr), s9, s10, s11, .val (.int (1 : Int32)), .val (.ref rd), .val (.int (4 : Int32)), .val (.int (3 : Int32)), .val (.int (2 : Int32)), s17] [(.ref rd)])) rfl (by rw [hml]; rfl) (Steps.refl _) (argsL := []) (rest := []) (lenOf pd_1 rfl) rfl (Nat.le_refl _) (dd at_410) (fun _ _ => ⟨rfl, e12, (by decide : 2 + 0 ≤ _), (by decide : 8 + 0 ≤ _)⟩)
        dsimp only [Pt.U, Pt.locs, Pt.cells, Pt.slots, Q_rmV1] at X16 l16 y16 z16 st16 hQ16
        subst l16 y16 z16
        obtain ⟨rfl, N16q, K16q, QE16_0, QF16_0, QF16_1, QF16_2⟩ := hQ16
        have N16 := Fr.app N12 N16q
        have f16_E_rd := Exa.keep QE11_0 K16q
        have f16_V_ba := Arv.keep f11_V_ba K16q (ninS ne_ba_rd nin0)
        have SZ16 := Nat.le_trans SZ11 K16q.1
        replace QF16_1 : Fld Z T16.heap rd "com/example/bad_status/badstatus/model/ProtoReader" "position" "I" (.int (4 : Int32)) := QF16_1
        refine Gz.tr st16 ?_
        refine Gz.st (S' := (T16.setTop (mkF m 414 #[s0, s1, s2, s3, s4, s5, s6, s7, .val (.int rr), s9, s10, s11, .val (.int (1 : Int32)), .val (.ref rd), .val (.int (4 : Int32)), .val (.int (3 : Int32)), .val (.int (2 : Int32)), s17] []))) (fun t k => by jvm_step X16.here [X16.here.top, hx, (dd at_413), Value.category]; exact k) ?_
        refine Gz.iinc 417 #[s0, s1, s2, s3, s4, s5, s6, s7, .val (.int rr), s9, s10, s11, .val (.int (1 : Int32)), .val (.ref rd), .val (.int (4 : Int32)), .val (.int (4 : Int32)), .val (.int (2 : Int32)), s17] X16 hx (dd at_414) rfl rfl rfl ?_
        refine Gz.iload 419 X16 hx (dd at_417) rfl rfl ?_
        refine Gz.ifNo 422 X16 hx (dd at_419) ((if0 _ _).trans (feq (by decide : ¬ ((1 : Int32) = (0 : Int32)))).1) rfl ?_
        refine Gz.aload 424 X16 hx (dd at_422) rfl rfl rfl ?_
        obtain ⟨cq17, kq17, q17a, q17b, q17c⟩ := isOf hZ rfl QE16_0
        obtain ⟨_, _, ⟨T17, L17, k17, n17⟩, -, X17, ⟨Lc17, hQ17, l17, y17, z17⟩, st17⟩ := X16.virtualBack hx (y := ym3) (z := ym3) hown (mvT hZ (ww hw 22 rfl)) (mvT hZ (ww hw 23 rfl)) (notFace_of_selects (args := #[]) (mvT hZ (ww hw 25 rfl))) (mvT hZ (ww hw 25 rfl)) (mvT hZ (ww hw 24 rfl)) (by decide) (backOf (W := 0) (rm4 l Z av0 hw [] rd (4 : Int32) (4 : Int32) T16.heap n0 SZ16 QF16_1 QF16_2) hZ (ww hw 26 rfl) (ww hw 4 rfl) (by decide) (by decide)) q17a q17c (g := (mkF m 424 #[s0, s1, s2, s3, s4, s5, s6, s7, .val (.int rr), s9, s10, s11, .val (.int (1 : Int32)), .val (.ref rd), .val (.int (4 : Int32)), .val (.int (4 : Int32)), .val (.int (2 : Int32)), s17] [(.ref rd)])) rfl (by rw [hml]; rfl) (Steps.refl _) (argsL := []) (rest := []) (lenOf pd_3 rfl) rfl (Nat.le_refl _) (dd at_424) (fun _ _ => ⟨rfl, rfl, (by decide : 2 + 0 ≤ _), (by decide : 8 + 0 ≤ _)⟩)
        dsimp only [Pt.U, Pt.locs, Pt.cells, Pt.slots, Q_rm4] at X17 l17 y17 z17 st17 hQ17
        subst l17 y17 z17
        rw [show (fHM rd (4 : Int32) (4 : Int32)) = (0 : Int32) from (by unfold fHM; rw [if_neg (by decide : ¬ ((4 : Int32) < (4 : Int32)))]; try decide)] at hQ17
        obtain ⟨rfl, N17q, e17⟩ := hQ17
        have N17 := Fr.app N16 N17q
        refine Gz.tr st17 ?_
        refine Gz.iload 429 X17 hx (dd at_427) rfl rfl ?_
        refine Gz.iload 431 X17 hx (dd at_429) rfl rfl ?_
        refine Gz.icmpYes 438 X17 hx (dd at_431) (flt (by decide : ¬ ((4 : Int32) < (4 : Int32)))).2.1 (by decide) (by decide) ?_
        refine Gz.iconst 439 (0 : Int32) X17 hx (dd at_438) rfl rfl ?_
        refine Gz.icmpNo 442 X17 hx (dd at_439) (teq (by decide : (0 : Int32) = (0 : Int32))).2 rfl ?_
        refine Gz.iconst 443 (1 : Int32) X17 hx (dd at_442) rfl rfl ?_
        refine Gz.goto 447 X17 hx (dd at_443) (by decide) (by decide) ?_
        refine Gz.istore 449 #[s0, s1, s2, s3, s4, s5, s6, s7, .val (.int rr), s9, s10, s11, .val (.int (1 : Int32)), .val (.ref rd), .val (.int (4 : Int32)), .val (.int (4 : Int32)), .val (.int (2 : Int32)), s17] X17 hx (dd at_447) rfl rfl ?_
        refine Gz.iload 451 X17 hx (dd at_449) rfl rfl ?_
        refine Gz.fin X17 (v := some (.int (1 : Int32))) (fun h => by rw [hret] at h; cases h) hlk (by decide) (by decide) (fun fs hr => retN X17 hx (t := .boolean) hret (by simp) (dd at_451) hr) ?_
        exact ⟨rfl, N17⟩
set_option maxRecDepth 65536 in
set_option maxHeartbeats 40000000 in
theorem sg_4_0_1 {p : Program} {l : Launch} {e : Env} {s : State} {m : MethodId} {args : Array Value} {below : List Frame} {meth : Method} {c : Code} {T0 : State} {locs : List Loc} {Z : State} {av0 : Array Value} {hS : Heap} (s0 : Slot) (s1 : Slot) (s2 : Slot) (s3 : Slot) (s4 : Slot) (s5 : Slot) (s6 : Slot) (s7 : Slot) (rr : Int32) (s9 : Slot) (s10 : Slot) (s11 : Slot) (rd : Addr) (s17 : Slot) (ba : Addr) (k_ba : ClassId) (w1 : Int32) (w2 : Int32) (w3 : Int32) (n0 : Nat)
    (X0 : Stand p l e room_1 s m args below meth c T0 locs 3 12) (hx : p.tables.exec = Jvm.exec) (hZ : Z.Warmed39 s.vm) (hw : ∀ d ∈ tables_1, d.before av0 Z = true) (hby : c.code = code) (hml : c.maxLocals = 18) (hown : s.vm.findClass "com/example/bad_status/badstatus/model/ProtoReaderHasMorePinLaw" = some m.cls) (hret : meth.sig.returnType = some .boolean) (hlk : meth.locks = false) (e0 : T0.heap = hS) (N0 : Fr n0 locs) (Z0 : n0 ≤ hS.size) (E_rd : Exa Z hS rd "com/example/bad_status/badstatus/model/ProtoReader") (F_bytes_rd : Fld Z hS rd "com/example/bad_status/badstatus/model/ProtoReader" "bytes" "[B" (.ref ba)) (F_position_rd : Fld Z hS rd "com/example/bad_status/badstatus/model/ProtoReader" "position" "I" (.int (1 : Int32))) (F_end_rd : Fld Z hS rd "com/example/bad_status/badstatus/model/ProtoReader" "end" "I" (.int (1 : Int32))) (g_rd : n0 ≤ rd) (V_ba : Arv Z hS ba k_ba .byte (4 : Int32) [(.int (0 : Int32)), (.int w1), (.int w2), (.int w3)] (.int (0 : Int32))) (ne_ba_rd : ba ≠ rd) (hw1 : ¬ (w1 < (0 : Int32))) (hw2 : ¬ (w2 < (0 : Int32))) (hw3 : ¬ (w3 < (0 : Int32))) :
    Gz p e below s 16 128 (Q_law n0) (T0.setTop (mkF m 240 #[s0, s1, s2, s3, s4, s5, s6, s7, .val (.int rr), s9, s10, s11, .val (.int (1 : Int32)), .val (.ref rd), .val (.int (0 : Int32)), .val (.int (0 : Int32)), .val (.int (1 : Int32)), s17] [])) := by
  have dd : ∀ {pc : Nat} {r : Except DecodeError (Instr × Nat)}, decode code pc = r → decode c.code pc = r := fun q => hb hby q
  refine Gz.iload 242 X0 hx (dd at_240) rfl rfl ?_
  refine Gz.ifNo 245 X0 hx (dd at_242) ((if0 _ _).trans (feq (by decide : ¬ ((1 : Int32) = (0 : Int32)))).1) rfl ?_
  refine Gz.aload 247 X0 hx (dd at_245) rfl rfl rfl ?_
  obtain ⟨cq1, kq1, q1a, q1b, q1c⟩ := isOf hZ e0 E_rd
  obtain ⟨_, _, ⟨T1, L1, k1, n1⟩, -, X1, ⟨Lc1, hQ1, l1, y1, z1⟩, st1⟩ := X0.virtualBack hx (y := ym3) (z := ym3) hown (mvT hZ (ww hw 22 rfl)) (mvT hZ (ww hw 23 rfl)) (notFace_of_selects (args := #[]) (mvT hZ (ww hw 25 rfl))) (mvT hZ (ww hw 25 rfl)) (mvT hZ (ww hw 24 rfl)) (by decide) (backOf (W := 0) (rm4 l Z av0 hw [] rd (1 : Int32) (1 : Int32) hS n0 Z0 F_position_rd F_end_rd) hZ (ww hw 26 rfl) (ww hw 4 rfl) (by decide) (by decide)) q1a q1c (g := (mkF m 247 #[s0, s1, s2, s3, s4, s5, s6, s7, .val (.int rr), s9, s10, s11, .val (.int (1 : Int32)), .val (.ref rd), .val (.int (0 : Int32)), .val (.int (0 : Int32)), .val (.int (1 : Int32)), s17] [(.ref rd)])) rfl (by rw [hml]; rfl) (Steps.refl _) (argsL := []) (rest := []) (lenOf pd_3 rfl) rfl (Nat.le_refl _) (dd at_247) (fun _ _ => ⟨rfl, e0, (by decide : 3 + 0 ≤ _), (by decide : 12 + 0 ≤ _)⟩)
  dsimp only [Pt.U, Pt.locs, Pt.cells, Pt.slots, Q_rm4] at X1 l1 y1 z1 st1 hQ1
  subst l1 y1 z1
  rw [show (fHM rd (1 : Int32) (1 : Int32)) = (0 : Int32) from (by unfold fHM; rw [if_neg (by decide : ¬ ((1 : Int32) < (1 : Int32)))]; try decide)] at hQ1
  obtain ⟨rfl, N1q, e1⟩ := hQ1
  have N1 := Fr.app N0 N1q
  refine Gz.tr st1 ?_
  refine Gz.iload 252 X1 hx (dd at_250) rfl rfl ?_
  refine Gz.ifYes 259 X1 hx (dd at_252) ((if0 _ _).trans (flt (by decide : ¬ ((0 : Int32) < (0 : Int32)))).2.2.2) (by decide) (by decide) ?_
  refine Gz.iconst 260 (0 : Int32) X1 hx (dd at_259) rfl rfl ?_
  refine Gz.icmpNo 263 X1 hx (dd at_260) (teq (by decide : (0 : Int32) = (0 : Int32))).2 rfl ?_
  refine Gz.iconst 264 (1 : Int32) X1 hx (dd at_263) rfl rfl ?_
  refine Gz.goto 268 X1 hx (dd at_264) (by decide) (by decide) ?_
  refine Gz.istore 270 #[s0, s1, s2, s3, s4, s5, s6, s7, .val (.int rr), s9, s10, s11, .val (.int (1 : Int32)), .val (.ref rd), .val (.int (0 : Int32)), .val (.int (0 : Int32)), .val (.int (1 : Int32)), s17] X1 hx (dd at_268) rfl rfl ?_
  refine Gz.iload 272 X1 hx (dd at_270) rfl rfl ?_
  refine Gz.iconst 273 (1 : Int32) X1 hx (dd at_272) rfl rfl ?_
  by_cases hc2 : rr < (1 : Int32)
  · refine Gz.icmpYes 331 X1 hx (dd at_273) (tlt hc2).1 (by decide) (by decide) ?_
    refine Gz.iload 333 X1 hx (dd at_331) rfl rfl ?_
    refine Gz.iconst 334 (2 : Int32) X1 hx (dd at_333) rfl rfl ?_
    refine Gz.icmpYes 390 X1 hx (dd at_334) (tlt (own_ALt32 hc2 (by decide) : rr < (2 : Int32))).1 (by decide) (by decide) ?_
    refine Gz.iload 392 X1 hx (dd at_390) rfl rfl ?_
    refine Gz.iconst 393 (3 : Int32) X1 hx (dd at_392) rfl rfl ?_
    refine Gz.icmpYes 449 X1 hx (dd at_393) (tlt (own_ALt32 hc2 (by decide) : rr < (3 : Int32))).1 (by decide) (by decide) ?_
    refine Gz.iload 451 X1 hx (dd at_449) rfl rfl ?_
    refine Gz.fin X1 (v := some (.int (1 : Int32))) (fun h => by rw [hret] at h; cases h) hlk (by decide) (by decide) (fun fs hr => retN X1 hx (t := .boolean) hret (by simp) (dd at_451) hr) ?_
    exact ⟨rfl, N1⟩
  · refine Gz.icmpNo 276 X1 hx (dd at_273) (flt hc2).1 rfl ?_
    refine Gz.iload 278 X1 hx (dd at_276) rfl rfl ?_
    refine Gz.iload 280 X1 hx (dd at_278) rfl rfl ?_
    refine Gz.iaddV 281 (1 : Int32) X1 hx (dd at_280) rfl rfl ?_
    refine Gz.iload 283 X1 hx (dd at_281) rfl rfl ?_
    refine Gz.icmpYes 331 X1 hx (dd at_283) (tlt (by decide : (0 : Int32) < (1 : Int32))).2.2.1 (by decide) (by decide) ?_
    refine Gz.iload 333 X1 hx (dd at_331) rfl rfl ?_
    refine Gz.iconst 334 (2 : Int32) X1 hx (dd at_333) rfl rfl ?_
    by_cases hc3 : rr < (2 : Int32)
    · refine Gz.icmpYes 390 X1 hx (dd at_334) (tlt hc3).1 (by decide) (by decide) ?_
      refine Gz.iload 392 X1 hx (dd at_390) rfl rfl ?_
      refine Gz.iconst 393 (3 : Int32) X1 hx (dd at_392) rfl rfl ?_
      refine Gz.icmpYes 449 X1 hx (dd at_393) (tlt (own_ALt32 hc3 (by decide) : rr < (3 : Int32))).1 (by decide) (by decide) ?_
      refine Gz.iload 451 X1 hx (dd at_449) rfl rfl ?_
      refine Gz.fin X1 (v := some (.int (1 : Int32))) (fun h => by rw [hret] at h; cases h) hlk (by decide) (by decide) (fun fs hr => retN X1 hx (t := .boolean) hret (by simp) (dd at_451) hr) ?_
      exact ⟨rfl, N1⟩
    · refine Gz.icmpNo 337 X1 hx (dd at_334) (flt hc3).1 rfl ?_
      refine Gz.iload 339 X1 hx (dd at_337) rfl rfl ?_
      refine Gz.ifYes 390 X1 hx (dd at_339) ((if0 _ _).trans (flt (by decide : ¬ ((0 : Int32) < (0 : Int32)))).2.2.2) (by decide) (by decide) ?_
      refine Gz.iload 392 X1 hx (dd at_390) rfl rfl ?_
      refine Gz.iconst 393 (3 : Int32) X1 hx (dd at_392) rfl rfl ?_
      by_cases hc4 : rr < (3 : Int32)
      · refine Gz.icmpYes 449 X1 hx (dd at_393) (tlt hc4).1 (by decide) (by decide) ?_
        refine Gz.iload 451 X1 hx (dd at_449) rfl rfl ?_
        refine Gz.fin X1 (v := some (.int (1 : Int32))) (fun h => by rw [hret] at h; cases h) hlk (by decide) (by decide) (fun fs hr => retN X1 hx (t := .boolean) hret (by simp) (dd at_451) hr) ?_
        exact ⟨rfl, N1⟩
      · refine Gz.icmpNo 396 X1 hx (dd at_393) (flt hc4).1 rfl ?_
        refine Gz.iload 398 X1 hx (dd at_396) rfl rfl ?_
        refine Gz.ifYes 449 X1 hx (dd at_398) ((if0 _ _).trans (flt (by decide : ¬ ((0 : Int32) < (0 : Int32)))).2.2.2) (by decide) (by decide) ?_
        refine Gz.iload 451 X1 hx (dd at_449) rfl rfl ?_
        refine Gz.fin X1 (v := some (.int (1 : Int32))) (fun h => by rw [hret] at h; cases h) hlk (by decide) (by decide) (fun fs hr => retN X1 hx (t := .boolean) hret (by simp) (dd at_451) hr) ?_
        exact ⟨rfl, N1⟩
set_option maxRecDepth 65536 in
set_option maxHeartbeats 40000000 in
theorem sg_4_1_1 {p : Program} {l : Launch} {e : Env} {s : State} {m : MethodId} {args : Array Value} {below : List Frame} {meth : Method} {c : Code} {T0 : State} {locs : List Loc} {Z : State} {av0 : Array Value} {hS : Heap} (s0 : Slot) (s1 : Slot) (s2 : Slot) (s3 : Slot) (s4 : Slot) (s5 : Slot) (s6 : Slot) (s7 : Slot) (rr : Int32) (s9 : Slot) (s10 : Slot) (s11 : Slot) (rd : Addr) (s17 : Slot) (ba : Addr) (k_ba : ClassId) (w1 : Int32) (w2 : Int32) (w3 : Int32) (n0 : Nat)
    (X0 : Stand p l e room_1 s m args below meth c T0 locs 3 12) (hx : p.tables.exec = Jvm.exec) (hZ : Z.Warmed39 s.vm) (hw : ∀ d ∈ tables_1, d.before av0 Z = true) (hby : c.code = code) (hml : c.maxLocals = 18) (hown : s.vm.findClass "com/example/bad_status/badstatus/model/ProtoReaderHasMorePinLaw" = some m.cls) (hret : meth.sig.returnType = some .boolean) (hlk : meth.locks = false) (e0 : T0.heap = hS) (N0 : Fr n0 locs) (Z0 : n0 ≤ hS.size) (E_rd : Exa Z hS rd "com/example/bad_status/badstatus/model/ProtoReader") (F_bytes_rd : Fld Z hS rd "com/example/bad_status/badstatus/model/ProtoReader" "bytes" "[B" (.ref ba)) (F_position_rd : Fld Z hS rd "com/example/bad_status/badstatus/model/ProtoReader" "position" "I" (.int (1 : Int32))) (F_end_rd : Fld Z hS rd "com/example/bad_status/badstatus/model/ProtoReader" "end" "I" (.int (2 : Int32))) (g_rd : n0 ≤ rd) (V_ba : Arv Z hS ba k_ba .byte (4 : Int32) [(.int (1 : Int32)), (.int w1), (.int w2), (.int w3)] (.int (0 : Int32))) (ne_ba_rd : ba ≠ rd) (hw1 : ¬ (w1 < (0 : Int32))) (hw2 : ¬ (w2 < (0 : Int32))) (hw3 : ¬ (w3 < (0 : Int32))) :
    Gz p e below s 16 128 (Q_law n0) (T0.setTop (mkF m 240 #[s0, s1, s2, s3, s4, s5, s6, s7, .val (.int rr), s9, s10, s11, .val (.int (1 : Int32)), .val (.ref rd), .val (.int (1 : Int32)), .val (.int (0 : Int32)), .val (.int (1 : Int32)), s17] [])) := by
  have dd : ∀ {pc : Nat} {r : Except DecodeError (Instr × Nat)}, decode code pc = r → decode c.code pc = r := fun q => hb hby q
  refine Gz.iload 242 X0 hx (dd at_240) rfl rfl ?_
  refine Gz.ifNo 245 X0 hx (dd at_242) ((if0 _ _).trans (feq (by decide : ¬ ((1 : Int32) = (0 : Int32)))).1) rfl ?_
  refine Gz.aload 247 X0 hx (dd at_245) rfl rfl rfl ?_
  obtain ⟨cq1, kq1, q1a, q1b, q1c⟩ := isOf hZ e0 E_rd
  obtain ⟨_, _, ⟨T1, L1, k1, n1⟩, -, X1, ⟨Lc1, hQ1, l1, y1, z1⟩, st1⟩ := X0.virtualBack hx (y := ym3) (z := ym3) hown (mvT hZ (ww hw 22 rfl)) (mvT hZ (ww hw 23 rfl)) (notFace_of_selects (args := #[]) (mvT hZ (ww hw 25 rfl))) (mvT hZ (ww hw 25 rfl)) (mvT hZ (ww hw 24 rfl)) (by decide) (backOf (W := 0) (rm4 l Z av0 hw [] rd (1 : Int32) (2 : Int32) hS n0 Z0 F_position_rd F_end_rd) hZ (ww hw 26 rfl) (ww hw 4 rfl) (by decide) (by decide)) q1a q1c (g := (mkF m 247 #[s0, s1, s2, s3, s4, s5, s6, s7, .val (.int rr), s9, s10, s11, .val (.int (1 : Int32)), .val (.ref rd), .val (.int (1 : Int32)), .val (.int (0 : Int32)), .val (.int (1 : Int32)), s17] [(.ref rd)])) rfl (by rw [hml]; rfl) (Steps.refl _) (argsL := []) (rest := []) (lenOf pd_3 rfl) rfl (Nat.le_refl _) (dd at_247) (fun _ _ => ⟨rfl, e0, (by decide : 3 + 0 ≤ _), (by decide : 12 + 0 ≤ _)⟩)
  dsimp only [Pt.U, Pt.locs, Pt.cells, Pt.slots, Q_rm4] at X1 l1 y1 z1 st1 hQ1
  subst l1 y1 z1
  rw [show (fHM rd (1 : Int32) (2 : Int32)) = (1 : Int32) from (by unfold fHM; rw [if_pos (by decide : (1 : Int32) < (2 : Int32))]; try decide)] at hQ1
  obtain ⟨rfl, N1q, e1⟩ := hQ1
  have N1 := Fr.app N0 N1q
  refine Gz.tr st1 ?_
  refine Gz.iload 252 X1 hx (dd at_250) rfl rfl ?_
  refine Gz.ifNo 255 X1 hx (dd at_252) ((if0 _ _).trans (tlt (by decide : (0 : Int32) < (1 : Int32))).2.2.2) rfl ?_
  refine Gz.iconst 256 (1 : Int32) X1 hx (dd at_255) rfl rfl ?_
  refine Gz.goto 260 X1 hx (dd at_256) (by decide) (by decide) ?_
  refine Gz.icmpNo 263 X1 hx (dd at_260) (teq (by decide : (1 : Int32) = (1 : Int32))).2 rfl ?_
  refine Gz.iconst 264 (1 : Int32) X1 hx (dd at_263) rfl rfl ?_
  refine Gz.goto 268 X1 hx (dd at_264) (by decide) (by decide) ?_
  refine Gz.istore 270 #[s0, s1, s2, s3, s4, s5, s6, s7, .val (.int rr), s9, s10, s11, .val (.int (1 : Int32)), .val (.ref rd), .val (.int (1 : Int32)), .val (.int (0 : Int32)), .val (.int (1 : Int32)), s17] X1 hx (dd at_268) rfl rfl ?_
  refine Gz.iload 272 X1 hx (dd at_270) rfl rfl ?_
  refine Gz.iconst 273 (1 : Int32) X1 hx (dd at_272) rfl rfl ?_
  by_cases hc2 : rr < (1 : Int32)
  · refine Gz.icmpYes 331 X1 hx (dd at_273) (tlt hc2).1 (by decide) (by decide) ?_
    refine Gz.iload 333 X1 hx (dd at_331) rfl rfl ?_
    refine Gz.iconst 334 (2 : Int32) X1 hx (dd at_333) rfl rfl ?_
    refine Gz.icmpYes 390 X1 hx (dd at_334) (tlt (own_ALt32 hc2 (by decide) : rr < (2 : Int32))).1 (by decide) (by decide) ?_
    refine Gz.iload 392 X1 hx (dd at_390) rfl rfl ?_
    refine Gz.iconst 393 (3 : Int32) X1 hx (dd at_392) rfl rfl ?_
    refine Gz.icmpYes 449 X1 hx (dd at_393) (tlt (own_ALt32 hc2 (by decide) : rr < (3 : Int32))).1 (by decide) (by decide) ?_
    refine Gz.iload 451 X1 hx (dd at_449) rfl rfl ?_
    refine Gz.fin X1 (v := some (.int (1 : Int32))) (fun h => by rw [hret] at h; cases h) hlk (by decide) (by decide) (fun fs hr => retN X1 hx (t := .boolean) hret (by simp) (dd at_451) hr) ?_
    exact ⟨rfl, N1⟩
  · refine Gz.icmpNo 276 X1 hx (dd at_273) (flt hc2).1 rfl ?_
    refine Gz.iload 278 X1 hx (dd at_276) rfl rfl ?_
    refine Gz.iload 280 X1 hx (dd at_278) rfl rfl ?_
    refine Gz.iaddV 281 (1 : Int32) X1 hx (dd at_280) rfl rfl ?_
    refine Gz.iload 283 X1 hx (dd at_281) rfl rfl ?_
    refine Gz.icmpNo 286 X1 hx (dd at_283) (flt (by decide : ¬ ((1 : Int32) < (1 : Int32)))).2.2.1 rfl ?_
    refine Gz.aload 288 X1 hx (dd at_286) rfl rfl rfl ?_
    obtain ⟨c3, A3, q3, S3, N3, H3, G3⟩ := id V_ba
    have hin4 : ¬ ((1 : Int32) < 0 ∨ c3.slots.size ≤ ((1 : Int32)).toNatClampNeg) := inb_of S3 ⟨by decide, by decide⟩
    have hat4 : c3.slots[((1 : Int32)).toNatClampNeg]? = some (.int w1) := Has.at H3 hin4 rfl
    obtain ⟨cq5, kq5, q5a, q5b, q5c⟩ := isOf hZ e1 E_rd
    obtain ⟨_, _, ⟨T5, L5, k5, n5⟩, -, X5, ⟨Lc5, hQ5, l5, y5, z5⟩, st5⟩ := X1.virtualBack hx (y := ym1) (z := ym1) hown (mvT hZ (ww hw 27 rfl)) (mvT hZ (ww hw 28 rfl)) (notFace_of_selects (args := #[]) (mvT hZ (ww hw 30 rfl))) (mvT hZ (ww hw 30 rfl)) (mvT hZ (ww hw 29 rfl)) (by decide) (backOf (W := 0) (rmV1 l Z av0 hw [] rd ba (1 : Int32) (2 : Int32) c3 w1 hS n0 Z0 E_rd F_bytes_rd F_position_rd F_end_rd g_rd A3 ne_ba_rd hin4 hat4 (by decide : ¬ ((1 : Int32) = (2 : Int32))) hw1) hZ (ww hw 31 rfl) (ww hw 4 rfl) (by decide) (by decide)) q5a q5c (g := (mkF m 288 #[s0, s1, s2, s3, s4, s5, s6, s7, .val (.int rr), s9, s10, s11, .val (.int (1 : Int32)), .val (.ref rd), .val (.int (1 : Int32)), .val (.int (0 : Int32)), .val (.int (1 : Int32)), s17] [(.ref rd)])) rfl (by rw [hml]; rfl) (Steps.refl _) (argsL := []) (rest := []) (lenOf pd_1 rfl) rfl (Nat.le_refl _) (dd at_288) (fun _ _ => ⟨rfl, e1, (by decide : 3 + 0 ≤ _), (by decide : 12 + 0 ≤ _)⟩)
    dsimp only [Pt.U, Pt.locs, Pt.cells, Pt.slots, Q_rmV1] at X5 l5 y5 z5 st5 hQ5
    subst l5 y5 z5
    obtain ⟨rfl, N5q, K5q, QE5_0, QF5_0, QF5_1, QF5_2⟩ := hQ5
    have N5 := Fr.app N1 N5q
    have f5_E_rd := Exa.keep E_rd K5q
    have f5_V_ba := Arv.keep V_ba K5q (ninS ne_ba_rd nin0)
    have SZ5 := Nat.le_trans Z0 K5q.1
    replace QF5_1 : Fld Z T5.heap rd "com/example/bad_status/badstatus/model/ProtoReader" "position" "I" (.int (2 : Int32)) := QF5_1
    refine Gz.tr st5 ?_
    refine Gz.st (S' := (T5.setTop (mkF m 292 #[s0, s1, s2, s3, s4, s5, s6, s7, .val (.int rr), s9, s10, s11, .val (.int (1 : Int32)), .val (.ref rd), .val (.int (1 : Int32)), .val (.int (0 : Int32)), .val (.int (1 : Int32)), s17] []))) (fun t k => by jvm_step X5.here [X5.here.top, hx, (dd at_291), Value.category]; exact k) ?_
    refine Gz.iload 294 X5 hx (dd at_292) rfl rfl ?_
    refine Gz.iload 296 X5 hx (dd at_294) rfl rfl ?_
    refine Gz.iaddV 297 (1 : Int32) X5 hx (dd at_296) rfl rfl ?_
    refine Gz.istore 299 #[s0, s1, s2, s3, s4, s5, s6, s7, .val (.int rr), s9, s10, s11, .val (.int (1 : Int32)), .val (.ref rd), .val (.int (1 : Int32)), .val (.int (1 : Int32)), .val (.int (1 : Int32)), s17] X5 hx (dd at_297) rfl rfl ?_
    refine Gz.iload 301 X5 hx (dd at_299) rfl rfl ?_
    refine Gz.ifNo 304 X5 hx (dd at_301) ((if0 _ _).trans (feq (by decide : ¬ ((1 : Int32) = (0 : Int32)))).1) rfl ?_
    refine Gz.aload 306 X5 hx (dd at_304) rfl rfl rfl ?_
    obtain ⟨cq6, kq6, q6a, q6b, q6c⟩ := isOf hZ rfl QE5_0
    obtain ⟨_, _, ⟨T6, L6, k6, n6⟩, -, X6, ⟨Lc6, hQ6, l6, y6, z6⟩, st6⟩ := X5.virtualBack hx (y := ym3) (z := ym3) hown (mvT hZ (ww hw 22 rfl)) (mvT hZ (ww hw 23 rfl)) (notFace_of_selects (args := #[]) (mvT hZ (ww hw 25 rfl))) (mvT hZ (ww hw 25 rfl)) (mvT hZ (ww hw 24 rfl)) (by decide) (backOf (W := 0) (rm4 l Z av0 hw [] rd (2 : Int32) (2 : Int32) T5.heap n0 SZ5 QF5_1 QF5_2) hZ (ww hw 26 rfl) (ww hw 4 rfl) (by decide) (by decide)) q6a q6c (g := (mkF m 306 #[s0, s1, s2, s3, s4, s5, s6, s7, .val (.int rr), s9, s10, s11, .val (.int (1 : Int32)), .val (.ref rd), .val (.int (1 : Int32)), .val (.int (1 : Int32)), .val (.int (1 : Int32)), s17] [(.ref rd)])) rfl (by rw [hml]; rfl) (Steps.refl _) (argsL := []) (rest := []) (lenOf pd_3 rfl) rfl (Nat.le_refl _) (dd at_306) (fun _ _ => ⟨rfl, rfl, (by decide : 3 + 0 ≤ _), (by decide : 12 + 0 ≤ _)⟩)
    dsimp only [Pt.U, Pt.locs, Pt.cells, Pt.slots, Q_rm4] at X6 l6 y6 z6 st6 hQ6
    subst l6 y6 z6
    rw [show (fHM rd (2 : Int32) (2 : Int32)) = (0 : Int32) from (by unfold fHM; rw [if_neg (by decide : ¬ ((2 : Int32) < (2 : Int32)))]; try decide)] at hQ6
    obtain ⟨rfl, N6q, e6⟩ := hQ6
    have N6 := Fr.app N5 N6q
    refine Gz.tr st6 ?_
    refine Gz.iload 311 X6 hx (dd at_309) rfl rfl ?_
    refine Gz.iload 313 X6 hx (dd at_311) rfl rfl ?_
    refine Gz.icmpYes 320 X6 hx (dd at_313) (flt (by decide : ¬ ((1 : Int32) < (1 : Int32)))).2.1 (by decide) (by decide) ?_
    refine Gz.iconst 321 (0 : Int32) X6 hx (dd at_320) rfl rfl ?_
    refine Gz.icmpNo 324 X6 hx (dd at_321) (teq (by decide : (0 : Int32) = (0 : Int32))).2 rfl ?_
    refine Gz.iconst 325 (1 : Int32) X6 hx (dd at_324) rfl rfl ?_
    refine Gz.goto 329 X6 hx (dd at_325) (by decide) (by decide) ?_
    refine Gz.istore 331 #[s0, s1, s2, s3, s4, s5, s6, s7, .val (.int rr), s9, s10, s11, .val (.int (1 : Int32)), .val (.ref rd), .val (.int (1 : Int32)), .val (.int (1 : Int32)), .val (.int (1 : Int32)), s17] X6 hx (dd at_329) rfl rfl ?_
    refine Gz.iload 333 X6 hx (dd at_331) rfl rfl ?_
    refine Gz.iconst 334 (2 : Int32) X6 hx (dd at_333) rfl rfl ?_
    by_cases hc7 : rr < (2 : Int32)
    · refine Gz.icmpYes 390 X6 hx (dd at_334) (tlt hc7).1 (by decide) (by decide) ?_
      refine Gz.iload 392 X6 hx (dd at_390) rfl rfl ?_
      refine Gz.iconst 393 (3 : Int32) X6 hx (dd at_392) rfl rfl ?_
      refine Gz.icmpYes 449 X6 hx (dd at_393) (tlt (own_ALt32 hc7 (by decide) : rr < (3 : Int32))).1 (by decide) (by decide) ?_
      refine Gz.iload 451 X6 hx (dd at_449) rfl rfl ?_
      refine Gz.fin X6 (v := some (.int (1 : Int32))) (fun h => by rw [hret] at h; cases h) hlk (by decide) (by decide) (fun fs hr => retN X6 hx (t := .boolean) hret (by simp) (dd at_451) hr) ?_
      exact ⟨rfl, N6⟩
    · refine Gz.icmpNo 337 X6 hx (dd at_334) (flt hc7).1 rfl ?_
      refine Gz.iload 339 X6 hx (dd at_337) rfl rfl ?_
      refine Gz.ifNo 342 X6 hx (dd at_339) ((if0 _ _).trans (tlt (by decide : (0 : Int32) < (1 : Int32))).2.2.2) rfl ?_
      refine Gz.iload 344 X6 hx (dd at_342) rfl rfl ?_
      refine Gz.iload 346 X6 hx (dd at_344) rfl rfl ?_
      refine Gz.icmpYes 390 X6 hx (dd at_346) (flt (by decide : ¬ ((1 : Int32) < (1 : Int32)))).2.1 (by decide) (by decide) ?_
      refine Gz.iload 392 X6 hx (dd at_390) rfl rfl ?_
      refine Gz.iconst 393 (3 : Int32) X6 hx (dd at_392) rfl rfl ?_
      by_cases hc8 : rr < (3 : Int32)
      · refine Gz.icmpYes 449 X6 hx (dd at_393) (tlt hc8).1 (by decide) (by decide) ?_
        refine Gz.iload 451 X6 hx (dd at_449) rfl rfl ?_
        refine Gz.fin X6 (v := some (.int (1 : Int32))) (fun h => by rw [hret] at h; cases h) hlk (by decide) (by decide) (fun fs hr => retN X6 hx (t := .boolean) hret (by simp) (dd at_451) hr) ?_
        exact ⟨rfl, N6⟩
      · refine Gz.icmpNo 396 X6 hx (dd at_393) (flt hc8).1 rfl ?_
        refine Gz.iload 398 X6 hx (dd at_396) rfl rfl ?_
        refine Gz.ifNo 401 X6 hx (dd at_398) ((if0 _ _).trans (tlt (by decide : (0 : Int32) < (1 : Int32))).2.2.2) rfl ?_
        refine Gz.iload 403 X6 hx (dd at_401) rfl rfl ?_
        refine Gz.iload 405 X6 hx (dd at_403) rfl rfl ?_
        refine Gz.icmpYes 449 X6 hx (dd at_405) (flt (by decide : ¬ ((1 : Int32) < (1 : Int32)))).2.1 (by decide) (by decide) ?_
        refine Gz.iload 451 X6 hx (dd at_449) rfl rfl ?_
        refine Gz.fin X6 (v := some (.int (1 : Int32))) (fun h => by rw [hret] at h; cases h) hlk (by decide) (by decide) (fun fs hr => retN X6 hx (t := .boolean) hret (by simp) (dd at_451) hr) ?_
        exact ⟨rfl, N6⟩
set_option maxRecDepth 65536 in
set_option maxHeartbeats 40000000 in
theorem sg_4_2_1 {p : Program} {l : Launch} {e : Env} {s : State} {m : MethodId} {args : Array Value} {below : List Frame} {meth : Method} {c : Code} {T0 : State} {locs : List Loc} {Z : State} {av0 : Array Value} {hS : Heap} (s0 : Slot) (s1 : Slot) (s2 : Slot) (s3 : Slot) (s4 : Slot) (s5 : Slot) (s6 : Slot) (s7 : Slot) (rr : Int32) (s9 : Slot) (s10 : Slot) (s11 : Slot) (rd : Addr) (s17 : Slot) (ba : Addr) (k_ba : ClassId) (w1 : Int32) (w2 : Int32) (w3 : Int32) (n0 : Nat)
    (X0 : Stand p l e room_1 s m args below meth c T0 locs 3 12) (hx : p.tables.exec = Jvm.exec) (hZ : Z.Warmed39 s.vm) (hw : ∀ d ∈ tables_1, d.before av0 Z = true) (hby : c.code = code) (hml : c.maxLocals = 18) (hown : s.vm.findClass "com/example/bad_status/badstatus/model/ProtoReaderHasMorePinLaw" = some m.cls) (hret : meth.sig.returnType = some .boolean) (hlk : meth.locks = false) (e0 : T0.heap = hS) (N0 : Fr n0 locs) (Z0 : n0 ≤ hS.size) (E_rd : Exa Z hS rd "com/example/bad_status/badstatus/model/ProtoReader") (F_bytes_rd : Fld Z hS rd "com/example/bad_status/badstatus/model/ProtoReader" "bytes" "[B" (.ref ba)) (F_position_rd : Fld Z hS rd "com/example/bad_status/badstatus/model/ProtoReader" "position" "I" (.int (1 : Int32))) (F_end_rd : Fld Z hS rd "com/example/bad_status/badstatus/model/ProtoReader" "end" "I" (.int (3 : Int32))) (g_rd : n0 ≤ rd) (V_ba : Arv Z hS ba k_ba .byte (4 : Int32) [(.int (2 : Int32)), (.int w1), (.int w2), (.int w3)] (.int (0 : Int32))) (ne_ba_rd : ba ≠ rd) (hw1 : ¬ (w1 < (0 : Int32))) (hw2 : ¬ (w2 < (0 : Int32))) (hw3 : ¬ (w3 < (0 : Int32))) :
    Gz p e below s 16 128 (Q_law n0) (T0.setTop (mkF m 240 #[s0, s1, s2, s3, s4, s5, s6, s7, .val (.int rr), s9, s10, s11, .val (.int (1 : Int32)), .val (.ref rd), .val (.int (2 : Int32)), .val (.int (0 : Int32)), .val (.int (1 : Int32)), s17] [])) := by
  have dd : ∀ {pc : Nat} {r : Except DecodeError (Instr × Nat)}, decode code pc = r → decode c.code pc = r := fun q => hb hby q
  refine Gz.iload 242 X0 hx (dd at_240) rfl rfl ?_
  refine Gz.ifNo 245 X0 hx (dd at_242) ((if0 _ _).trans (feq (by decide : ¬ ((1 : Int32) = (0 : Int32)))).1) rfl ?_
  refine Gz.aload 247 X0 hx (dd at_245) rfl rfl rfl ?_
  obtain ⟨cq1, kq1, q1a, q1b, q1c⟩ := isOf hZ e0 E_rd
  obtain ⟨_, _, ⟨T1, L1, k1, n1⟩, -, X1, ⟨Lc1, hQ1, l1, y1, z1⟩, st1⟩ := X0.virtualBack hx (y := ym3) (z := ym3) hown (mvT hZ (ww hw 22 rfl)) (mvT hZ (ww hw 23 rfl)) (notFace_of_selects (args := #[]) (mvT hZ (ww hw 25 rfl))) (mvT hZ (ww hw 25 rfl)) (mvT hZ (ww hw 24 rfl)) (by decide) (backOf (W := 0) (rm4 l Z av0 hw [] rd (1 : Int32) (3 : Int32) hS n0 Z0 F_position_rd F_end_rd) hZ (ww hw 26 rfl) (ww hw 4 rfl) (by decide) (by decide)) q1a q1c (g := (mkF m 247 #[s0, s1, s2, s3, s4, s5, s6, s7, .val (.int rr), s9, s10, s11, .val (.int (1 : Int32)), .val (.ref rd), .val (.int (2 : Int32)), .val (.int (0 : Int32)), .val (.int (1 : Int32)), s17] [(.ref rd)])) rfl (by rw [hml]; rfl) (Steps.refl _) (argsL := []) (rest := []) (lenOf pd_3 rfl) rfl (Nat.le_refl _) (dd at_247) (fun _ _ => ⟨rfl, e0, (by decide : 3 + 0 ≤ _), (by decide : 12 + 0 ≤ _)⟩)
  dsimp only [Pt.U, Pt.locs, Pt.cells, Pt.slots, Q_rm4] at X1 l1 y1 z1 st1 hQ1
  subst l1 y1 z1
  rw [show (fHM rd (1 : Int32) (3 : Int32)) = (1 : Int32) from (by unfold fHM; rw [if_pos (by decide : (1 : Int32) < (3 : Int32))]; try decide)] at hQ1
  obtain ⟨rfl, N1q, e1⟩ := hQ1
  have N1 := Fr.app N0 N1q
  refine Gz.tr st1 ?_
  refine Gz.iload 252 X1 hx (dd at_250) rfl rfl ?_
  refine Gz.ifNo 255 X1 hx (dd at_252) ((if0 _ _).trans (tlt (by decide : (0 : Int32) < (2 : Int32))).2.2.2) rfl ?_
  refine Gz.iconst 256 (1 : Int32) X1 hx (dd at_255) rfl rfl ?_
  refine Gz.goto 260 X1 hx (dd at_256) (by decide) (by decide) ?_
  refine Gz.icmpNo 263 X1 hx (dd at_260) (teq (by decide : (1 : Int32) = (1 : Int32))).2 rfl ?_
  refine Gz.iconst 264 (1 : Int32) X1 hx (dd at_263) rfl rfl ?_
  refine Gz.goto 268 X1 hx (dd at_264) (by decide) (by decide) ?_
  refine Gz.istore 270 #[s0, s1, s2, s3, s4, s5, s6, s7, .val (.int rr), s9, s10, s11, .val (.int (1 : Int32)), .val (.ref rd), .val (.int (2 : Int32)), .val (.int (0 : Int32)), .val (.int (1 : Int32)), s17] X1 hx (dd at_268) rfl rfl ?_
  refine Gz.iload 272 X1 hx (dd at_270) rfl rfl ?_
  refine Gz.iconst 273 (1 : Int32) X1 hx (dd at_272) rfl rfl ?_
  by_cases hc2 : rr < (1 : Int32)
  · refine Gz.icmpYes 331 X1 hx (dd at_273) (tlt hc2).1 (by decide) (by decide) ?_
    refine Gz.iload 333 X1 hx (dd at_331) rfl rfl ?_
    refine Gz.iconst 334 (2 : Int32) X1 hx (dd at_333) rfl rfl ?_
    refine Gz.icmpYes 390 X1 hx (dd at_334) (tlt (own_ALt32 hc2 (by decide) : rr < (2 : Int32))).1 (by decide) (by decide) ?_
    refine Gz.iload 392 X1 hx (dd at_390) rfl rfl ?_
    refine Gz.iconst 393 (3 : Int32) X1 hx (dd at_392) rfl rfl ?_
    refine Gz.icmpYes 449 X1 hx (dd at_393) (tlt (own_ALt32 hc2 (by decide) : rr < (3 : Int32))).1 (by decide) (by decide) ?_
    refine Gz.iload 451 X1 hx (dd at_449) rfl rfl ?_
    refine Gz.fin X1 (v := some (.int (1 : Int32))) (fun h => by rw [hret] at h; cases h) hlk (by decide) (by decide) (fun fs hr => retN X1 hx (t := .boolean) hret (by simp) (dd at_451) hr) ?_
    exact ⟨rfl, N1⟩
  · refine Gz.icmpNo 276 X1 hx (dd at_273) (flt hc2).1 rfl ?_
    refine Gz.iload 278 X1 hx (dd at_276) rfl rfl ?_
    refine Gz.iload 280 X1 hx (dd at_278) rfl rfl ?_
    refine Gz.iaddV 281 (1 : Int32) X1 hx (dd at_280) rfl rfl ?_
    refine Gz.iload 283 X1 hx (dd at_281) rfl rfl ?_
    refine Gz.icmpNo 286 X1 hx (dd at_283) (flt (by decide : ¬ ((2 : Int32) < (1 : Int32)))).2.2.1 rfl ?_
    refine Gz.aload 288 X1 hx (dd at_286) rfl rfl rfl ?_
    obtain ⟨c3, A3, q3, S3, N3, H3, G3⟩ := id V_ba
    have hin4 : ¬ ((1 : Int32) < 0 ∨ c3.slots.size ≤ ((1 : Int32)).toNatClampNeg) := inb_of S3 ⟨by decide, by decide⟩
    have hat4 : c3.slots[((1 : Int32)).toNatClampNeg]? = some (.int w1) := Has.at H3 hin4 rfl
    obtain ⟨cq5, kq5, q5a, q5b, q5c⟩ := isOf hZ e1 E_rd
    obtain ⟨_, _, ⟨T5, L5, k5, n5⟩, -, X5, ⟨Lc5, hQ5, l5, y5, z5⟩, st5⟩ := X1.virtualBack hx (y := ym1) (z := ym1) hown (mvT hZ (ww hw 27 rfl)) (mvT hZ (ww hw 28 rfl)) (notFace_of_selects (args := #[]) (mvT hZ (ww hw 30 rfl))) (mvT hZ (ww hw 30 rfl)) (mvT hZ (ww hw 29 rfl)) (by decide) (backOf (W := 0) (rmV1 l Z av0 hw [] rd ba (1 : Int32) (3 : Int32) c3 w1 hS n0 Z0 E_rd F_bytes_rd F_position_rd F_end_rd g_rd A3 ne_ba_rd hin4 hat4 (by decide : ¬ ((1 : Int32) = (3 : Int32))) hw1) hZ (ww hw 31 rfl) (ww hw 4 rfl) (by decide) (by decide)) q5a q5c (g := (mkF m 288 #[s0, s1, s2, s3, s4, s5, s6, s7, .val (.int rr), s9, s10, s11, .val (.int (1 : Int32)), .val (.ref rd), .val (.int (2 : Int32)), .val (.int (0 : Int32)), .val (.int (1 : Int32)), s17] [(.ref rd)])) rfl (by rw [hml]; rfl) (Steps.refl _) (argsL := []) (rest := []) (lenOf pd_1 rfl) rfl (Nat.le_refl _) (dd at_288) (fun _ _ => ⟨rfl, e1, (by decide : 3 + 0 ≤ _), (by decide : 12 + 0 ≤ _)⟩)
    dsimp only [Pt.U, Pt.locs, Pt.cells, Pt.slots, Q_rmV1] at X5 l5 y5 z5 st5 hQ5
    subst l5 y5 z5
    obtain ⟨rfl, N5q, K5q, QE5_0, QF5_0, QF5_1, QF5_2⟩ := hQ5
    have N5 := Fr.app N1 N5q
    have f5_E_rd := Exa.keep E_rd K5q
    have f5_V_ba := Arv.keep V_ba K5q (ninS ne_ba_rd nin0)
    have SZ5 := Nat.le_trans Z0 K5q.1
    replace QF5_1 : Fld Z T5.heap rd "com/example/bad_status/badstatus/model/ProtoReader" "position" "I" (.int (2 : Int32)) := QF5_1
    refine Gz.tr st5 ?_
    refine Gz.st (S' := (T5.setTop (mkF m 292 #[s0, s1, s2, s3, s4, s5, s6, s7, .val (.int rr), s9, s10, s11, .val (.int (1 : Int32)), .val (.ref rd), .val (.int (2 : Int32)), .val (.int (0 : Int32)), .val (.int (1 : Int32)), s17] []))) (fun t k => by jvm_step X5.here [X5.here.top, hx, (dd at_291), Value.category]; exact k) ?_
    refine Gz.iload 294 X5 hx (dd at_292) rfl rfl ?_
    refine Gz.iload 296 X5 hx (dd at_294) rfl rfl ?_
    refine Gz.iaddV 297 (1 : Int32) X5 hx (dd at_296) rfl rfl ?_
    refine Gz.istore 299 #[s0, s1, s2, s3, s4, s5, s6, s7, .val (.int rr), s9, s10, s11, .val (.int (1 : Int32)), .val (.ref rd), .val (.int (2 : Int32)), .val (.int (1 : Int32)), .val (.int (1 : Int32)), s17] X5 hx (dd at_297) rfl rfl ?_
    refine Gz.iload 301 X5 hx (dd at_299) rfl rfl ?_
    refine Gz.ifNo 304 X5 hx (dd at_301) ((if0 _ _).trans (feq (by decide : ¬ ((1 : Int32) = (0 : Int32)))).1) rfl ?_
    refine Gz.aload 306 X5 hx (dd at_304) rfl rfl rfl ?_
    obtain ⟨cq6, kq6, q6a, q6b, q6c⟩ := isOf hZ rfl QE5_0
    obtain ⟨_, _, ⟨T6, L6, k6, n6⟩, -, X6, ⟨Lc6, hQ6, l6, y6, z6⟩, st6⟩ := X5.virtualBack hx (y := ym3) (z := ym3) hown (mvT hZ (ww hw 22 rfl)) (mvT hZ (ww hw 23 rfl)) (notFace_of_selects (args := #[]) (mvT hZ (ww hw 25 rfl))) (mvT hZ (ww hw 25 rfl)) (mvT hZ (ww hw 24 rfl)) (by decide) (backOf (W := 0) (rm4 l Z av0 hw [] rd (2 : Int32) (3 : Int32) T5.heap n0 SZ5 QF5_1 QF5_2) hZ (ww hw 26 rfl) (ww hw 4 rfl) (by decide) (by decide)) q6a q6c (g := (mkF m 306 #[s0, s1, s2, s3, s4, s5, s6, s7, .val (.int rr), s9, s10, s11, .val (.int (1 : Int32)), .val (.ref rd), .val (.int (2 : Int32)), .val (.int (1 : Int32)), .val (.int (1 : Int32)), s17] [(.ref rd)])) rfl (by rw [hml]; rfl) (Steps.refl _) (argsL := []) (rest := []) (lenOf pd_3 rfl) rfl (Nat.le_refl _) (dd at_306) (fun _ _ => ⟨rfl, rfl, (by decide : 3 + 0 ≤ _), (by decide : 12 + 0 ≤ _)⟩)
    dsimp only [Pt.U, Pt.locs, Pt.cells, Pt.slots, Q_rm4] at X6 l6 y6 z6 st6 hQ6
    subst l6 y6 z6
    rw [show (fHM rd (2 : Int32) (3 : Int32)) = (1 : Int32) from (by unfold fHM; rw [if_pos (by decide : (2 : Int32) < (3 : Int32))]; try decide)] at hQ6
    obtain ⟨rfl, N6q, e6⟩ := hQ6
    have N6 := Fr.app N5 N6q
    refine Gz.tr st6 ?_
    refine Gz.iload 311 X6 hx (dd at_309) rfl rfl ?_
    refine Gz.iload 313 X6 hx (dd at_311) rfl rfl ?_
    refine Gz.icmpNo 316 X6 hx (dd at_313) (tlt (by decide : (1 : Int32) < (2 : Int32))).2.1 rfl ?_
    refine Gz.iconst 317 (1 : Int32) X6 hx (dd at_316) rfl rfl ?_
    refine Gz.goto 321 X6 hx (dd at_317) (by decide) (by decide) ?_
    refine Gz.icmpNo 324 X6 hx (dd at_321) (teq (by decide : (1 : Int32) = (1 : Int32))).2 rfl ?_
    refine Gz.iconst 325 (1 : Int32) X6 hx (dd at_324) rfl rfl ?_
    refine Gz.goto 329 X6 hx (dd at_325) (by decide) (by decide) ?_
    refine Gz.istore 331 #[s0, s1, s2, s3, s4, s5, s6, s7, .val (.int rr), s9, s10, s11, .val (.int (1 : Int32)), .val (.ref rd), .val (.int (2 : Int32)), .val (.int (1 : Int32)), .val (.int (1 : Int32)), s17] X6 hx (dd at_329) rfl rfl ?_
    refine Gz.iload 333 X6 hx (dd at_331) rfl rfl ?_
    refine Gz.iconst 334 (2 : Int32) X6 hx (dd at_333) rfl rfl ?_
    by_cases hc7 : rr < (2 : Int32)
    · refine Gz.icmpYes 390 X6 hx (dd at_334) (tlt hc7).1 (by decide) (by decide) ?_
      refine Gz.iload 392 X6 hx (dd at_390) rfl rfl ?_
      refine Gz.iconst 393 (3 : Int32) X6 hx (dd at_392) rfl rfl ?_
      refine Gz.icmpYes 449 X6 hx (dd at_393) (tlt (own_ALt32 hc7 (by decide) : rr < (3 : Int32))).1 (by decide) (by decide) ?_
      refine Gz.iload 451 X6 hx (dd at_449) rfl rfl ?_
      refine Gz.fin X6 (v := some (.int (1 : Int32))) (fun h => by rw [hret] at h; cases h) hlk (by decide) (by decide) (fun fs hr => retN X6 hx (t := .boolean) hret (by simp) (dd at_451) hr) ?_
      exact ⟨rfl, N6⟩
    · refine Gz.icmpNo 337 X6 hx (dd at_334) (flt hc7).1 rfl ?_
      refine Gz.iload 339 X6 hx (dd at_337) rfl rfl ?_
      refine Gz.ifNo 342 X6 hx (dd at_339) ((if0 _ _).trans (tlt (by decide : (0 : Int32) < (1 : Int32))).2.2.2) rfl ?_
      refine Gz.iload 344 X6 hx (dd at_342) rfl rfl ?_
      refine Gz.iload 346 X6 hx (dd at_344) rfl rfl ?_
      refine Gz.icmpNo 349 X6 hx (dd at_346) (tlt (by decide : (1 : Int32) < (2 : Int32))).2.1 rfl ?_
      refine Gz.aload 351 X6 hx (dd at_349) rfl rfl rfl ?_
      obtain ⟨c8, A8, q8, S8, N8, H8, G8⟩ := id f5_V_ba
      have hin9 : ¬ ((2 : Int32) < 0 ∨ c8.slots.size ≤ ((2 : Int32)).toNatClampNeg) := inb_of S8 ⟨by decide, by decide⟩
      have hat9 : c8.slots[((2 : Int32)).toNatClampNeg]? = some (.int w2) := Has.at H8 hin9 rfl
      obtain ⟨cq10, kq10, q10a, q10b, q10c⟩ := isOf hZ e6 QE5_0
      obtain ⟨_, _, ⟨T10, L10, k10, n10⟩, -, X10, ⟨Lc10, hQ10, l10, y10, z10⟩, st10⟩ := X6.virtualBack hx (y := ym1) (z := ym1) hown (mvT hZ (ww hw 27 rfl)) (mvT hZ (ww hw 28 rfl)) (notFace_of_selects (args := #[]) (mvT hZ (ww hw 30 rfl))) (mvT hZ (ww hw 30 rfl)) (mvT hZ (ww hw 29 rfl)) (by decide) (backOf (W := 0) (rmV1 l Z av0 hw [] rd ba (2 : Int32) (3 : Int32) c8 w2 T5.heap n0 SZ5 QE5_0 QF5_0 QF5_1 QF5_2 g_rd A8 ne_ba_rd hin9 hat9 (by decide : ¬ ((2 : Int32) = (3 : Int32))) hw2) hZ (ww hw 31 rfl) (ww hw 4 rfl) (by decide) (by decide)) q10a q10c (g := (mkF m 351 #[s0, s1, s2, s3, s4, s5, s6, s7, .val (.int rr), s9, s10, s11, .val (.int (1 : Int32)), .val (.ref rd), .val (.int (2 : Int32)), .val (.int (1 : Int32)), .val (.int (1 : Int32)), s17] [(.ref rd)])) rfl (by rw [hml]; rfl) (Steps.refl _) (argsL := []) (rest := []) (lenOf pd_1 rfl) rfl (Nat.le_refl _) (dd at_351) (fun _ _ => ⟨rfl, e6, (by decide : 3 + 0 ≤ _), (by decide : 12 + 0 ≤ _)⟩)
      dsimp only [Pt.U, Pt.locs, Pt.cells, Pt.slots, Q_rmV1] at X10 l10 y10 z10 st10 hQ10
      subst l10 y10 z10
      obtain ⟨rfl, N10q, K10q, QE10_0, QF10_0, QF10_1, QF10_2⟩ := hQ10
      have N10 := Fr.app N6 N10q
      have f10_E_rd := Exa.keep QE5_0 K10q
      have f10_V_ba := Arv.keep f5_V_ba K10q (ninS ne_ba_rd nin0)
      have SZ10 := Nat.le_trans SZ5 K10q.1
      replace QF10_1 : Fld Z T10.heap rd "com/example/bad_status/badstatus/model/ProtoReader" "position" "I" (.int (3 : Int32)) := QF10_1
      refine Gz.tr st10 ?_
      refine Gz.st (S' := (T10.setTop (mkF m 355 #[s0, s1, s2, s3, s4, s5, s6, s7, .val (.int rr), s9, s10, s11, .val (.int (1 : Int32)), .val (.ref rd), .val (.int (2 : Int32)), .val (.int (1 : Int32)), .val (.int (1 : Int32)), s17] []))) (fun t k => by jvm_step X10.here [X10.here.top, hx, (dd at_354), Value.category]; exact k) ?_
      refine Gz.iinc 358 #[s0, s1, s2, s3, s4, s5, s6, s7, .val (.int rr), s9, s10, s11, .val (.int (1 : Int32)), .val (.ref rd), .val (.int (2 : Int32)), .val (.int (2 : Int32)), .val (.int (1 : Int32)), s17] X10 hx (dd at_355) rfl rfl rfl ?_
      refine Gz.iload 360 X10 hx (dd at_358) rfl rfl ?_
      refine Gz.ifNo 363 X10 hx (dd at_360) ((if0 _ _).trans (feq (by decide : ¬ ((1 : Int32) = (0 : Int32)))).1) rfl ?_
      refine Gz.aload 365 X10 hx (dd at_363) rfl rfl rfl ?_
      obtain ⟨cq11, kq11, q11a, q11b, q11c⟩ := isOf hZ rfl QE10_0
      obtain ⟨_, _, ⟨T11, L11, k11, n11⟩, -, X11, ⟨Lc11, hQ11, l11, y11, z11⟩, st11⟩ := X10.virtualBack hx (y := ym3) (z := ym3) hown (mvT hZ (ww hw 22 rfl)) (mvT hZ (ww hw 23 rfl)) (notFace_of_selects (args := #[]) (mvT hZ (ww hw 25 rfl))) (mvT hZ (ww hw 25 rfl)) (mvT hZ (ww hw 24 rfl)) (by decide) (backOf (W := 0) (rm4 l Z av0 hw [] rd (3 : Int32) (3 : Int32) T10.heap n0 SZ10 QF10_1 QF10_2) hZ (ww hw 26 rfl) (ww hw 4 rfl) (by decide) (by decide)) q11a q11c (g := (mkF m 365 #[s0, s1, s2, s3, s4, s5, s6, s7, .val (.int rr), s9, s10, s11, .val (.int (1 : Int32)), .val (.ref rd), .val (.int (2 : Int32)), .val (.int (2 : Int32)), .val (.int (1 : Int32)), s17] [(.ref rd)])) rfl (by rw [hml]; rfl) (Steps.refl _) (argsL := []) (rest := []) (lenOf pd_3 rfl) rfl (Nat.le_refl _) (dd at_365) (fun _ _ => ⟨rfl, rfl, (by decide : 3 + 0 ≤ _), (by decide : 12 + 0 ≤ _)⟩)
      dsimp only [Pt.U, Pt.locs, Pt.cells, Pt.slots, Q_rm4] at X11 l11 y11 z11 st11 hQ11
      subst l11 y11 z11
      rw [show (fHM rd (3 : Int32) (3 : Int32)) = (0 : Int32) from (by unfold fHM; rw [if_neg (by decide : ¬ ((3 : Int32) < (3 : Int32)))]; try decide)] at hQ11
      obtain ⟨rfl, N11q, e11⟩ := hQ11
      have N11 := Fr.app N10 N11q
      refine Gz.tr st11 ?_
      refine Gz.iload 370 X11 hx (dd at_368) rfl rfl ?_
      refine Gz.iload 372 X11 hx (dd at_370) rfl rfl ?_
      refine Gz.icmpYes 379 X11 hx (dd at_372) (flt (by decide : ¬ ((2 : Int32) < (2 : Int32)))).2.1 (by decide) (by decide) ?_
      refine Gz.iconst 380 (0 : Int32) X11 hx (dd at_379) rfl rfl ?_
      refine Gz.icmpNo 383 X11 hx (dd at_380) (teq (by decide : (0 : Int32) = (0 : Int32))).2 rfl ?_
      refine Gz.iconst 384 (1 : Int32) X11 hx (dd at_383) rfl rfl ?_
      refine Gz.goto 388 X11 hx (dd at_384) (by decide) (by decide) ?_
      refine Gz.istore 390 #[s0, s1, s2, s3, s4, s5, s6, s7, .val (.int rr), s9, s10, s11, .val (.int (1 : Int32)), .val (.ref rd), .val (.int (2 : Int32)), .val (.int (2 : Int32)), .val (.int (1 : Int32)), s17] X11 hx (dd at_388) rfl rfl ?_
      refine Gz.iload 392 X11 hx (dd at_390) rfl rfl ?_
      refine Gz.iconst 393 (3 : Int32) X11 hx (dd at_392) rfl rfl ?_
      by_cases hc12 : rr < (3 : Int32)
      · refine Gz.icmpYes 449 X11 hx (dd at_393) (tlt hc12).1 (by decide) (by decide) ?_
        refine Gz.iload 451 X11 hx (dd at_449) rfl rfl ?_
        refine Gz.fin X11 (v := some (.int (1 : Int32))) (fun h => by rw [hret] at h; cases h) hlk (by decide) (by decide) (fun fs hr => retN X11 hx (t := .boolean) hret (by simp) (dd at_451) hr) ?_
        exact ⟨rfl, N11⟩
      · refine Gz.icmpNo 396 X11 hx (dd at_393) (flt hc12).1 rfl ?_
        refine Gz.iload 398 X11 hx (dd at_396) rfl rfl ?_
        refine Gz.ifNo 401 X11 hx (dd at_398) ((if0 _ _).trans (tlt (by decide : (0 : Int32) < (2 : Int32))).2.2.2) rfl ?_
        refine Gz.iload 403 X11 hx (dd at_401) rfl rfl ?_
        refine Gz.iload 405 X11 hx (dd at_403) rfl rfl ?_
        refine Gz.icmpYes 449 X11 hx (dd at_405) (flt (by decide : ¬ ((2 : Int32) < (2 : Int32)))).2.1 (by decide) (by decide) ?_
        refine Gz.iload 451 X11 hx (dd at_449) rfl rfl ?_
        refine Gz.fin X11 (v := some (.int (1 : Int32))) (fun h => by rw [hret] at h; cases h) hlk (by decide) (by decide) (fun fs hr => retN X11 hx (t := .boolean) hret (by simp) (dd at_451) hr) ?_
        exact ⟨rfl, N11⟩
set_option maxRecDepth 65536 in
set_option maxHeartbeats 40000000 in
theorem sg_4_3_1 {p : Program} {l : Launch} {e : Env} {s : State} {m : MethodId} {args : Array Value} {below : List Frame} {meth : Method} {c : Code} {T0 : State} {locs : List Loc} {Z : State} {av0 : Array Value} {hS : Heap} (s0 : Slot) (s1 : Slot) (s2 : Slot) (s3 : Slot) (s4 : Slot) (s5 : Slot) (s6 : Slot) (s7 : Slot) (rr : Int32) (s9 : Slot) (s10 : Slot) (s11 : Slot) (rd : Addr) (s17 : Slot) (ba : Addr) (k_ba : ClassId) (w1 : Int32) (w2 : Int32) (w3 : Int32) (n0 : Nat)
    (X0 : Stand p l e room_1 s m args below meth c T0 locs 3 12) (hx : p.tables.exec = Jvm.exec) (hZ : Z.Warmed39 s.vm) (hw : ∀ d ∈ tables_1, d.before av0 Z = true) (hby : c.code = code) (hml : c.maxLocals = 18) (hown : s.vm.findClass "com/example/bad_status/badstatus/model/ProtoReaderHasMorePinLaw" = some m.cls) (hret : meth.sig.returnType = some .boolean) (hlk : meth.locks = false) (e0 : T0.heap = hS) (N0 : Fr n0 locs) (Z0 : n0 ≤ hS.size) (E_rd : Exa Z hS rd "com/example/bad_status/badstatus/model/ProtoReader") (F_bytes_rd : Fld Z hS rd "com/example/bad_status/badstatus/model/ProtoReader" "bytes" "[B" (.ref ba)) (F_position_rd : Fld Z hS rd "com/example/bad_status/badstatus/model/ProtoReader" "position" "I" (.int (1 : Int32))) (F_end_rd : Fld Z hS rd "com/example/bad_status/badstatus/model/ProtoReader" "end" "I" (.int (4 : Int32))) (g_rd : n0 ≤ rd) (V_ba : Arv Z hS ba k_ba .byte (4 : Int32) [(.int (3 : Int32)), (.int w1), (.int w2), (.int w3)] (.int (0 : Int32))) (ne_ba_rd : ba ≠ rd) (hw1 : ¬ (w1 < (0 : Int32))) (hw2 : ¬ (w2 < (0 : Int32))) (hw3 : ¬ (w3 < (0 : Int32))) :
    Gz p e below s 16 128 (Q_law n0) (T0.setTop (mkF m 240 #[s0, s1, s2, s3, s4, s5, s6, s7, .val (.int rr), s9, s10, s11, .val (.int (1 : Int32)), .val (.ref rd), .val (.int (3 : Int32)), .val (.int (0 : Int32)), .val (.int (1 : Int32)), s17] [])) := by
  have dd : ∀ {pc : Nat} {r : Except DecodeError (Instr × Nat)}, decode code pc = r → decode c.code pc = r := fun q => hb hby q
  refine Gz.iload 242 X0 hx (dd at_240) rfl rfl ?_
  refine Gz.ifNo 245 X0 hx (dd at_242) ((if0 _ _).trans (feq (by decide : ¬ ((1 : Int32) = (0 : Int32)))).1) rfl ?_
  refine Gz.aload 247 X0 hx (dd at_245) rfl rfl rfl ?_
  obtain ⟨cq1, kq1, q1a, q1b, q1c⟩ := isOf hZ e0 E_rd
  obtain ⟨_, _, ⟨T1, L1, k1, n1⟩, -, X1, ⟨Lc1, hQ1, l1, y1, z1⟩, st1⟩ := X0.virtualBack hx (y := ym3) (z := ym3) hown (mvT hZ (ww hw 22 rfl)) (mvT hZ (ww hw 23 rfl)) (notFace_of_selects (args := #[]) (mvT hZ (ww hw 25 rfl))) (mvT hZ (ww hw 25 rfl)) (mvT hZ (ww hw 24 rfl)) (by decide) (backOf (W := 0) (rm4 l Z av0 hw [] rd (1 : Int32) (4 : Int32) hS n0 Z0 F_position_rd F_end_rd) hZ (ww hw 26 rfl) (ww hw 4 rfl) (by decide) (by decide)) q1a q1c (g := (mkF m 247 #[s0, s1, s2, s3, s4, s5, s6, s7, .val (.int rr), s9, s10, s11, .val (.int (1 : Int32)), .val (.ref rd), .val (.int (3 : Int32)), .val (.int (0 : Int32)), .val (.int (1 : Int32)), s17] [(.ref rd)])) rfl (by rw [hml]; rfl) (Steps.refl _) (argsL := []) (rest := []) (lenOf pd_3 rfl) rfl (Nat.le_refl _) (dd at_247) (fun _ _ => ⟨rfl, e0, (by decide : 3 + 0 ≤ _), (by decide : 12 + 0 ≤ _)⟩)
  dsimp only [Pt.U, Pt.locs, Pt.cells, Pt.slots, Q_rm4] at X1 l1 y1 z1 st1 hQ1
  subst l1 y1 z1
  rw [show (fHM rd (1 : Int32) (4 : Int32)) = (1 : Int32) from (by unfold fHM; rw [if_pos (by decide : (1 : Int32) < (4 : Int32))]; try decide)] at hQ1
  obtain ⟨rfl, N1q, e1⟩ := hQ1
  have N1 := Fr.app N0 N1q
  refine Gz.tr st1 ?_
  refine Gz.iload 252 X1 hx (dd at_250) rfl rfl ?_
  refine Gz.ifNo 255 X1 hx (dd at_252) ((if0 _ _).trans (tlt (by decide : (0 : Int32) < (3 : Int32))).2.2.2) rfl ?_
  refine Gz.iconst 256 (1 : Int32) X1 hx (dd at_255) rfl rfl ?_
  refine Gz.goto 260 X1 hx (dd at_256) (by decide) (by decide) ?_
  refine Gz.icmpNo 263 X1 hx (dd at_260) (teq (by decide : (1 : Int32) = (1 : Int32))).2 rfl ?_
  refine Gz.iconst 264 (1 : Int32) X1 hx (dd at_263) rfl rfl ?_
  refine Gz.goto 268 X1 hx (dd at_264) (by decide) (by decide) ?_
  refine Gz.istore 270 #[s0, s1, s2, s3, s4, s5, s6, s7, .val (.int rr), s9, s10, s11, .val (.int (1 : Int32)), .val (.ref rd), .val (.int (3 : Int32)), .val (.int (0 : Int32)), .val (.int (1 : Int32)), s17] X1 hx (dd at_268) rfl rfl ?_
  refine Gz.iload 272 X1 hx (dd at_270) rfl rfl ?_
  refine Gz.iconst 273 (1 : Int32) X1 hx (dd at_272) rfl rfl ?_
  by_cases hc2 : rr < (1 : Int32)
  · refine Gz.icmpYes 331 X1 hx (dd at_273) (tlt hc2).1 (by decide) (by decide) ?_
    refine Gz.iload 333 X1 hx (dd at_331) rfl rfl ?_
    refine Gz.iconst 334 (2 : Int32) X1 hx (dd at_333) rfl rfl ?_
    refine Gz.icmpYes 390 X1 hx (dd at_334) (tlt (own_ALt32 hc2 (by decide) : rr < (2 : Int32))).1 (by decide) (by decide) ?_
    refine Gz.iload 392 X1 hx (dd at_390) rfl rfl ?_
    refine Gz.iconst 393 (3 : Int32) X1 hx (dd at_392) rfl rfl ?_
    refine Gz.icmpYes 449 X1 hx (dd at_393) (tlt (own_ALt32 hc2 (by decide) : rr < (3 : Int32))).1 (by decide) (by decide) ?_
    refine Gz.iload 451 X1 hx (dd at_449) rfl rfl ?_
    refine Gz.fin X1 (v := some (.int (1 : Int32))) (fun h => by rw [hret] at h; cases h) hlk (by decide) (by decide) (fun fs hr => retN X1 hx (t := .boolean) hret (by simp) (dd at_451) hr) ?_
    exact ⟨rfl, N1⟩
  · refine Gz.icmpNo 276 X1 hx (dd at_273) (flt hc2).1 rfl ?_
    refine Gz.iload 278 X1 hx (dd at_276) rfl rfl ?_
    refine Gz.iload 280 X1 hx (dd at_278) rfl rfl ?_
    refine Gz.iaddV 281 (1 : Int32) X1 hx (dd at_280) rfl rfl ?_
    refine Gz.iload 283 X1 hx (dd at_281) rfl rfl ?_
    refine Gz.icmpNo 286 X1 hx (dd at_283) (flt (by decide : ¬ ((3 : Int32) < (1 : Int32)))).2.2.1 rfl ?_
    refine Gz.aload 288 X1 hx (dd at_286) rfl rfl rfl ?_
    obtain ⟨c3, A3, q3, S3, N3, H3, G3⟩ := id V_ba
    have hin4 : ¬ ((1 : Int32) < 0 ∨ c3.slots.size ≤ ((1 : Int32)).toNatClampNeg) := inb_of S3 ⟨by decide, by decide⟩
    have hat4 : c3.slots[((1 : Int32)).toNatClampNeg]? = some (.int w1) := Has.at H3 hin4 rfl
    obtain ⟨cq5, kq5, q5a, q5b, q5c⟩ := isOf hZ e1 E_rd
    obtain ⟨_, _, ⟨T5, L5, k5, n5⟩, -, X5, ⟨Lc5, hQ5, l5, y5, z5⟩, st5⟩ := X1.virtualBack hx (y := ym1) (z := ym1) hown (mvT hZ (ww hw 27 rfl)) (mvT hZ (ww hw 28 rfl)) (notFace_of_selects (args := #[]) (mvT hZ (ww hw 30 rfl))) (mvT hZ (ww hw 30 rfl)) (mvT hZ (ww hw 29 rfl)) (by decide) (backOf (W := 0) (rmV1 l Z av0 hw [] rd ba (1 : Int32) (4 : Int32) c3 w1 hS n0 Z0 E_rd F_bytes_rd F_position_rd F_end_rd g_rd A3 ne_ba_rd hin4 hat4 (by decide : ¬ ((1 : Int32) = (4 : Int32))) hw1) hZ (ww hw 31 rfl) (ww hw 4 rfl) (by decide) (by decide)) q5a q5c (g := (mkF m 288 #[s0, s1, s2, s3, s4, s5, s6, s7, .val (.int rr), s9, s10, s11, .val (.int (1 : Int32)), .val (.ref rd), .val (.int (3 : Int32)), .val (.int (0 : Int32)), .val (.int (1 : Int32)), s17] [(.ref rd)])) rfl (by rw [hml]; rfl) (Steps.refl _) (argsL := []) (rest := []) (lenOf pd_1 rfl) rfl (Nat.le_refl _) (dd at_288) (fun _ _ => ⟨rfl, e1, (by decide : 3 + 0 ≤ _), (by decide : 12 + 0 ≤ _)⟩)
    dsimp only [Pt.U, Pt.locs, Pt.cells, Pt.slots, Q_rmV1] at X5 l5 y5 z5 st5 hQ5
    subst l5 y5 z5
    obtain ⟨rfl, N5q, K5q, QE5_0, QF5_0, QF5_1, QF5_2⟩ := hQ5
    have N5 := Fr.app N1 N5q
    have f5_E_rd := Exa.keep E_rd K5q
    have f5_V_ba := Arv.keep V_ba K5q (ninS ne_ba_rd nin0)
    have SZ5 := Nat.le_trans Z0 K5q.1
    replace QF5_1 : Fld Z T5.heap rd "com/example/bad_status/badstatus/model/ProtoReader" "position" "I" (.int (2 : Int32)) := QF5_1
    refine Gz.tr st5 ?_
    refine Gz.st (S' := (T5.setTop (mkF m 292 #[s0, s1, s2, s3, s4, s5, s6, s7, .val (.int rr), s9, s10, s11, .val (.int (1 : Int32)), .val (.ref rd), .val (.int (3 : Int32)), .val (.int (0 : Int32)), .val (.int (1 : Int32)), s17] []))) (fun t k => by jvm_step X5.here [X5.here.top, hx, (dd at_291), Value.category]; exact k) ?_
    refine Gz.iload 294 X5 hx (dd at_292) rfl rfl ?_
    refine Gz.iload 296 X5 hx (dd at_294) rfl rfl ?_
    refine Gz.iaddV 297 (1 : Int32) X5 hx (dd at_296) rfl rfl ?_
    refine Gz.istore 299 #[s0, s1, s2, s3, s4, s5, s6, s7, .val (.int rr), s9, s10, s11, .val (.int (1 : Int32)), .val (.ref rd), .val (.int (3 : Int32)), .val (.int (1 : Int32)), .val (.int (1 : Int32)), s17] X5 hx (dd at_297) rfl rfl ?_
    refine Gz.iload 301 X5 hx (dd at_299) rfl rfl ?_
    refine Gz.ifNo 304 X5 hx (dd at_301) ((if0 _ _).trans (feq (by decide : ¬ ((1 : Int32) = (0 : Int32)))).1) rfl ?_
    refine Gz.aload 306 X5 hx (dd at_304) rfl rfl rfl ?_
    obtain ⟨cq6, kq6, q6a, q6b, q6c⟩ := isOf hZ rfl QE5_0
    obtain ⟨_, _, ⟨T6, L6, k6, n6⟩, -, X6, ⟨Lc6, hQ6, l6, y6, z6⟩, st6⟩ := X5.virtualBack hx (y := ym3) (z := ym3) hown (mvT hZ (ww hw 22 rfl)) (mvT hZ (ww hw 23 rfl)) (notFace_of_selects (args := #[]) (mvT hZ (ww hw 25 rfl))) (mvT hZ (ww hw 25 rfl)) (mvT hZ (ww hw 24 rfl)) (by decide) (backOf (W := 0) (rm4 l Z av0 hw [] rd (2 : Int32) (4 : Int32) T5.heap n0 SZ5 QF5_1 QF5_2) hZ (ww hw 26 rfl) (ww hw 4 rfl) (by decide) (by decide)) q6a q6c (g := (mkF m 306 #[s0, s1, s2, s3, s4, s5, s6, s7, .val (.int rr), s9, s10, s11, .val (.int (1 : Int32)), .val (.ref rd), .val (.int (3 : Int32)), .val (.int (1 : Int32)), .val (.int (1 : Int32)), s17] [(.ref rd)])) rfl (by rw [hml]; rfl) (Steps.refl _) (argsL := []) (rest := []) (lenOf pd_3 rfl) rfl (Nat.le_refl _) (dd at_306) (fun _ _ => ⟨rfl, rfl, (by decide : 3 + 0 ≤ _), (by decide : 12 + 0 ≤ _)⟩)
    dsimp only [Pt.U, Pt.locs, Pt.cells, Pt.slots, Q_rm4] at X6 l6 y6 z6 st6 hQ6
    subst l6 y6 z6
    rw [show (fHM rd (2 : Int32) (4 : Int32)) = (1 : Int32) from (by unfold fHM; rw [if_pos (by decide : (2 : Int32) < (4 : Int32))]; try decide)] at hQ6
    obtain ⟨rfl, N6q, e6⟩ := hQ6
    have N6 := Fr.app N5 N6q
    refine Gz.tr st6 ?_
    refine Gz.iload 311 X6 hx (dd at_309) rfl rfl ?_
    refine Gz.iload 313 X6 hx (dd at_311) rfl rfl ?_
    refine Gz.icmpNo 316 X6 hx (dd at_313) (tlt (by decide : (1 : Int32) < (3 : Int32))).2.1 rfl ?_
    refine Gz.iconst 317 (1 : Int32) X6 hx (dd at_316) rfl rfl ?_
    refine Gz.goto 321 X6 hx (dd at_317) (by decide) (by decide) ?_
    refine Gz.icmpNo 324 X6 hx (dd at_321) (teq (by decide : (1 : Int32) = (1 : Int32))).2 rfl ?_
    refine Gz.iconst 325 (1 : Int32) X6 hx (dd at_324) rfl rfl ?_
    refine Gz.goto 329 X6 hx (dd at_325) (by decide) (by decide) ?_
    refine Gz.istore 331 #[s0, s1, s2, s3, s4, s5, s6, s7, .val (.int rr), s9, s10, s11, .val (.int (1 : Int32)), .val (.ref rd), .val (.int (3 : Int32)), .val (.int (1 : Int32)), .val (.int (1 : Int32)), s17] X6 hx (dd at_329) rfl rfl ?_
    refine Gz.iload 333 X6 hx (dd at_331) rfl rfl ?_
    refine Gz.iconst 334 (2 : Int32) X6 hx (dd at_333) rfl rfl ?_
    by_cases hc7 : rr < (2 : Int32)
    · refine Gz.icmpYes 390 X6 hx (dd at_334) (tlt hc7).1 (by decide) (by decide) ?_
      refine Gz.iload 392 X6 hx (dd at_390) rfl rfl ?_
      refine Gz.iconst 393 (3 : Int32) X6 hx (dd at_392) rfl rfl ?_
      refine Gz.icmpYes 449 X6 hx (dd at_393) (tlt (own_ALt32 hc7 (by decide) : rr < (3 : Int32))).1 (by decide) (by decide) ?_
      refine Gz.iload 451 X6 hx (dd at_449) rfl rfl ?_
      refine Gz.fin X6 (v := some (.int (1 : Int32))) (fun h => by rw [hret] at h; cases h) hlk (by decide) (by decide) (fun fs hr => retN X6 hx (t := .boolean) hret (by simp) (dd at_451) hr) ?_
      exact ⟨rfl, N6⟩
    · refine Gz.icmpNo 337 X6 hx (dd at_334) (flt hc7).1 rfl ?_
      refine Gz.iload 339 X6 hx (dd at_337) rfl rfl ?_
      refine Gz.ifNo 342 X6 hx (dd at_339) ((if0 _ _).trans (tlt (by decide : (0 : Int32) < (1 : Int32))).2.2.2) rfl ?_
      refine Gz.iload 344 X6 hx (dd at_342) rfl rfl ?_
      refine Gz.iload 346 X6 hx (dd at_344) rfl rfl ?_
      refine Gz.icmpNo 349 X6 hx (dd at_346) (tlt (by decide : (1 : Int32) < (3 : Int32))).2.1 rfl ?_
      refine Gz.aload 351 X6 hx (dd at_349) rfl rfl rfl ?_
      obtain ⟨c8, A8, q8, S8, N8, H8, G8⟩ := id f5_V_ba
      have hin9 : ¬ ((2 : Int32) < 0 ∨ c8.slots.size ≤ ((2 : Int32)).toNatClampNeg) := inb_of S8 ⟨by decide, by decide⟩
      have hat9 : c8.slots[((2 : Int32)).toNatClampNeg]? = some (.int w2) := Has.at H8 hin9 rfl
      obtain ⟨cq10, kq10, q10a, q10b, q10c⟩ := isOf hZ e6 QE5_0
      obtain ⟨_, _, ⟨T10, L10, k10, n10⟩, -, X10, ⟨Lc10, hQ10, l10, y10, z10⟩, st10⟩ := X6.virtualBack hx (y := ym1) (z := ym1) hown (mvT hZ (ww hw 27 rfl)) (mvT hZ (ww hw 28 rfl)) (notFace_of_selects (args := #[]) (mvT hZ (ww hw 30 rfl))) (mvT hZ (ww hw 30 rfl)) (mvT hZ (ww hw 29 rfl)) (by decide) (backOf (W := 0) (rmV1 l Z av0 hw [] rd ba (2 : Int32) (4 : Int32) c8 w2 T5.heap n0 SZ5 QE5_0 QF5_0 QF5_1 QF5_2 g_rd A8 ne_ba_rd hin9 hat9 (by decide : ¬ ((2 : Int32) = (4 : Int32))) hw2) hZ (ww hw 31 rfl) (ww hw 4 rfl) (by decide) (by decide)) q10a q10c (g := (mkF m 351 #[s0, s1, s2, s3, s4, s5, s6, s7, .val (.int rr), s9, s10, s11, .val (.int (1 : Int32)), .val (.ref rd), .val (.int (3 : Int32)), .val (.int (1 : Int32)), .val (.int (1 : Int32)), s17] [(.ref rd)])) rfl (by rw [hml]; rfl) (Steps.refl _) (argsL := []) (rest := []) (lenOf pd_1 rfl) rfl (Nat.le_refl _) (dd at_351) (fun _ _ => ⟨rfl, e6, (by decide : 3 + 0 ≤ _), (by decide : 12 + 0 ≤ _)⟩)
      dsimp only [Pt.U, Pt.locs, Pt.cells, Pt.slots, Q_rmV1] at X10 l10 y10 z10 st10 hQ10
      subst l10 y10 z10
      obtain ⟨rfl, N10q, K10q, QE10_0, QF10_0, QF10_1, QF10_2⟩ := hQ10
      have N10 := Fr.app N6 N10q
      have f10_E_rd := Exa.keep QE5_0 K10q
      have f10_V_ba := Arv.keep f5_V_ba K10q (ninS ne_ba_rd nin0)
      have SZ10 := Nat.le_trans SZ5 K10q.1
      replace QF10_1 : Fld Z T10.heap rd "com/example/bad_status/badstatus/model/ProtoReader" "position" "I" (.int (3 : Int32)) := QF10_1
      refine Gz.tr st10 ?_
      refine Gz.st (S' := (T10.setTop (mkF m 355 #[s0, s1, s2, s3, s4, s5, s6, s7, .val (.int rr), s9, s10, s11, .val (.int (1 : Int32)), .val (.ref rd), .val (.int (3 : Int32)), .val (.int (1 : Int32)), .val (.int (1 : Int32)), s17] []))) (fun t k => by jvm_step X10.here [X10.here.top, hx, (dd at_354), Value.category]; exact k) ?_
      refine Gz.iinc 358 #[s0, s1, s2, s3, s4, s5, s6, s7, .val (.int rr), s9, s10, s11, .val (.int (1 : Int32)), .val (.ref rd), .val (.int (3 : Int32)), .val (.int (2 : Int32)), .val (.int (1 : Int32)), s17] X10 hx (dd at_355) rfl rfl rfl ?_
      refine Gz.iload 360 X10 hx (dd at_358) rfl rfl ?_
      refine Gz.ifNo 363 X10 hx (dd at_360) ((if0 _ _).trans (feq (by decide : ¬ ((1 : Int32) = (0 : Int32)))).1) rfl ?_
      refine Gz.aload 365 X10 hx (dd at_363) rfl rfl rfl ?_
      obtain ⟨cq11, kq11, q11a, q11b, q11c⟩ := isOf hZ rfl QE10_0
      obtain ⟨_, _, ⟨T11, L11, k11, n11⟩, -, X11, ⟨Lc11, hQ11, l11, y11, z11⟩, st11⟩ := X10.virtualBack hx (y := ym3) (z := ym3) hown (mvT hZ (ww hw 22 rfl)) (mvT hZ (ww hw 23 rfl)) (notFace_of_selects (args := #[]) (mvT hZ (ww hw 25 rfl))) (mvT hZ (ww hw 25 rfl)) (mvT hZ (ww hw 24 rfl)) (by decide) (backOf (W := 0) (rm4 l Z av0 hw [] rd (3 : Int32) (4 : Int32) T10.heap n0 SZ10 QF10_1 QF10_2) hZ (ww hw 26 rfl) (ww hw 4 rfl) (by decide) (by decide)) q11a q11c (g := (mkF m 365 #[s0, s1, s2, s3, s4, s5, s6, s7, .val (.int rr), s9, s10, s11, .val (.int (1 : Int32)), .val (.ref rd), .val (.int (3 : Int32)), .val (.int (2 : Int32)), .val (.int (1 : Int32)), s17] [(.ref rd)])) rfl (by rw [hml]; rfl) (Steps.refl _) (argsL := []) (rest := []) (lenOf pd_3 rfl) rfl (Nat.le_refl _) (dd at_365) (fun _ _ => ⟨rfl, rfl, (by decide : 3 + 0 ≤ _), (by decide : 12 + 0 ≤ _)⟩)
      dsimp only [Pt.U, Pt.locs, Pt.cells, Pt.slots, Q_rm4] at X11 l11 y11 z11 st11 hQ11
      subst l11 y11 z11
      rw [show (fHM rd (3 : Int32) (4 : Int32)) = (1 : Int32) from (by unfold fHM; rw [if_pos (by decide : (3 : Int32) < (4 : Int32))]; try decide)] at hQ11
      obtain ⟨rfl, N11q, e11⟩ := hQ11
      have N11 := Fr.app N10 N11q
      refine Gz.tr st11 ?_
      refine Gz.iload 370 X11 hx (dd at_368) rfl rfl ?_
      refine Gz.iload 372 X11 hx (dd at_370) rfl rfl ?_
      refine Gz.icmpNo 375 X11 hx (dd at_372) (tlt (by decide : (2 : Int32) < (3 : Int32))).2.1 rfl ?_
      refine Gz.iconst 376 (1 : Int32) X11 hx (dd at_375) rfl rfl ?_
      refine Gz.goto 380 X11 hx (dd at_376) (by decide) (by decide) ?_
      refine Gz.icmpNo 383 X11 hx (dd at_380) (teq (by decide : (1 : Int32) = (1 : Int32))).2 rfl ?_
      refine Gz.iconst 384 (1 : Int32) X11 hx (dd at_383) rfl rfl ?_
      refine Gz.goto 388 X11 hx (dd at_384) (by decide) (by decide) ?_
      refine Gz.istore 390 #[s0, s1, s2, s3, s4, s5, s6, s7, .val (.int rr), s9, s10, s11, .val (.int (1 : Int32)), .val (.ref rd), .val (.int (3 : Int32)), .val (.int (2 : Int32)), .val (.int (1 : Int32)), s17] X11 hx (dd at_388) rfl rfl ?_
      refine Gz.iload 392 X11 hx (dd at_390) rfl rfl ?_
      refine Gz.iconst 393 (3 : Int32) X11 hx (dd at_392) rfl rfl ?_
      by_cases hc12 : rr < (3 : Int32)
      · refine Gz.icmpYes 449 X11 hx (dd at_393) (tlt hc12).1 (by decide) (by decide) ?_
        refine Gz.iload 451 X11 hx (dd at_449) rfl rfl ?_
        refine Gz.fin X11 (v := some (.int (1 : Int32))) (fun h => by rw [hret] at h; cases h) hlk (by decide) (by decide) (fun fs hr => retN X11 hx (t := .boolean) hret (by simp) (dd at_451) hr) ?_
        exact ⟨rfl, N11⟩
      · refine Gz.icmpNo 396 X11 hx (dd at_393) (flt hc12).1 rfl ?_
        refine Gz.iload 398 X11 hx (dd at_396) rfl rfl ?_
        refine Gz.ifNo 401 X11 hx (dd at_398) ((if0 _ _).trans (tlt (by decide : (0 : Int32) < (2 : Int32))).2.2.2) rfl ?_
        refine Gz.iload 403 X11 hx (dd at_401) rfl rfl ?_
        refine Gz.iload 405 X11 hx (dd at_403) rfl rfl ?_
        refine Gz.icmpNo 408 X11 hx (dd at_405) (tlt (by decide : (2 : Int32) < (3 : Int32))).2.1 rfl ?_
        refine Gz.aload 410 X11 hx (dd at_408) rfl rfl rfl ?_
        obtain ⟨c13, A13, q13, S13, N13, H13, G13⟩ := id f10_V_ba
        have hin14 : ¬ ((3 : Int32) < 0 ∨ c13.slots.size ≤ ((3 : Int32)).toNatClampNeg) := inb_of S13 ⟨by decide, by decide⟩
        have hat14 : c13.slots[((3 : Int32)).toNatClampNeg]? = some (.int w3) := Has.at H13 hin14 rfl
        obtain ⟨cq15, kq15, q15a, q15b, q15c⟩ := isOf hZ e11 QE10_0
        obtain ⟨_, _, ⟨T15, L15, k15, n15⟩, -, X15, ⟨Lc15, hQ15, l15, y15, z15⟩, st15⟩ := X11.virtualBack hx (y := ym1) (z := ym1) hown (mvT hZ (ww hw 27 rfl)) (mvT hZ (ww hw 28 rfl)) (notFace_of_selects (args := #[]) (mvT hZ (ww hw 30 rfl))) (mvT hZ (ww hw 30 rfl)) (mvT hZ (ww hw 29 rfl)) (by decide) (backOf (W := 0) (rmV1 l Z av0 hw [] rd ba (3 : Int32) (4 : Int32) c13 w3 T10.heap n0 SZ10 QE10_0 QF10_0 QF10_1 QF10_2 g_rd A13 ne_ba_rd hin14 hat14 (by decide : ¬ ((3 : Int32) = (4 : Int32))) hw3) hZ (ww hw 31 rfl) (ww hw 4 rfl) (by decide) (by decide)) q15a q15c (g := (mkF m 410 #[s0, s1, s2, s3, s4, s5, s6, s7, .val (.int rr), s9, s10, s11, .val (.int (1 : Int32)), .val (.ref rd), .val (.int (3 : Int32)), .val (.int (2 : Int32)), .val (.int (1 : Int32)), s17] [(.ref rd)])) rfl (by rw [hml]; rfl) (Steps.refl _) (argsL := []) (rest := []) (lenOf pd_1 rfl) rfl (Nat.le_refl _) (dd at_410) (fun _ _ => ⟨rfl, e11, (by decide : 3 + 0 ≤ _), (by decide : 12 + 0 ≤ _)⟩)
        dsimp only [Pt.U, Pt.locs, Pt.cells, Pt.slots, Q_rmV1] at X15 l15 y15 z15 st15 hQ15
        subst l15 y15 z15
        obtain ⟨rfl, N15q, K15q, QE15_0, QF15_0, QF15_1, QF15_2⟩ := hQ15
        have N15 := Fr.app N11 N15q
        have f15_E_rd := Exa.keep QE10_0 K15q
        have f15_V_ba := Arv.keep f10_V_ba K15q (ninS ne_ba_rd nin0)
        have SZ15 := Nat.le_trans SZ10 K15q.1
        replace QF15_1 : Fld Z T15.heap rd "com/example/bad_status/badstatus/model/ProtoReader" "position" "I" (.int (4 : Int32)) := QF15_1
        refine Gz.tr st15 ?_
        refine Gz.st (S' := (T15.setTop (mkF m 414 #[s0, s1, s2, s3, s4, s5, s6, s7, .val (.int rr), s9, s10, s11, .val (.int (1 : Int32)), .val (.ref rd), .val (.int (3 : Int32)), .val (.int (2 : Int32)), .val (.int (1 : Int32)), s17] []))) (fun t k => by jvm_step X15.here [X15.here.top, hx, (dd at_413), Value.category]; exact k) ?_
        refine Gz.iinc 417 #[s0, s1, s2, s3, s4, s5, s6, s7, .val (.int rr), s9, s10, s11, .val (.int (1 : Int32)), .val (.ref rd), .val (.int (3 : Int32)), .val (.int (3 : Int32)), .val (.int (1 : Int32)), s17] X15 hx (dd at_414) rfl rfl rfl ?_
        refine Gz.iload 419 X15 hx (dd at_417) rfl rfl ?_
        refine Gz.ifNo 422 X15 hx (dd at_419) ((if0 _ _).trans (feq (by decide : ¬ ((1 : Int32) = (0 : Int32)))).1) rfl ?_
        refine Gz.aload 424 X15 hx (dd at_422) rfl rfl rfl ?_
        obtain ⟨cq16, kq16, q16a, q16b, q16c⟩ := isOf hZ rfl QE15_0
        obtain ⟨_, _, ⟨T16, L16, k16, n16⟩, -, X16, ⟨Lc16, hQ16, l16, y16, z16⟩, st16⟩ := X15.virtualBack hx (y := ym3) (z := ym3) hown (mvT hZ (ww hw 22 rfl)) (mvT hZ (ww hw 23 rfl)) (notFace_of_selects (args := #[]) (mvT hZ (ww hw 25 rfl))) (mvT hZ (ww hw 25 rfl)) (mvT hZ (ww hw 24 rfl)) (by decide) (backOf (W := 0) (rm4 l Z av0 hw [] rd (4 : Int32) (4 : Int32) T15.heap n0 SZ15 QF15_1 QF15_2) hZ (ww hw 26 rfl) (ww hw 4 rfl) (by decide) (by decide)) q16a q16c (g := (mkF m 424 #[s0, s1, s2, s3, s4, s5, s6, s7, .val (.int rr), s9, s10, s11, .val (.int (1 : Int32)), .val (.ref rd), .val (.int (3 : Int32)), .val (.int (3 : Int32)), .val (.int (1 : Int32)), s17] [(.ref rd)])) rfl (by rw [hml]; rfl) (Steps.refl _) (argsL := []) (rest := []) (lenOf pd_3 rfl) rfl (Nat.le_refl _) (dd at_424) (fun _ _ => ⟨rfl, rfl, (by decide : 3 + 0 ≤ _), (by decide : 12 + 0 ≤ _)⟩)
        dsimp only [Pt.U, Pt.locs, Pt.cells, Pt.slots, Q_rm4] at X16 l16 y16 z16 st16 hQ16
        subst l16 y16 z16
        rw [show (fHM rd (4 : Int32) (4 : Int32)) = (0 : Int32) from (by unfold fHM; rw [if_neg (by decide : ¬ ((4 : Int32) < (4 : Int32)))]; try decide)] at hQ16
        obtain ⟨rfl, N16q, e16⟩ := hQ16
        have N16 := Fr.app N15 N16q
        refine Gz.tr st16 ?_
        refine Gz.iload 429 X16 hx (dd at_427) rfl rfl ?_
        refine Gz.iload 431 X16 hx (dd at_429) rfl rfl ?_
        refine Gz.icmpYes 438 X16 hx (dd at_431) (flt (by decide : ¬ ((3 : Int32) < (3 : Int32)))).2.1 (by decide) (by decide) ?_
        refine Gz.iconst 439 (0 : Int32) X16 hx (dd at_438) rfl rfl ?_
        refine Gz.icmpNo 442 X16 hx (dd at_439) (teq (by decide : (0 : Int32) = (0 : Int32))).2 rfl ?_
        refine Gz.iconst 443 (1 : Int32) X16 hx (dd at_442) rfl rfl ?_
        refine Gz.goto 447 X16 hx (dd at_443) (by decide) (by decide) ?_
        refine Gz.istore 449 #[s0, s1, s2, s3, s4, s5, s6, s7, .val (.int rr), s9, s10, s11, .val (.int (1 : Int32)), .val (.ref rd), .val (.int (3 : Int32)), .val (.int (3 : Int32)), .val (.int (1 : Int32)), s17] X16 hx (dd at_447) rfl rfl ?_
        refine Gz.iload 451 X16 hx (dd at_449) rfl rfl ?_
        refine Gz.fin X16 (v := some (.int (1 : Int32))) (fun h => by rw [hret] at h; cases h) hlk (by decide) (by decide) (fun fs hr => retN X16 hx (t := .boolean) hret (by simp) (dd at_451) hr) ?_
        exact ⟨rfl, N16⟩
theorem pd_4 : parseMethodDescriptor "([B)V" = some ⟨[(.array .byte)], none⟩ := by decide +kernel
abbrev ym4 : MethodName := ⟨"com/example/bad_status/badstatus/model/ProtoReader", "<init>", "([B)V"⟩
theorem pd_5 : parseMethodDescriptor "(Lcom/example/bad_status/badstatus/model/Place;)Lcom/example/bad_status/badstatus/model/ProtoReader;" = some ⟨[(.object "com/example/bad_status/badstatus/model/Place")], some (.object "com/example/bad_status/badstatus/model/ProtoReader")⟩ := by decide +kernel
abbrev ym5 : MethodName := ⟨"com/example/bad_status/badstatus/model/ProtoReader", "readMessage", "(Lcom/example/bad_status/badstatus/model/Place;)Lcom/example/bad_status/badstatus/model/ProtoReader;"⟩
theorem pn_1 : plainName "com/example/bad_status/badstatus/model/ProtoReaderHasMorePinLaw" = true := by first | (simp [plainName, overriddenIn]; done) | decide +kernel
theorem ef_rm0 (m : MethodId) (p0 : Int32) (p1 : Int32) (p2 : Int32) (p3 : Int32) (p4 : Int32) (p5 : Int32) : entryFrame m #[(.int p0), (.int p1), (.int p2), (.int p3), (.int p4), (.int p5)] maxLocals = mkF m 0 #[.val (.int p0), .val (.int p1), .val (.int p2), .val (.int p3), .val (.int p4), .val (.int p5), .unset, .unset, .unset, .unset, .unset, .unset, .unset, .unset, .unset, .unset, .unset, .unset] [] := by first | (simp [entryFrame, mkF, argsToLocals, Value.category, maxLocals]; done) | rfl
set_option maxRecDepth 65536 in
set_option maxHeartbeats 40000000 in
theorem rm0 (l : Launch) (Z : State) (av0 : Array Value) (hw : ∀ d ∈ tables_1, d.before av0 Z = true) (ws : List Jvm.Cond) (p0 : Int32) (p1 : Int32) (p2 : Int32) (p3 : Int32) (p4 : Int32) (p5 : Int32) (st_MESSAGE : Addr) (h0 : Heap) (n0 : Nat) (Z0 : n0 ≤ h0.size) (S_st_MESSAGE : Sta Z h0 "com/example/bad_status/badstatus/model/Place" "MESSAGE" "Lcom/example/bad_status/badstatus/model/Place;" (.ref st_MESSAGE)) :
    MetFree l x (head1 (Jvm.Cond.code x code maxLocals ret :: ws) room_1) (fun a U => a = #[(.int p0), (.int p1), (.int p2), (.int p3), (.int p4), (.int p5)] ∧ Z.Warmed39 U.vm ∧ U.heap = h0) (fun _ _ _ _ _ => True) (fun _ U o U' => ∃ v L, o = .returned v ∧ Q_law n0 v U'.heap L ∧ FrameEnd U o U' L 16 128) := by
  refine MetFree.of_bodySF (plainFor_of_name pn_1) hisR ?_
  intro p e s m args below meth c s₁ Bd hml0 hP hK
  obtain ⟨rfl, hZ, hh⟩ := hP
  have hx := Bd.exec
  have hby := Bd.bytes
  have hml : c.maxLocals = 18 := hml0
  have dd : ∀ {pc : Nat} {r : Except DecodeError (Instr × Nat)}, decode code pc = r → decode c.code pc = r := fun q => hb hby q
  have hown : s.vm.findClass "com/example/bad_status/badstatus/model/ProtoReaderHasMorePinLaw" = some m.cls := findClass_of_methodNamed Bd.named
  have hnm := (name_of_methodNamed Bd.named Bd.method).1
  have X0 : Stand p l e room_1 s m #[(.int p0), (.int p1), (.int p2), (.int p3), (.int p4), (.int p5)] below meth c s₁ [] 0 0 := Stand.of_body Bd
  have e0 : s₁.heap = h0 := by rw [← hh, Bd.state]; rfl
  have N0 := Fr.nil n0
  have hret := Bd.returns
  have hlk := Bd.notSynchronized
  show Gz p e below s 16 128 (Q_law n0) (s₁.setTop (entryFrame m #[(.int p0), (.int p1), (.int p2), (.int p3), (.int p4), (.int p5)] maxLocals))
  refine Gz.enter (ef_rm0 m p0 p1 p2 p3 p4 p5) ?_
  refine Gz.iloadN 1 X0 hx (dd at_0) rfl rfl ?_
  refine Gz.ldcI 3 X0 hx (dd at_1) hown (mvT hZ (ww hw 0 rfl)) rfl ?_
  refine Gz.iand 4 X0 hx (dd at_3) rfl ?_
  refine Gz.iconst 5 (5 : Int32) X0 hx (dd at_4) rfl rfl ?_
  refine Gz.irem 6 X0 hx (dd at_5) (by decide) rfl ?_
  show Gz p e below s _ _ _ (s₁.setTop (mkF m 6 #[.val (.int p0), .val (.int p1), .val (.int p2), .val (.int p3), .val (.int p4), .val (.int p5), .unset, .unset, .unset, .unset, .unset, .unset, .unset, .unset, .unset, .unset, .unset, .unset] [(.int ((p0 &&& (2147483647 : Int32)) % (5 : Int32)))]))
  rcases own_five p0 with hs1 | hs1 | hs1 | hs1 | hs1
  · rw [hs1]
    refine Gz.istore 8 #[.val (.int p0), .val (.int p1), .val (.int p2), .val (.int p3), .val (.int p4), .val (.int p5), .val (.int (0 : Int32)), .unset, .unset, .unset, .unset, .unset, .unset, .unset, .unset, .unset, .unset, .unset] X0 hx (dd at_6) rfl rfl ?_
    refine Gz.iload 10 X0 hx (dd at_8) rfl rfl ?_
    refine Gz.iconst 11 (2 : Int32) X0 hx (dd at_10) rfl rfl ?_
    refine Gz.iushr 12 X0 hx (dd at_11) rfl ?_
    refine Gz.iconst 13 (1 : Int32) X0 hx (dd at_12) rfl rfl ?_
    refine Gz.iand 14 X0 hx (dd at_13) rfl ?_
    by_cases hc2 : (((p5.toUInt32 >>> ((2 : Int32) &&& 31).toUInt32).toInt32) &&& (1 : Int32)) = (0 : Int32)
    · refine Gz.ifYes 26 X0 hx (dd at_14) ((if0 _ _).trans (teq hc2).1) (by decide) (by decide) ?_
      refine Gz.iconst 27 (0 : Int32) X0 hx (dd at_26) rfl rfl ?_
      refine Gz.istore 29 #[.val (.int p0), .val (.int p1), .val (.int p2), .val (.int p3), .val (.int p4), .val (.int p5), .val (.int (0 : Int32)), .val (.int (0 : Int32)), .unset, .unset, .unset, .unset, .unset, .unset, .unset, .unset, .unset, .unset] X0 hx (dd at_27) rfl rfl ?_
      refine Gz.iload 31 X0 hx (dd at_29) rfl rfl ?_
      refine Gz.iconst 32 (3 : Int32) X0 hx (dd at_31) rfl rfl ?_
      refine Gz.iand 33 X0 hx (dd at_32) rfl ?_
      show Gz p e below s _ _ _ (s₁.setTop (mkF m 33 #[.val (.int p0), .val (.int p1), .val (.int p2), .val (.int p3), .val (.int p4), .val (.int p5), .val (.int (0 : Int32)), .val (.int (0 : Int32)), .unset, .unset, .unset, .unset, .unset, .unset, .unset, .unset, .unset, .unset] [(.int (p5 &&& (3 : Int32)))]))
      obtain ⟨rr, q_rr⟩ : ∃ z, (p5 &&& (3 : Int32)) = z := ⟨_, rfl⟩
      rw [q_rr]
      show Gz p e below s _ _ _ (s₁.setTop (mkF m 33 #[.val (.int p0), .val (.int p1), .val (.int p2), .val (.int p3), .val (.int p4), .val (.int p5), .val (.int (0 : Int32)), .val (.int (0 : Int32)), .unset, .unset, .unset, .unset, .unset, .unset, .unset, .unset, .unset, .unset] [(.int rr)]))
      refine Gz.istore 35 #[.val (.int p0), .val (.int p1), .val (.int p2), .val (.int p3), .val (.int p4), .val (.int p5), .val (.int (0 : Int32)), .val (.int (0 : Int32)), .val (.int rr), .unset, .unset, .unset, .unset, .unset, .unset, .unset, .unset, .unset] X0 hx (dd at_33) rfl rfl ?_
      refine Gz.iload 37 X0 hx (dd at_35) rfl rfl ?_
      refine Gz.ifYes 51 X0 hx (dd at_37) ((if0 _ _).trans (teq (by decide : (0 : Int32) = (0 : Int32))).1) (by decide) (by decide) ?_
      refine Gz.iloadN 52 X0 hx (dd at_51) rfl rfl ?_
      refine Gz.i2b 53 X0 hx (dd at_52) rfl ?_
      refine Gz.istore 55 #[.val (.int p0), .val (.int p1), .val (.int p2), .val (.int p3), .val (.int p4), .val (.int p5), .val (.int (0 : Int32)), .val (.int (0 : Int32)), .val (.int rr), .val (.int (p1.toInt8.toInt32)), .unset, .unset, .unset, .unset, .unset, .unset, .unset, .unset] X0 hx (dd at_53) rfl rfl ?_
      refine Gz.iload 57 X0 hx (dd at_55) rfl rfl ?_
      obtain ⟨T3, h3, k3, X3, e3, E3, A3, Q3, st3⟩ := newPE X0 hx hZ (ww hw 1 rfl) e0 (g := (mkF m 57 #[.val (.int p0), .val (.int p1), .val (.int p2), .val (.int p3), .val (.int p4), .val (.int p5), .val (.int (0 : Int32)), .val (.int (0 : Int32)), .val (.int rr), .val (.int (p1.toInt8.toInt32)), .unset, .unset, .unset, .unset, .unset, .unset, .unset, .unset] [(.int (0 : Int32))])) rfl (dd at_57) rfl (by decide) (cap := 0) (by decide) (by decide) (by decide) (by decide) (ad := "[B") rfl
      obtain ⟨b3, g3⟩ : ∃ z, z = h0.size := ⟨_, rfl⟩
      rw [← g3] at A3 Q3 st3
      have g_b3 : n0 ≤ b3 := Nat.le_trans Z0 (Nat.le_of_eq g3.symm)
      have SZ3 : n0 ≤ h3.size := Nat.le_trans Z0 E3.1
      have f3_S_st_MESSAGE := Sta.ext E3 S_st_MESSAGE
      have V3 : Arv Z h3 b3 k3 .byte (0 : Int32) [] (.int (0 : Int32)) := (Arv.new A3 (by decide)).pad (pad_rep [] (.int (0 : Int32)) 0)
      refine Gz.st st3 ?_
      refine Gz.astore 61 #[.val (.int p0), .val (.int p1), .val (.int p2), .val (.int p3), .val (.int p4), .val (.int p5), .val (.int (0 : Int32)), .val (.int (0 : Int32)), .val (.int rr), .val (.int (p1.toInt8.toInt32)), .val (.ref b3), .unset, .unset, .unset, .unset, .unset, .unset, .unset] X3 hx (dd at_59) rfl rfl rfl ?_
      refine Gz.iload 63 X3 hx (dd at_61) rfl rfl ?_
      refine Gz.ifYes 72 X3 hx (dd at_63) ((if0 _ _).trans (flt (by decide : ¬ ((0 : Int32) < (0 : Int32)))).2.2.2) (by decide) (by decide) ?_
      refine Gz.iload 74 X3 hx (dd at_72) rfl rfl ?_
      refine Gz.iconst 75 (1 : Int32) X3 hx (dd at_74) rfl rfl ?_
      refine Gz.icmpYes 87 X3 hx (dd at_75) (flt (by decide : ¬ ((1 : Int32) < (0 : Int32)))).2.2.2 (by decide) (by decide) ?_
      refine Gz.iload 89 X3 hx (dd at_87) rfl rfl ?_
      refine Gz.iconst 90 (2 : Int32) X3 hx (dd at_89) rfl rfl ?_
      refine Gz.icmpYes 102 X3 hx (dd at_90) (flt (by decide : ¬ ((2 : Int32) < (0 : Int32)))).2.2.2 (by decide) (by decide) ?_
      refine Gz.iload 104 X3 hx (dd at_102) rfl rfl ?_
      refine Gz.iconst 105 (3 : Int32) X3 hx (dd at_104) rfl rfl ?_
      refine Gz.icmpYes 118 X3 hx (dd at_105) (flt (by decide : ¬ ((3 : Int32) < (0 : Int32)))).2.2.2 (by decide) (by decide) ?_
      obtain ⟨T4, h4, X4, e4, E4, A4, D4, -, st4⟩ := newO X3 hx hZ hown (ww hw 2 rfl) (ww hw 3 rfl) (ww hw 4 rfl) e3 (g := (mkF m 118 #[.val (.int p0), .val (.int p1), .val (.int p2), .val (.int p3), .val (.int p4), .val (.int p5), .val (.int (0 : Int32)), .val (.int (0 : Int32)), .val (.int rr), .val (.int (p1.toInt8.toInt32)), .val (.ref b3), .unset, .unset, .unset, .unset, .unset, .unset, .unset] [])) rfl (dd at_118) (by decide) (by decide)
      obtain ⟨b4, g4⟩ : ∃ z, z = h3.size := ⟨_, rfl⟩
      rw [← g4] at A4 D4 st4
      have ne_b3_b4 : b3 ≠ b4 := Nat.ne_of_lt (Nat.lt_of_lt_of_le (Q3).lt (Nat.le_of_eq g4.symm))
      have g_b4 : n0 ≤ b4 := Nat.le_trans SZ3 (Nat.le_of_eq g4.symm)
      have SZ4 : n0 ≤ h4.size := Nat.le_trans SZ3 E4.1
      have f4_S_st_MESSAGE := Sta.ext E4 f3_S_st_MESSAGE
      have f4_Eb3 := Exa.ext E4 Q3
      have f4_Vb3 := Arv.ext V3 E4
      have F_bytes_b4 : Fld Z h4 b4 "com/example/bad_status/badstatus/model/ProtoReader" "bytes" "[B" .null := D4 (Or.inr (ww hw 15 rfl)) (ty := (.array .byte)) (by decide)
      have F_position_b4 : Fld Z h4 b4 "com/example/bad_status/badstatus/model/ProtoReader" "position" "I" (.int (0 : Int32)) := D4 (Or.inl (ww hw 17 rfl)) (ty := .int) (by decide)
      have F_end_b4 : Fld Z h4 b4 "com/example/bad_status/badstatus/model/ProtoReader" "end" "I" (.int (0 : Int32)) := D4 (Or.inr (ww hw 19 rfl)) (ty := .int) (by decide)
      have F_place_b4 : Fld Z h4 b4 "com/example/bad_status/badstatus/model/ProtoReader" "place" "Lcom/example/bad_status/badstatus/model/Place;" .null := D4 (Or.inr (ww hw 21 rfl)) (ty := (.object "com/example/bad_status/badstatus/model/Place")) (by decide)
      refine Gz.st st4 ?_
      refine Gz.dup 122 X4 hx (dd at_121) rfl rfl ?_
      refine Gz.aload 124 X4 hx (dd at_122) rfl rfl rfl ?_
      obtain ⟨_, _, ⟨T5, L5, k5, n5⟩, -, X5, ⟨Lc5, hQ5, l5, y5, z5⟩, st5⟩ := X4.specialBack hx (y := ym4) rfl hown (mvT hZ (ww hw 5 rfl)) (mvT hZ (ww hw 6 rfl)) (mvT hZ (ww hw 7 rfl)) (by decide) (backOf (W := 1) (rmI1_0 l Z av0 hw [] b4 b3 k3 h4 n0 SZ4 A4 F_bytes_b4 F_position_b4 F_end_b4 F_place_b4 g_b4 f4_Vb3 ne_b3_b4) hZ (ww hw 7 rfl) (ww hw 4 rfl) (by decide) (by decide)) (g := (mkF m 124 #[.val (.int p0), .val (.int p1), .val (.int p2), .val (.int p3), .val (.int p4), .val (.int p5), .val (.int (0 : Int32)), .val (.int (0 : Int32)), .val (.int rr), .val (.int (p1.toInt8.toInt32)), .val (.ref b3), .unset, .unset, .unset, .unset, .unset, .unset, .unset] [(.ref b3), (.ref b4), (.ref b4)])) rfl (by rw [hml]; rfl) (Steps.refl _) (a := b4) (argsL := [(.ref b3)]) (rest := [(.ref b4)]) (lenOf pd_4 rfl) rfl (Nat.le_refl _) (dd at_124) (fun _ _ => ⟨rfl, e4, (by decide : 2 + 0 ≤ _), (by decide : 4 + 0 ≤ _)⟩)
      dsimp only [Pt.U, Pt.locs, Pt.cells, Pt.slots, Q_rmI1_0] at X5 l5 y5 z5 st5 hQ5
      subst l5 y5 z5
      obtain ⟨rfl, N5q, K5q, QE5_0, QF5_0, QF5_1, QF5_2, QF5_3⟩ := hQ5
      have N5 := Fr.app N0 N5q
      have f5_S_st_MESSAGE := own_staK f4_S_st_MESSAGE K5q (allS (nst_of A4) all0)
      have f5_Eb3 := Exa.keep f4_Eb3 K5q
      have f5_Vb3 := Arv.keep f4_Vb3 K5q (ninS ne_b3_b4 nin0)
      have f5_Eb4 := Exa.keep A4 K5q
      have SZ5 := Nat.le_trans SZ4 K5q.1
      refine Gz.tr st5 ?_
      refine Gz.astore 129 #[.val (.int p0), .val (.int p1), .val (.int p2), .val (.int p3), .val (.int p4), .val (.int p5), .val (.int (0 : Int32)), .val (.int (0 : Int32)), .val (.int rr), .val (.int (p1.toInt8.toInt32)), .val (.ref b3), .val (.ref b4), .unset, .unset, .unset, .unset, .unset, .unset] X5 hx (dd at_127) rfl rfl rfl ?_
      refine Gz.aload 131 X5 hx (dd at_129) rfl rfl rfl ?_
      obtain ⟨cq6, kq6, q6a, q6b, q6c⟩ := isOf hZ rfl QE5_0
      obtain ⟨_, _, ⟨T6, L6, k6, n6⟩, -, X6, ⟨Lc6, hQ6, l6, y6, z6⟩, st6⟩ := X5.virtualBack hx (y := ym3) (z := ym3) hown (mvT hZ (ww hw 22 rfl)) (mvT hZ (ww hw 23 rfl)) (notFace_of_selects (args := #[]) (mvT hZ (ww hw 25 rfl))) (mvT hZ (ww hw 25 rfl)) (mvT hZ (ww hw 24 rfl)) (by decide) (backOf (W := 0) (rm4 l Z av0 hw [] b4 (0 : Int32) (0 : Int32) T5.heap n0 SZ5 QF5_1 QF5_2) hZ (ww hw 26 rfl) (ww hw 4 rfl) (by decide) (by decide)) q6a q6c (g := (mkF m 131 #[.val (.int p0), .val (.int p1), .val (.int p2), .val (.int p3), .val (.int p4), .val (.int p5), .val (.int (0 : Int32)), .val (.int (0 : Int32)), .val (.int rr), .val (.int (p1.toInt8.toInt32)), .val (.ref b3), .val (.ref b4), .unset, .unset, .unset, .unset, .unset, .unset] [(.ref b4)])) rfl (by rw [hml]; rfl) (Steps.refl _) (argsL := []) (rest := []) (lenOf pd_3 rfl) rfl (Nat.le_refl _) (dd at_131) (fun _ _ => ⟨rfl, rfl, (by decide : 2 + 0 ≤ _), (by decide : 4 + 0 ≤ _)⟩)
      dsimp only [Pt.U, Pt.locs, Pt.cells, Pt.slots, Q_rm4] at X6 l6 y6 z6 st6 hQ6
      subst l6 y6 z6
      rw [show (fHM b4 (0 : Int32) (0 : Int32)) = (0 : Int32) from (by unfold fHM; rw [if_neg (by decide : ¬ ((0 : Int32) < (0 : Int32)))]; try decide)] at hQ6
      obtain ⟨rfl, N6q, e6⟩ := hQ6
      have N6 := Fr.app N5 N6q
      refine Gz.tr st6 ?_
      refine Gz.iload 136 X6 hx (dd at_134) rfl rfl ?_
      refine Gz.ifYes 143 X6 hx (dd at_136) ((if0 _ _).trans (flt (by decide : ¬ ((0 : Int32) < (0 : Int32)))).2.2.2) (by decide) (by decide) ?_
      refine Gz.iconst 144 (0 : Int32) X6 hx (dd at_143) rfl rfl ?_
      refine Gz.icmpNo 147 X6 hx (dd at_144) (teq (by decide : (0 : Int32) = (0 : Int32))).2 rfl ?_
      refine Gz.iconst 148 (1 : Int32) X6 hx (dd at_147) rfl rfl ?_
      refine Gz.goto 152 X6 hx (dd at_148) (by decide) (by decide) ?_
      refine Gz.istore 154 #[.val (.int p0), .val (.int p1), .val (.int p2), .val (.int p3), .val (.int p4), .val (.int p5), .val (.int (0 : Int32)), .val (.int (0 : Int32)), .val (.int rr), .val (.int (p1.toInt8.toInt32)), .val (.ref b3), .val (.ref b4), .val (.int (1 : Int32)), .unset, .unset, .unset, .unset, .unset] X6 hx (dd at_152) rfl rfl ?_
      refine Gz.aload 156 X6 hx (dd at_154) rfl rfl rfl ?_
      refine Gz.astore 158 #[.val (.int p0), .val (.int p1), .val (.int p2), .val (.int p3), .val (.int p4), .val (.int p5), .val (.int (0 : Int32)), .val (.int (0 : Int32)), .val (.int rr), .val (.int (p1.toInt8.toInt32)), .val (.ref b3), .val (.ref b4), .val (.int (1 : Int32)), .val (.ref b4), .unset, .unset, .unset, .unset] X6 hx (dd at_156) rfl rfl rfl ?_
      refine Gz.iload 160 X6 hx (dd at_158) rfl rfl ?_
      refine Gz.istore 162 #[.val (.int p0), .val (.int p1), .val (.int p2), .val (.int p3), .val (.int p4), .val (.int p5), .val (.int (0 : Int32)), .val (.int (0 : Int32)), .val (.int rr), .val (.int (p1.toInt8.toInt32)), .val (.ref b3), .val (.ref b4), .val (.int (1 : Int32)), .val (.ref b4), .val (.int (0 : Int32)), .unset, .unset, .unset] X6 hx (dd at_160) rfl rfl ?_
      refine Gz.iconst 163 (0 : Int32) X6 hx (dd at_162) rfl rfl ?_
      refine Gz.istore 165 #[.val (.int p0), .val (.int p1), .val (.int p2), .val (.int p3), .val (.int p4), .val (.int p5), .val (.int (0 : Int32)), .val (.int (0 : Int32)), .val (.int rr), .val (.int (p1.toInt8.toInt32)), .val (.ref b3), .val (.ref b4), .val (.int (1 : Int32)), .val (.ref b4), .val (.int (0 : Int32)), .val (.int (0 : Int32)), .unset, .unset] X6 hx (dd at_163) rfl rfl ?_
      refine Gz.iload 167 X6 hx (dd at_165) rfl rfl ?_
      refine Gz.ifYes 228 X6 hx (dd at_167) ((if0 _ _).trans (teq (by decide : (0 : Int32) = (0 : Int32))).1) (by decide) (by decide) ?_
      refine Gz.iload 230 X6 hx (dd at_228) rfl rfl ?_
      by_cases hc7 : (p1.toInt8.toInt32) < (0 : Int32)
      · refine Gz.ifYes 237 X6 hx (dd at_230) ((if0 _ _).trans (tlt hc7).1) (by decide) (by decide) ?_
        refine Gz.iconst 238 (2 : Int32) X6 hx (dd at_237) rfl rfl ?_
        refine Gz.istore 240 #[.val (.int p0), .val (.int p1), .val (.int p2), .val (.int p3), .val (.int p4), .val (.int p5), .val (.int (0 : Int32)), .val (.int (0 : Int32)), .val (.int rr), .val (.int (p1.toInt8.toInt32)), .val (.ref b3), .val (.ref b4), .val (.int (1 : Int32)), .val (.ref b4), .val (.int (0 : Int32)), .val (.int (0 : Int32)), .val (.int (2 : Int32)), .unset] X6 hx (dd at_238) rfl rfl ?_
        exact sg_0_x_2 (.val (.int p0)) (.val (.int p1)) (.val (.int p2)) (.val (.int p3)) (.val (.int p4)) (.val (.int p5)) (.val (.int (0 : Int32))) (.val (.int (0 : Int32))) rr (.val (.int (p1.toInt8.toInt32))) (.val (.ref b3)) (.val (.ref b4)) b4 (.unset) b3 k3 n0 X6 hx hZ hw hby hml hown hret hlk e6 N6 SZ5 QE5_0 QF5_0 QF5_1 QF5_2 g_b4 f5_Vb3 ne_b3_b4
      · refine Gz.ifNo 233 X6 hx (dd at_230) ((if0 _ _).trans (flt hc7).1) rfl ?_
        refine Gz.iconst 234 (1 : Int32) X6 hx (dd at_233) rfl rfl ?_
        refine Gz.goto 238 X6 hx (dd at_234) (by decide) (by decide) ?_
        refine Gz.istore 240 #[.val (.int p0), .val (.int p1), .val (.int p2), .val (.int p3), .val (.int p4), .val (.int p5), .val (.int (0 : Int32)), .val (.int (0 : Int32)), .val (.int rr), .val (.int (p1.toInt8.toInt32)), .val (.ref b3), .val (.ref b4), .val (.int (1 : Int32)), .val (.ref b4), .val (.int (0 : Int32)), .val (.int (0 : Int32)), .val (.int (1 : Int32)), .unset] X6 hx (dd at_238) rfl rfl ?_
        exact sg_0_x_1 (.val (.int p0)) (.val (.int p1)) (.val (.int p2)) (.val (.int p3)) (.val (.int p4)) (.val (.int p5)) (.val (.int (0 : Int32))) (.val (.int (0 : Int32))) rr (.val (.int (p1.toInt8.toInt32))) (.val (.ref b3)) (.val (.ref b4)) b4 (.unset) b3 k3 n0 X6 hx hZ hw hby hml hown hret hlk e6 N6 SZ5 QE5_0 QF5_0 QF5_1 QF5_2 g_b4 f5_Vb3 ne_b3_b4
    · refine Gz.ifNo 17 X0 hx (dd at_14) ((if0 _ _).trans (feq hc2).1) rfl ?_
      refine Gz.iload 19 X0 hx (dd at_17) rfl rfl ?_
      refine Gz.ifYes 26 X0 hx (dd at_19) ((if0 _ _).trans (flt (by decide : ¬ ((0 : Int32) < (0 : Int32)))).2.2.2) (by decide) (by decide) ?_
      refine Gz.iconst 27 (0 : Int32) X0 hx (dd at_26) rfl rfl ?_
      refine Gz.istore 29 #[.val (.int p0), .val (.int p1), .val (.int p2), .val (.int p3), .val (.int p4), .val (.int p5), .val (.int (0 : Int32)), .val (.int (0 : Int32)), .unset, .unset, .unset, .unset, .unset, .unset, .unset, .unset, .unset, .unset] X0 hx (dd at_27) rfl rfl ?_
      refine Gz.iload 31 X0 hx (dd at_29) rfl rfl ?_
      refine Gz.iconst 32 (3 : Int32) X0 hx (dd at_31) rfl rfl ?_
      refine Gz.iand 33 X0 hx (dd at_32) rfl ?_
      show Gz p e below s _ _ _ (s₁.setTop (mkF m 33 #[.val (.int p0), .val (.int p1), .val (.int p2), .val (.int p3), .val (.int p4), .val (.int p5), .val (.int (0 : Int32)), .val (.int (0 : Int32)), .unset, .unset, .unset, .unset, .unset, .unset, .unset, .unset, .unset, .unset] [(.int (p5 &&& (3 : Int32)))]))
      obtain ⟨rr, q_rr⟩ : ∃ z, (p5 &&& (3 : Int32)) = z := ⟨_, rfl⟩
      rw [q_rr]
      show Gz p e below s _ _ _ (s₁.setTop (mkF m 33 #[.val (.int p0), .val (.int p1), .val (.int p2), .val (.int p3), .val (.int p4), .val (.int p5), .val (.int (0 : Int32)), .val (.int (0 : Int32)), .unset, .unset, .unset, .unset, .unset, .unset, .unset, .unset, .unset, .unset] [(.int rr)]))
      refine Gz.istore 35 #[.val (.int p0), .val (.int p1), .val (.int p2), .val (.int p3), .val (.int p4), .val (.int p5), .val (.int (0 : Int32)), .val (.int (0 : Int32)), .val (.int rr), .unset, .unset, .unset, .unset, .unset, .unset, .unset, .unset, .unset] X0 hx (dd at_33) rfl rfl ?_
      refine Gz.iload 37 X0 hx (dd at_35) rfl rfl ?_
      refine Gz.ifYes 51 X0 hx (dd at_37) ((if0 _ _).trans (teq (by decide : (0 : Int32) = (0 : Int32))).1) (by decide) (by decide) ?_
      refine Gz.iloadN 52 X0 hx (dd at_51) rfl rfl ?_
      refine Gz.i2b 53 X0 hx (dd at_52) rfl ?_
      refine Gz.istore 55 #[.val (.int p0), .val (.int p1), .val (.int p2), .val (.int p3), .val (.int p4), .val (.int p5), .val (.int (0 : Int32)), .val (.int (0 : Int32)), .val (.int rr), .val (.int (p1.toInt8.toInt32)), .unset, .unset, .unset, .unset, .unset, .unset, .unset, .unset] X0 hx (dd at_53) rfl rfl ?_
      refine Gz.iload 57 X0 hx (dd at_55) rfl rfl ?_
      obtain ⟨T8, h8, k8, X8, e8, E8, A8, Q8, st8⟩ := newPE X0 hx hZ (ww hw 1 rfl) e0 (g := (mkF m 57 #[.val (.int p0), .val (.int p1), .val (.int p2), .val (.int p3), .val (.int p4), .val (.int p5), .val (.int (0 : Int32)), .val (.int (0 : Int32)), .val (.int rr), .val (.int (p1.toInt8.toInt32)), .unset, .unset, .unset, .unset, .unset, .unset, .unset, .unset] [(.int (0 : Int32))])) rfl (dd at_57) rfl (by decide) (cap := 0) (by decide) (by decide) (by decide) (by decide) (ad := "[B") rfl
      obtain ⟨b8, g8⟩ : ∃ z, z = h0.size := ⟨_, rfl⟩
      rw [← g8] at A8 Q8 st8
      have g_b8 : n0 ≤ b8 := Nat.le_trans Z0 (Nat.le_of_eq g8.symm)
      have SZ8 : n0 ≤ h8.size := Nat.le_trans Z0 E8.1
      have f8_S_st_MESSAGE := Sta.ext E8 S_st_MESSAGE
      have V8 : Arv Z h8 b8 k8 .byte (0 : Int32) [] (.int (0 : Int32)) := (Arv.new A8 (by decide)).pad (pad_rep [] (.int (0 : Int32)) 0)
      refine Gz.st st8 ?_
      refine Gz.astore 61 #[.val (.int p0), .val (.int p1), .val (.int p2), .val (.int p3), .val (.int p4), .val (.int p5), .val (.int (0 : Int32)), .val (.int (0 : Int32)), .val (.int rr), .val (.int (p1.toInt8.toInt32)), .val (.ref b8), .unset, .unset, .unset, .unset, .unset, .unset, .unset] X8 hx (dd at_59) rfl rfl rfl ?_
      refine Gz.iload 63 X8 hx (dd at_61) rfl rfl ?_
      refine Gz.ifYes 72 X8 hx (dd at_63) ((if0 _ _).trans (flt (by decide : ¬ ((0 : Int32) < (0 : Int32)))).2.2.2) (by decide) (by decide) ?_
      refine Gz.iload 74 X8 hx (dd at_72) rfl rfl ?_
      refine Gz.iconst 75 (1 : Int32) X8 hx (dd at_74) rfl rfl ?_
      refine Gz.icmpYes 87 X8 hx (dd at_75) (flt (by decide : ¬ ((1 : Int32) < (0 : Int32)))).2.2.2 (by decide) (by decide) ?_
      refine Gz.iload 89 X8 hx (dd at_87) rfl rfl ?_
      refine Gz.iconst 90 (2 : Int32) X8 hx (dd at_89) rfl rfl ?_
      refine Gz.icmpYes 102 X8 hx (dd at_90) (flt (by decide : ¬ ((2 : Int32) < (0 : Int32)))).2.2.2 (by decide) (by decide) ?_
      refine Gz.iload 104 X8 hx (dd at_102) rfl rfl ?_
      refine Gz.iconst 105 (3 : Int32) X8 hx (dd at_104) rfl rfl ?_
      refine Gz.icmpYes 118 X8 hx (dd at_105) (flt (by decide : ¬ ((3 : Int32) < (0 : Int32)))).2.2.2 (by decide) (by decide) ?_
      obtain ⟨T9, h9, X9, e9, E9, A9, D9, -, st9⟩ := newO X8 hx hZ hown (ww hw 2 rfl) (ww hw 3 rfl) (ww hw 4 rfl) e8 (g := (mkF m 118 #[.val (.int p0), .val (.int p1), .val (.int p2), .val (.int p3), .val (.int p4), .val (.int p5), .val (.int (0 : Int32)), .val (.int (0 : Int32)), .val (.int rr), .val (.int (p1.toInt8.toInt32)), .val (.ref b8), .unset, .unset, .unset, .unset, .unset, .unset, .unset] [])) rfl (dd at_118) (by decide) (by decide)
      obtain ⟨b9, g9⟩ : ∃ z, z = h8.size := ⟨_, rfl⟩
      rw [← g9] at A9 D9 st9
      have ne_b8_b9 : b8 ≠ b9 := Nat.ne_of_lt (Nat.lt_of_lt_of_le (Q8).lt (Nat.le_of_eq g9.symm))
      have g_b9 : n0 ≤ b9 := Nat.le_trans SZ8 (Nat.le_of_eq g9.symm)
      have SZ9 : n0 ≤ h9.size := Nat.le_trans SZ8 E9.1
      have f9_S_st_MESSAGE := Sta.ext E9 f8_S_st_MESSAGE
      have f9_Eb8 := Exa.ext E9 Q8
      have f9_Vb8 := Arv.ext V8 E9
      have F_bytes_b9 : Fld Z h9 b9 "com/example/bad_status/badstatus/model/ProtoReader" "bytes" "[B" .null := D9 (Or.inr (ww hw 15 rfl)) (ty := (.array .byte)) (by decide)
      have F_position_b9 : Fld Z h9 b9 "com/example/bad_status/badstatus/model/ProtoReader" "position" "I" (.int (0 : Int32)) := D9 (Or.inl (ww hw 17 rfl)) (ty := .int) (by decide)
      have F_end_b9 : Fld Z h9 b9 "com/example/bad_status/badstatus/model/ProtoReader" "end" "I" (.int (0 : Int32)) := D9 (Or.inr (ww hw 19 rfl)) (ty := .int) (by decide)
      have F_place_b9 : Fld Z h9 b9 "com/example/bad_status/badstatus/model/ProtoReader" "place" "Lcom/example/bad_status/badstatus/model/Place;" .null := D9 (Or.inr (ww hw 21 rfl)) (ty := (.object "com/example/bad_status/badstatus/model/Place")) (by decide)
      refine Gz.st st9 ?_
      refine Gz.dup 122 X9 hx (dd at_121) rfl rfl ?_
      refine Gz.aload 124 X9 hx (dd at_122) rfl rfl rfl ?_
      obtain ⟨_, _, ⟨T10, L10, k10, n10⟩, -, X10, ⟨Lc10, hQ10, l10, y10, z10⟩, st10⟩ := X9.specialBack hx (y := ym4) rfl hown (mvT hZ (ww hw 5 rfl)) (mvT hZ (ww hw 6 rfl)) (mvT hZ (ww hw 7 rfl)) (by decide) (backOf (W := 1) (rmI1_0 l Z av0 hw [] b9 b8 k8 h9 n0 SZ9 A9 F_bytes_b9 F_position_b9 F_end_b9 F_place_b9 g_b9 f9_Vb8 ne_b8_b9) hZ (ww hw 7 rfl) (ww hw 4 rfl) (by decide) (by decide)) (g := (mkF m 124 #[.val (.int p0), .val (.int p1), .val (.int p2), .val (.int p3), .val (.int p4), .val (.int p5), .val (.int (0 : Int32)), .val (.int (0 : Int32)), .val (.int rr), .val (.int (p1.toInt8.toInt32)), .val (.ref b8), .unset, .unset, .unset, .unset, .unset, .unset, .unset] [(.ref b8), (.ref b9), (.ref b9)])) rfl (by rw [hml]; rfl) (Steps.refl _) (a := b9) (argsL := [(.ref b8)]) (rest := [(.ref b9)]) (lenOf pd_4 rfl) rfl (Nat.le_refl _) (dd at_124) (fun _ _ => ⟨rfl, e9, (by decide : 2 + 0 ≤ _), (by decide : 4 + 0 ≤ _)⟩)
      dsimp only [Pt.U, Pt.locs, Pt.cells, Pt.slots, Q_rmI1_0] at X10 l10 y10 z10 st10 hQ10
      subst l10 y10 z10
      obtain ⟨rfl, N10q, K10q, QE10_0, QF10_0, QF10_1, QF10_2, QF10_3⟩ := hQ10
      have N10 := Fr.app N0 N10q
      have f10_S_st_MESSAGE := own_staK f9_S_st_MESSAGE K10q (allS (nst_of A9) all0)
      have f10_Eb8 := Exa.keep f9_Eb8 K10q
      have f10_Vb8 := Arv.keep f9_Vb8 K10q (ninS ne_b8_b9 nin0)
      have f10_Eb9 := Exa.keep A9 K10q
      have SZ10 := Nat.le_trans SZ9 K10q.1
      refine Gz.tr st10 ?_
      refine Gz.astore 129 #[.val (.int p0), .val (.int p1), .val (.int p2), .val (.int p3), .val (.int p4), .val (.int p5), .val (.int (0 : Int32)), .val (.int (0 : Int32)), .val (.int rr), .val (.int (p1.toInt8.toInt32)), .val (.ref b8), .val (.ref b9), .unset, .unset, .unset, .unset, .unset, .unset] X10 hx (dd at_127) rfl rfl rfl ?_
      refine Gz.aload 131 X10 hx (dd at_129) rfl rfl rfl ?_
      obtain ⟨cq11, kq11, q11a, q11b, q11c⟩ := isOf hZ rfl QE10_0
      obtain ⟨_, _, ⟨T11, L11, k11, n11⟩, -, X11, ⟨Lc11, hQ11, l11, y11, z11⟩, st11⟩ := X10.virtualBack hx (y := ym3) (z := ym3) hown (mvT hZ (ww hw 22 rfl)) (mvT hZ (ww hw 23 rfl)) (notFace_of_selects (args := #[]) (mvT hZ (ww hw 25 rfl))) (mvT hZ (ww hw 25 rfl)) (mvT hZ (ww hw 24 rfl)) (by decide) (backOf (W := 0) (rm4 l Z av0 hw [] b9 (0 : Int32) (0 : Int32) T10.heap n0 SZ10 QF10_1 QF10_2) hZ (ww hw 26 rfl) (ww hw 4 rfl) (by decide) (by decide)) q11a q11c (g := (mkF m 131 #[.val (.int p0), .val (.int p1), .val (.int p2), .val (.int p3), .val (.int p4), .val (.int p5), .val (.int (0 : Int32)), .val (.int (0 : Int32)), .val (.int rr), .val (.int (p1.toInt8.toInt32)), .val (.ref b8), .val (.ref b9), .unset, .unset, .unset, .unset, .unset, .unset] [(.ref b9)])) rfl (by rw [hml]; rfl) (Steps.refl _) (argsL := []) (rest := []) (lenOf pd_3 rfl) rfl (Nat.le_refl _) (dd at_131) (fun _ _ => ⟨rfl, rfl, (by decide : 2 + 0 ≤ _), (by decide : 4 + 0 ≤ _)⟩)
      dsimp only [Pt.U, Pt.locs, Pt.cells, Pt.slots, Q_rm4] at X11 l11 y11 z11 st11 hQ11
      subst l11 y11 z11
      rw [show (fHM b9 (0 : Int32) (0 : Int32)) = (0 : Int32) from (by unfold fHM; rw [if_neg (by decide : ¬ ((0 : Int32) < (0 : Int32)))]; try decide)] at hQ11
      obtain ⟨rfl, N11q, e11⟩ := hQ11
      have N11 := Fr.app N10 N11q
      refine Gz.tr st11 ?_
      refine Gz.iload 136 X11 hx (dd at_134) rfl rfl ?_
      refine Gz.ifYes 143 X11 hx (dd at_136) ((if0 _ _).trans (flt (by decide : ¬ ((0 : Int32) < (0 : Int32)))).2.2.2) (by decide) (by decide) ?_
      refine Gz.iconst 144 (0 : Int32) X11 hx (dd at_143) rfl rfl ?_
      refine Gz.icmpNo 147 X11 hx (dd at_144) (teq (by decide : (0 : Int32) = (0 : Int32))).2 rfl ?_
      refine Gz.iconst 148 (1 : Int32) X11 hx (dd at_147) rfl rfl ?_
      refine Gz.goto 152 X11 hx (dd at_148) (by decide) (by decide) ?_
      refine Gz.istore 154 #[.val (.int p0), .val (.int p1), .val (.int p2), .val (.int p3), .val (.int p4), .val (.int p5), .val (.int (0 : Int32)), .val (.int (0 : Int32)), .val (.int rr), .val (.int (p1.toInt8.toInt32)), .val (.ref b8), .val (.ref b9), .val (.int (1 : Int32)), .unset, .unset, .unset, .unset, .unset] X11 hx (dd at_152) rfl rfl ?_
      refine Gz.aload 156 X11 hx (dd at_154) rfl rfl rfl ?_
      refine Gz.astore 158 #[.val (.int p0), .val (.int p1), .val (.int p2), .val (.int p3), .val (.int p4), .val (.int p5), .val (.int (0 : Int32)), .val (.int (0 : Int32)), .val (.int rr), .val (.int (p1.toInt8.toInt32)), .val (.ref b8), .val (.ref b9), .val (.int (1 : Int32)), .val (.ref b9), .unset, .unset, .unset, .unset] X11 hx (dd at_156) rfl rfl rfl ?_
      refine Gz.iload 160 X11 hx (dd at_158) rfl rfl ?_
      refine Gz.istore 162 #[.val (.int p0), .val (.int p1), .val (.int p2), .val (.int p3), .val (.int p4), .val (.int p5), .val (.int (0 : Int32)), .val (.int (0 : Int32)), .val (.int rr), .val (.int (p1.toInt8.toInt32)), .val (.ref b8), .val (.ref b9), .val (.int (1 : Int32)), .val (.ref b9), .val (.int (0 : Int32)), .unset, .unset, .unset] X11 hx (dd at_160) rfl rfl ?_
      refine Gz.iconst 163 (0 : Int32) X11 hx (dd at_162) rfl rfl ?_
      refine Gz.istore 165 #[.val (.int p0), .val (.int p1), .val (.int p2), .val (.int p3), .val (.int p4), .val (.int p5), .val (.int (0 : Int32)), .val (.int (0 : Int32)), .val (.int rr), .val (.int (p1.toInt8.toInt32)), .val (.ref b8), .val (.ref b9), .val (.int (1 : Int32)), .val (.ref b9), .val (.int (0 : Int32)), .val (.int (0 : Int32)), .unset, .unset] X11 hx (dd at_163) rfl rfl ?_
      refine Gz.iload 167 X11 hx (dd at_165) rfl rfl ?_
      refine Gz.ifYes 228 X11 hx (dd at_167) ((if0 _ _).trans (teq (by decide : (0 : Int32) = (0 : Int32))).1) (by decide) (by decide) ?_
      refine Gz.iload 230 X11 hx (dd at_228) rfl rfl ?_
      by_cases hc12 : (p1.toInt8.toInt32) < (0 : Int32)
      · refine Gz.ifYes 237 X11 hx (dd at_230) ((if0 _ _).trans (tlt hc12).1) (by decide) (by decide) ?_
        refine Gz.iconst 238 (2 : Int32) X11 hx (dd at_237) rfl rfl ?_
        refine Gz.istore 240 #[.val (.int p0), .val (.int p1), .val (.int p2), .val (.int p3), .val (.int p4), .val (.int p5), .val (.int (0 : Int32)), .val (.int (0 : Int32)), .val (.int rr), .val (.int (p1.toInt8.toInt32)), .val (.ref b8), .val (.ref b9), .val (.int (1 : Int32)), .val (.ref b9), .val (.int (0 : Int32)), .val (.int (0 : Int32)), .val (.int (2 : Int32)), .unset] X11 hx (dd at_238) rfl rfl ?_
        exact sg_0_x_2 (.val (.int p0)) (.val (.int p1)) (.val (.int p2)) (.val (.int p3)) (.val (.int p4)) (.val (.int p5)) (.val (.int (0 : Int32))) (.val (.int (0 : Int32))) rr (.val (.int (p1.toInt8.toInt32))) (.val (.ref b8)) (.val (.ref b9)) b9 (.unset) b8 k8 n0 X11 hx hZ hw hby hml hown hret hlk e11 N11 SZ10 QE10_0 QF10_0 QF10_1 QF10_2 g_b9 f10_Vb8 ne_b8_b9
      · refine Gz.ifNo 233 X11 hx (dd at_230) ((if0 _ _).trans (flt hc12).1) rfl ?_
        refine Gz.iconst 234 (1 : Int32) X11 hx (dd at_233) rfl rfl ?_
        refine Gz.goto 238 X11 hx (dd at_234) (by decide) (by decide) ?_
        refine Gz.istore 240 #[.val (.int p0), .val (.int p1), .val (.int p2), .val (.int p3), .val (.int p4), .val (.int p5), .val (.int (0 : Int32)), .val (.int (0 : Int32)), .val (.int rr), .val (.int (p1.toInt8.toInt32)), .val (.ref b8), .val (.ref b9), .val (.int (1 : Int32)), .val (.ref b9), .val (.int (0 : Int32)), .val (.int (0 : Int32)), .val (.int (1 : Int32)), .unset] X11 hx (dd at_238) rfl rfl ?_
        exact sg_0_x_1 (.val (.int p0)) (.val (.int p1)) (.val (.int p2)) (.val (.int p3)) (.val (.int p4)) (.val (.int p5)) (.val (.int (0 : Int32))) (.val (.int (0 : Int32))) rr (.val (.int (p1.toInt8.toInt32))) (.val (.ref b8)) (.val (.ref b9)) b9 (.unset) b8 k8 n0 X11 hx hZ hw hby hml hown hret hlk e11 N11 SZ10 QE10_0 QF10_0 QF10_1 QF10_2 g_b9 f10_Vb8 ne_b8_b9
  · rw [hs1]
    refine Gz.istore 8 #[.val (.int p0), .val (.int p1), .val (.int p2), .val (.int p3), .val (.int p4), .val (.int p5), .val (.int (1 : Int32)), .unset, .unset, .unset, .unset, .unset, .unset, .unset, .unset, .unset, .unset, .unset] X0 hx (dd at_6) rfl rfl ?_
    refine Gz.iload 10 X0 hx (dd at_8) rfl rfl ?_
    refine Gz.iconst 11 (2 : Int32) X0 hx (dd at_10) rfl rfl ?_
    refine Gz.iushr 12 X0 hx (dd at_11) rfl ?_
    refine Gz.iconst 13 (1 : Int32) X0 hx (dd at_12) rfl rfl ?_
    refine Gz.iand 14 X0 hx (dd at_13) rfl ?_
    by_cases hc13 : (((p5.toUInt32 >>> ((2 : Int32) &&& 31).toUInt32).toInt32) &&& (1 : Int32)) = (0 : Int32)
    · refine Gz.ifYes 26 X0 hx (dd at_14) ((if0 _ _).trans (teq hc13).1) (by decide) (by decide) ?_
      refine Gz.iconst 27 (0 : Int32) X0 hx (dd at_26) rfl rfl ?_
      refine Gz.istore 29 #[.val (.int p0), .val (.int p1), .val (.int p2), .val (.int p3), .val (.int p4), .val (.int p5), .val (.int (1 : Int32)), .val (.int (0 : Int32)), .unset, .unset, .unset, .unset, .unset, .unset, .unset, .unset, .unset, .unset] X0 hx (dd at_27) rfl rfl ?_
      refine Gz.iload 31 X0 hx (dd at_29) rfl rfl ?_
      refine Gz.iconst 32 (3 : Int32) X0 hx (dd at_31) rfl rfl ?_
      refine Gz.iand 33 X0 hx (dd at_32) rfl ?_
      show Gz p e below s _ _ _ (s₁.setTop (mkF m 33 #[.val (.int p0), .val (.int p1), .val (.int p2), .val (.int p3), .val (.int p4), .val (.int p5), .val (.int (1 : Int32)), .val (.int (0 : Int32)), .unset, .unset, .unset, .unset, .unset, .unset, .unset, .unset, .unset, .unset] [(.int (p5 &&& (3 : Int32)))]))
      obtain ⟨rr, q_rr⟩ : ∃ z, (p5 &&& (3 : Int32)) = z := ⟨_, rfl⟩
      rw [q_rr]
      show Gz p e below s _ _ _ (s₁.setTop (mkF m 33 #[.val (.int p0), .val (.int p1), .val (.int p2), .val (.int p3), .val (.int p4), .val (.int p5), .val (.int (1 : Int32)), .val (.int (0 : Int32)), .unset, .unset, .unset, .unset, .unset, .unset, .unset, .unset, .unset, .unset] [(.int rr)]))
      refine Gz.istore 35 #[.val (.int p0), .val (.int p1), .val (.int p2), .val (.int p3), .val (.int p4), .val (.int p5), .val (.int (1 : Int32)), .val (.int (0 : Int32)), .val (.int rr), .unset, .unset, .unset, .unset, .unset, .unset, .unset, .unset, .unset] X0 hx (dd at_33) rfl rfl ?_
      refine Gz.iload 37 X0 hx (dd at_35) rfl rfl ?_
      refine Gz.ifYes 51 X0 hx (dd at_37) ((if0 _ _).trans (teq (by decide : (0 : Int32) = (0 : Int32))).1) (by decide) (by decide) ?_
      refine Gz.iloadN 52 X0 hx (dd at_51) rfl rfl ?_
      refine Gz.i2b 53 X0 hx (dd at_52) rfl ?_
      refine Gz.istore 55 #[.val (.int p0), .val (.int p1), .val (.int p2), .val (.int p3), .val (.int p4), .val (.int p5), .val (.int (1 : Int32)), .val (.int (0 : Int32)), .val (.int rr), .val (.int (p1.toInt8.toInt32)), .unset, .unset, .unset, .unset, .unset, .unset, .unset, .unset] X0 hx (dd at_53) rfl rfl ?_
      refine Gz.iload 57 X0 hx (dd at_55) rfl rfl ?_
      obtain ⟨T14, h14, k14, X14, e14, E14, A14, Q14, st14⟩ := newPE X0 hx hZ (ww hw 1 rfl) e0 (g := (mkF m 57 #[.val (.int p0), .val (.int p1), .val (.int p2), .val (.int p3), .val (.int p4), .val (.int p5), .val (.int (1 : Int32)), .val (.int (0 : Int32)), .val (.int rr), .val (.int (p1.toInt8.toInt32)), .unset, .unset, .unset, .unset, .unset, .unset, .unset, .unset] [(.int (1 : Int32))])) rfl (dd at_57) rfl (by decide) (cap := 1) (by decide) (by decide) (by decide) (by decide) (ad := "[B") rfl
      obtain ⟨b14, g14⟩ : ∃ z, z = h0.size := ⟨_, rfl⟩
      rw [← g14] at A14 Q14 st14
      have g_b14 : n0 ≤ b14 := Nat.le_trans Z0 (Nat.le_of_eq g14.symm)
      have SZ14 : n0 ≤ h14.size := Nat.le_trans Z0 E14.1
      have f14_S_st_MESSAGE := Sta.ext E14 S_st_MESSAGE
      have V14 : Arv Z h14 b14 k14 .byte (1 : Int32) [(.int (0 : Int32))] (.int (0 : Int32)) := (Arv.new A14 (by decide)).pad (pad_rep [] (.int (0 : Int32)) 1)
      refine Gz.st st14 ?_
      refine Gz.astore 61 #[.val (.int p0), .val (.int p1), .val (.int p2), .val (.int p3), .val (.int p4), .val (.int p5), .val (.int (1 : Int32)), .val (.int (0 : Int32)), .val (.int rr), .val (.int (p1.toInt8.toInt32)), .val (.ref b14), .unset, .unset, .unset, .unset, .unset, .unset, .unset] X14 hx (dd at_59) rfl rfl rfl ?_
      refine Gz.iload 63 X14 hx (dd at_61) rfl rfl ?_
      refine Gz.ifNo 66 X14 hx (dd at_63) ((if0 _ _).trans (tlt (by decide : (0 : Int32) < (1 : Int32))).2.2.2) rfl ?_
      refine Gz.aload 68 X14 hx (dd at_66) rfl rfl rfl ?_
      refine Gz.iconst 69 (0 : Int32) X14 hx (dd at_68) rfl rfl ?_
      refine Gz.iload 71 X14 hx (dd at_69) rfl rfl ?_
      obtain ⟨c15, A15, q15, S15, N15, H15, G15⟩ := id V14
      have hin15 : ¬ ((0 : Int32) < 0 ∨ c15.slots.size ≤ ((0 : Int32)).toNatClampNeg) := inb_of S15 ⟨by decide, by decide⟩
      refine Gz.stB 72 X14 hx hZ (dd at_71) e14 A15 hin15 rfl fun T16 h16 X16 e16 W16 => ?_
      rw [own_nb] at W16
      have V16 := Arv.set A15 q15 S15 N15 H15 G15 (fits_nar_byte _) W16 0 rfl (Nat.le_of_ble_eq_true rfl)
      replace V16 : Arv Z h16 b14 k14 .byte (1 : Int32) [(.int (p1.toInt8.toInt32))] (.int (0 : Int32)) := V16
      have f16_S_st_MESSAGE := Sta.wr W16 f14_S_st_MESSAGE
      have f16_Eb14 := Exa.wr W16 Q14
      have N16 := Fr.snoc X16 N0 g_b14
      have SZ16 : n0 ≤ h16.size := Nat.le_trans SZ14 (Keep.of_wr W16).1
      refine Gz.iload 74 X16 hx (dd at_72) rfl rfl ?_
      refine Gz.iconst 75 (1 : Int32) X16 hx (dd at_74) rfl rfl ?_
      refine Gz.icmpYes 87 X16 hx (dd at_75) (flt (by decide : ¬ ((1 : Int32) < (1 : Int32)))).2.2.2 (by decide) (by decide) ?_
      refine Gz.iload 89 X16 hx (dd at_87) rfl rfl ?_
      refine Gz.iconst 90 (2 : Int32) X16 hx (dd at_89) rfl rfl ?_
      refine Gz.icmpYes 102 X16 hx (dd at_90) (flt (by decide : ¬ ((2 : Int32) < (1 : Int32)))).2.2.2 (by decide) (by decide) ?_
      refine Gz.iload 104 X16 hx (dd at_102) rfl rfl ?_
      refine Gz.iconst 105 (3 : Int32) X16 hx (dd at_104) rfl rfl ?_
      refine Gz.icmpYes 118 X16 hx (dd at_105) (flt (by decide : ¬ ((3 : Int32) < (1 : Int32)))).2.2.2 (by decide) (by decide) ?_
      obtain ⟨T17, h17, X17, e17, E17, A17, D17, -, st17⟩ := newO X16 hx hZ hown (ww hw 2 rfl) (ww hw 3 rfl) (ww hw 4 rfl) e16 (g := (mkF m 118 #[.val (.int p0), .val (.int p1), .val (.int p2), .val (.int p3), .val (.int p4), .val (.int p5), .val (.int (1 : Int32)), .val (.int (0 : Int32)), .val (.int rr), .val (.int (p1.toInt8.toInt32)), .val (.ref b14), .unset, .unset, .unset, .unset, .unset, .unset, .unset] [])) rfl (dd at_118) (by decide) (by decide)
      obtain ⟨b17, g17⟩ : ∃ z, z = h16.size := ⟨_, rfl⟩
      rw [← g17] at A17 D17 st17
      have ne_b14_b17 : b14 ≠ b17 := Nat.ne_of_lt (Nat.lt_of_lt_of_le (f16_Eb14).lt (Nat.le_of_eq g17.symm))
      have g_b17 : n0 ≤ b17 := Nat.le_trans SZ16 (Nat.le_of_eq g17.symm)
      have SZ17 : n0 ≤ h17.size := Nat.le_trans SZ16 E17.1
      have f17_S_st_MESSAGE := Sta.ext E17 f16_S_st_MESSAGE
      have f17_Eb14 := Exa.ext E17 f16_Eb14
      have f17_Vb14 := Arv.ext V16 E17
      have F_bytes_b17 : Fld Z h17 b17 "com/example/bad_status/badstatus/model/ProtoReader" "bytes" "[B" .null := D17 (Or.inr (ww hw 15 rfl)) (ty := (.array .byte)) (by decide)
      have F_position_b17 : Fld Z h17 b17 "com/example/bad_status/badstatus/model/ProtoReader" "position" "I" (.int (0 : Int32)) := D17 (Or.inl (ww hw 17 rfl)) (ty := .int) (by decide)
      have F_end_b17 : Fld Z h17 b17 "com/example/bad_status/badstatus/model/ProtoReader" "end" "I" (.int (0 : Int32)) := D17 (Or.inr (ww hw 19 rfl)) (ty := .int) (by decide)
      have F_place_b17 : Fld Z h17 b17 "com/example/bad_status/badstatus/model/ProtoReader" "place" "Lcom/example/bad_status/badstatus/model/Place;" .null := D17 (Or.inr (ww hw 21 rfl)) (ty := (.object "com/example/bad_status/badstatus/model/Place")) (by decide)
      refine Gz.st st17 ?_
      refine Gz.dup 122 X17 hx (dd at_121) rfl rfl ?_
      refine Gz.aload 124 X17 hx (dd at_122) rfl rfl rfl ?_
      obtain ⟨_, _, ⟨T18, L18, k18, n18⟩, -, X18, ⟨Lc18, hQ18, l18, y18, z18⟩, st18⟩ := X17.specialBack hx (y := ym4) rfl hown (mvT hZ (ww hw 5 rfl)) (mvT hZ (ww hw 6 rfl)) (mvT hZ (ww hw 7 rfl)) (by decide) (backOf (W := 1) (rmI1_1 l Z av0 hw [] b17 b14 k14 (p1.toInt8.toInt32) h17 n0 SZ17 A17 F_bytes_b17 F_position_b17 F_end_b17 F_place_b17 g_b17 f17_Vb14 ne_b14_b17) hZ (ww hw 7 rfl) (ww hw 4 rfl) (by decide) (by decide)) (g := (mkF m 124 #[.val (.int p0), .val (.int p1), .val (.int p2), .val (.int p3), .val (.int p4), .val (.int p5), .val (.int (1 : Int32)), .val (.int (0 : Int32)), .val (.int rr), .val (.int (p1.toInt8.toInt32)), .val (.ref b14), .unset, .unset, .unset, .unset, .unset, .unset, .unset] [(.ref b14), (.ref b17), (.ref b17)])) rfl (by rw [hml]; rfl) (Steps.refl _) (a := b17) (argsL := [(.ref b14)]) (rest := [(.ref b17)]) (lenOf pd_4 rfl) rfl (Nat.le_refl _) (dd at_124) (fun _ _ => ⟨rfl, e17, (by decide : 2 + 0 ≤ _), (by decide : 5 + 0 ≤ _)⟩)
      dsimp only [Pt.U, Pt.locs, Pt.cells, Pt.slots, Q_rmI1_1] at X18 l18 y18 z18 st18 hQ18
      subst l18 y18 z18
      obtain ⟨rfl, N18q, K18q, QE18_0, QF18_0, QF18_1, QF18_2, QF18_3⟩ := hQ18
      have N18 := Fr.app N16 N18q
      have f18_S_st_MESSAGE := own_staK f17_S_st_MESSAGE K18q (allS (nst_of A17) all0)
      have f18_Eb14 := Exa.keep f17_Eb14 K18q
      have f18_Vb14 := Arv.keep f17_Vb14 K18q (ninS ne_b14_b17 nin0)
      have f18_Eb17 := Exa.keep A17 K18q
      have SZ18 := Nat.le_trans SZ17 K18q.1
      refine Gz.tr st18 ?_
      refine Gz.astore 129 #[.val (.int p0), .val (.int p1), .val (.int p2), .val (.int p3), .val (.int p4), .val (.int p5), .val (.int (1 : Int32)), .val (.int (0 : Int32)), .val (.int rr), .val (.int (p1.toInt8.toInt32)), .val (.ref b14), .val (.ref b17), .unset, .unset, .unset, .unset, .unset, .unset] X18 hx (dd at_127) rfl rfl rfl ?_
      refine Gz.aload 131 X18 hx (dd at_129) rfl rfl rfl ?_
      obtain ⟨cq19, kq19, q19a, q19b, q19c⟩ := isOf hZ rfl QE18_0
      obtain ⟨_, _, ⟨T19, L19, k19, n19⟩, -, X19, ⟨Lc19, hQ19, l19, y19, z19⟩, st19⟩ := X18.virtualBack hx (y := ym3) (z := ym3) hown (mvT hZ (ww hw 22 rfl)) (mvT hZ (ww hw 23 rfl)) (notFace_of_selects (args := #[]) (mvT hZ (ww hw 25 rfl))) (mvT hZ (ww hw 25 rfl)) (mvT hZ (ww hw 24 rfl)) (by decide) (backOf (W := 0) (rm4 l Z av0 hw [] b17 (0 : Int32) (1 : Int32) T18.heap n0 SZ18 QF18_1 QF18_2) hZ (ww hw 26 rfl) (ww hw 4 rfl) (by decide) (by decide)) q19a q19c (g := (mkF m 131 #[.val (.int p0), .val (.int p1), .val (.int p2), .val (.int p3), .val (.int p4), .val (.int p5), .val (.int (1 : Int32)), .val (.int (0 : Int32)), .val (.int rr), .val (.int (p1.toInt8.toInt32)), .val (.ref b14), .val (.ref b17), .unset, .unset, .unset, .unset, .unset, .unset] [(.ref b17)])) rfl (by rw [hml]; rfl) (Steps.refl _) (argsL := []) (rest := []) (lenOf pd_3 rfl) rfl (Nat.le_refl _) (dd at_131) (fun _ _ => ⟨rfl, rfl, (by decide : 2 + 0 ≤ _), (by decide : 5 + 0 ≤ _)⟩)
      dsimp only [Pt.U, Pt.locs, Pt.cells, Pt.slots, Q_rm4] at X19 l19 y19 z19 st19 hQ19
      subst l19 y19 z19
      rw [show (fHM b17 (0 : Int32) (1 : Int32)) = (1 : Int32) from (by unfold fHM; rw [if_pos (by decide : (0 : Int32) < (1 : Int32))]; try decide)] at hQ19
      obtain ⟨rfl, N19q, e19⟩ := hQ19
      have N19 := Fr.app N18 N19q
      refine Gz.tr st19 ?_
      refine Gz.iload 136 X19 hx (dd at_134) rfl rfl ?_
      refine Gz.ifNo 139 X19 hx (dd at_136) ((if0 _ _).trans (tlt (by decide : (0 : Int32) < (1 : Int32))).2.2.2) rfl ?_
      refine Gz.iconst 140 (1 : Int32) X19 hx (dd at_139) rfl rfl ?_
      refine Gz.goto 144 X19 hx (dd at_140) (by decide) (by decide) ?_
      refine Gz.icmpNo 147 X19 hx (dd at_144) (teq (by decide : (1 : Int32) = (1 : Int32))).2 rfl ?_
      refine Gz.iconst 148 (1 : Int32) X19 hx (dd at_147) rfl rfl ?_
      refine Gz.goto 152 X19 hx (dd at_148) (by decide) (by decide) ?_
      refine Gz.istore 154 #[.val (.int p0), .val (.int p1), .val (.int p2), .val (.int p3), .val (.int p4), .val (.int p5), .val (.int (1 : Int32)), .val (.int (0 : Int32)), .val (.int rr), .val (.int (p1.toInt8.toInt32)), .val (.ref b14), .val (.ref b17), .val (.int (1 : Int32)), .unset, .unset, .unset, .unset, .unset] X19 hx (dd at_152) rfl rfl ?_
      refine Gz.aload 156 X19 hx (dd at_154) rfl rfl rfl ?_
      refine Gz.astore 158 #[.val (.int p0), .val (.int p1), .val (.int p2), .val (.int p3), .val (.int p4), .val (.int p5), .val (.int (1 : Int32)), .val (.int (0 : Int32)), .val (.int rr), .val (.int (p1.toInt8.toInt32)), .val (.ref b14), .val (.ref b17), .val (.int (1 : Int32)), .val (.ref b17), .unset, .unset, .unset, .unset] X19 hx (dd at_156) rfl rfl rfl ?_
      refine Gz.iload 160 X19 hx (dd at_158) rfl rfl ?_
      refine Gz.istore 162 #[.val (.int p0), .val (.int p1), .val (.int p2), .val (.int p3), .val (.int p4), .val (.int p5), .val (.int (1 : Int32)), .val (.int (0 : Int32)), .val (.int rr), .val (.int (p1.toInt8.toInt32)), .val (.ref b14), .val (.ref b17), .val (.int (1 : Int32)), .val (.ref b17), .val (.int (1 : Int32)), .unset, .unset, .unset] X19 hx (dd at_160) rfl rfl ?_
      refine Gz.iconst 163 (0 : Int32) X19 hx (dd at_162) rfl rfl ?_
      refine Gz.istore 165 #[.val (.int p0), .val (.int p1), .val (.int p2), .val (.int p3), .val (.int p4), .val (.int p5), .val (.int (1 : Int32)), .val (.int (0 : Int32)), .val (.int rr), .val (.int (p1.toInt8.toInt32)), .val (.ref b14), .val (.ref b17), .val (.int (1 : Int32)), .val (.ref b17), .val (.int (1 : Int32)), .val (.int (0 : Int32)), .unset, .unset] X19 hx (dd at_163) rfl rfl ?_
      refine Gz.iload 167 X19 hx (dd at_165) rfl rfl ?_
      refine Gz.ifYes 228 X19 hx (dd at_167) ((if0 _ _).trans (teq (by decide : (0 : Int32) = (0 : Int32))).1) (by decide) (by decide) ?_
      refine Gz.iload 230 X19 hx (dd at_228) rfl rfl ?_
      by_cases hc20 : (p1.toInt8.toInt32) < (0 : Int32)
      · refine Gz.ifYes 237 X19 hx (dd at_230) ((if0 _ _).trans (tlt hc20).1) (by decide) (by decide) ?_
        refine Gz.iconst 238 (2 : Int32) X19 hx (dd at_237) rfl rfl ?_
        refine Gz.istore 240 #[.val (.int p0), .val (.int p1), .val (.int p2), .val (.int p3), .val (.int p4), .val (.int p5), .val (.int (1 : Int32)), .val (.int (0 : Int32)), .val (.int rr), .val (.int (p1.toInt8.toInt32)), .val (.ref b14), .val (.ref b17), .val (.int (1 : Int32)), .val (.ref b17), .val (.int (1 : Int32)), .val (.int (0 : Int32)), .val (.int (2 : Int32)), .unset] X19 hx (dd at_238) rfl rfl ?_
        exact sg_1_x_2 (.val (.int p0)) (.val (.int p1)) (.val (.int p2)) (.val (.int p3)) (.val (.int p4)) (.val (.int p5)) (.val (.int (1 : Int32))) (.val (.int (0 : Int32))) rr (.val (.int (p1.toInt8.toInt32))) (.val (.ref b14)) (.val (.ref b17)) b17 (.unset) b14 k14 (p1.toInt8.toInt32) n0 X19 hx hZ hw hby hml hown hret hlk e19 N19 SZ18 QE18_0 QF18_0 QF18_1 QF18_2 g_b17 f18_Vb14 ne_b14_b17 hc20
      · refine Gz.ifNo 233 X19 hx (dd at_230) ((if0 _ _).trans (flt hc20).1) rfl ?_
        refine Gz.iconst 234 (1 : Int32) X19 hx (dd at_233) rfl rfl ?_
        refine Gz.goto 238 X19 hx (dd at_234) (by decide) (by decide) ?_
        refine Gz.istore 240 #[.val (.int p0), .val (.int p1), .val (.int p2), .val (.int p3), .val (.int p4), .val (.int p5), .val (.int (1 : Int32)), .val (.int (0 : Int32)), .val (.int rr), .val (.int (p1.toInt8.toInt32)), .val (.ref b14), .val (.ref b17), .val (.int (1 : Int32)), .val (.ref b17), .val (.int (1 : Int32)), .val (.int (0 : Int32)), .val (.int (1 : Int32)), .unset] X19 hx (dd at_238) rfl rfl ?_
        exact sg_1_x_1 (.val (.int p0)) (.val (.int p1)) (.val (.int p2)) (.val (.int p3)) (.val (.int p4)) (.val (.int p5)) (.val (.int (1 : Int32))) (.val (.int (0 : Int32))) rr (.val (.int (p1.toInt8.toInt32))) (.val (.ref b14)) (.val (.ref b17)) b17 (.unset) b14 k14 (p1.toInt8.toInt32) n0 X19 hx hZ hw hby hml hown hret hlk e19 N19 SZ18 QE18_0 QF18_0 QF18_1 QF18_2 g_b17 f18_Vb14 ne_b14_b17 hc20
    · refine Gz.ifNo 17 X0 hx (dd at_14) ((if0 _ _).trans (feq hc13).1) rfl ?_
      refine Gz.iload 19 X0 hx (dd at_17) rfl rfl ?_
      refine Gz.ifNo 22 X0 hx (dd at_19) ((if0 _ _).trans (tlt (by decide : (0 : Int32) < (1 : Int32))).2.2.2) rfl ?_
      refine Gz.iconst 23 (1 : Int32) X0 hx (dd at_22) rfl rfl ?_
      refine Gz.goto 27 X0 hx (dd at_23) (by decide) (by decide) ?_
      refine Gz.istore 29 #[.val (.int p0), .val (.int p1), .val (.int p2), .val (.int p3), .val (.int p4), .val (.int p5), .val (.int (1 : Int32)), .val (.int (1 : Int32)), .unset, .unset, .unset, .unset, .unset, .unset, .unset, .unset, .unset, .unset] X0 hx (dd at_27) rfl rfl ?_
      refine Gz.iload 31 X0 hx (dd at_29) rfl rfl ?_
      refine Gz.iconst 32 (3 : Int32) X0 hx (dd at_31) rfl rfl ?_
      refine Gz.iand 33 X0 hx (dd at_32) rfl ?_
      show Gz p e below s _ _ _ (s₁.setTop (mkF m 33 #[.val (.int p0), .val (.int p1), .val (.int p2), .val (.int p3), .val (.int p4), .val (.int p5), .val (.int (1 : Int32)), .val (.int (1 : Int32)), .unset, .unset, .unset, .unset, .unset, .unset, .unset, .unset, .unset, .unset] [(.int (p5 &&& (3 : Int32)))]))
      obtain ⟨rr, q_rr⟩ : ∃ z, (p5 &&& (3 : Int32)) = z := ⟨_, rfl⟩
      rw [q_rr]
      show Gz p e below s _ _ _ (s₁.setTop (mkF m 33 #[.val (.int p0), .val (.int p1), .val (.int p2), .val (.int p3), .val (.int p4), .val (.int p5), .val (.int (1 : Int32)), .val (.int (1 : Int32)), .unset, .unset, .unset, .unset, .unset, .unset, .unset, .unset, .unset, .unset] [(.int rr)]))
      refine Gz.istore 35 #[.val (.int p0), .val (.int p1), .val (.int p2), .val (.int p3), .val (.int p4), .val (.int p5), .val (.int (1 : Int32)), .val (.int (1 : Int32)), .val (.int rr), .unset, .unset, .unset, .unset, .unset, .unset, .unset, .unset, .unset] X0 hx (dd at_33) rfl rfl ?_
      refine Gz.iload 37 X0 hx (dd at_35) rfl rfl ?_
      refine Gz.ifNo 40 X0 hx (dd at_37) ((if0 _ _).trans (feq (by decide : ¬ ((1 : Int32) = (0 : Int32)))).1) rfl ?_
      refine Gz.iloadN 41 X0 hx (dd at_40) rfl rfl ?_
      refine Gz.ldcI 43 X0 hx (dd at_41) hown (mvT hZ (ww hw 0 rfl)) rfl ?_
      refine Gz.iand 44 X0 hx (dd at_43) rfl ?_
      refine Gz.iload 46 X0 hx (dd at_44) rfl rfl ?_
      refine Gz.irem 47 X0 hx (dd at_46) (by decide) rfl ?_
      show Gz p e below s _ _ _ (s₁.setTop (mkF m 47 #[.val (.int p0), .val (.int p1), .val (.int p2), .val (.int p3), .val (.int p4), .val (.int p5), .val (.int (1 : Int32)), .val (.int (1 : Int32)), .val (.int rr), .unset, .unset, .unset, .unset, .unset, .unset, .unset, .unset, .unset] [(.int ((p1 &&& (2147483647 : Int32)) % (1 : Int32)))]))
      rw [own_r1 p1]
      refine Gz.i2bV 48 (0 : Int32) X0 hx (dd at_47) rfl rfl ?_
      refine Gz.goto 53 X0 hx (dd at_48) (by decide) (by decide) ?_
      refine Gz.istore 55 #[.val (.int p0), .val (.int p1), .val (.int p2), .val (.int p3), .val (.int p4), .val (.int p5), .val (.int (1 : Int32)), .val (.int (1 : Int32)), .val (.int rr), .val (.int (0 : Int32)), .unset, .unset, .unset, .unset, .unset, .unset, .unset, .unset] X0 hx (dd at_53) rfl rfl ?_
      refine Gz.iload 57 X0 hx (dd at_55) rfl rfl ?_
      obtain ⟨T21, h21, k21, X21, e21, E21, A21, Q21, st21⟩ := newPE X0 hx hZ (ww hw 1 rfl) e0 (g := (mkF m 57 #[.val (.int p0), .val (.int p1), .val (.int p2), .val (.int p3), .val (.int p4), .val (.int p5), .val (.int (1 : Int32)), .val (.int (1 : Int32)), .val (.int rr), .val (.int (0 : Int32)), .unset, .unset, .unset, .unset, .unset, .unset, .unset, .unset] [(.int (1 : Int32))])) rfl (dd at_57) rfl (by decide) (cap := 1) (by decide) (by decide) (by decide) (by decide) (ad := "[B") rfl
      obtain ⟨b21, g21⟩ : ∃ z, z = h0.size := ⟨_, rfl⟩
      rw [← g21] at A21 Q21 st21
      have g_b21 : n0 ≤ b21 := Nat.le_trans Z0 (Nat.le_of_eq g21.symm)
      have SZ21 : n0 ≤ h21.size := Nat.le_trans Z0 E21.1
      have f21_S_st_MESSAGE := Sta.ext E21 S_st_MESSAGE
      have V21 : Arv Z h21 b21 k21 .byte (1 : Int32) [(.int (0 : Int32))] (.int (0 : Int32)) := (Arv.new A21 (by decide)).pad (pad_rep [] (.int (0 : Int32)) 1)
      refine Gz.st st21 ?_
      refine Gz.astore 61 #[.val (.int p0), .val (.int p1), .val (.int p2), .val (.int p3), .val (.int p4), .val (.int p5), .val (.int (1 : Int32)), .val (.int (1 : Int32)), .val (.int rr), .val (.int (0 : Int32)), .val (.ref b21), .unset, .unset, .unset, .unset, .unset, .unset, .unset] X21 hx (dd at_59) rfl rfl rfl ?_
      refine Gz.iload 63 X21 hx (dd at_61) rfl rfl ?_
      refine Gz.ifNo 66 X21 hx (dd at_63) ((if0 _ _).trans (tlt (by decide : (0 : Int32) < (1 : Int32))).2.2.2) rfl ?_
      refine Gz.aload 68 X21 hx (dd at_66) rfl rfl rfl ?_
      refine Gz.iconst 69 (0 : Int32) X21 hx (dd at_68) rfl rfl ?_
      refine Gz.iload 71 X21 hx (dd at_69) rfl rfl ?_
      obtain ⟨c22, A22, q22, S22, N22, H22, G22⟩ := id V21
      have hin22 : ¬ ((0 : Int32) < 0 ∨ c22.slots.size ≤ ((0 : Int32)).toNatClampNeg) := inb_of S22 ⟨by decide, by decide⟩
      refine Gz.stB 72 X21 hx hZ (dd at_71) e21 A22 hin22 rfl fun T23 h23 X23 e23 W23 => ?_
      have V23 := Arv.set A22 q22 S22 N22 H22 G22 (fits_nar_byte _) W23 0 rfl (Nat.le_of_ble_eq_true rfl)
      replace V23 : Arv Z h23 b21 k21 .byte (1 : Int32) [(.int (0 : Int32))] (.int (0 : Int32)) := V23
      have f23_S_st_MESSAGE := Sta.wr W23 f21_S_st_MESSAGE
      have f23_Eb21 := Exa.wr W23 Q21
      have N23 := Fr.snoc X23 N0 g_b21
      have SZ23 : n0 ≤ h23.size := Nat.le_trans SZ21 (Keep.of_wr W23).1
      refine Gz.iload 74 X23 hx (dd at_72) rfl rfl ?_
      refine Gz.iconst 75 (1 : Int32) X23 hx (dd at_74) rfl rfl ?_
      refine Gz.icmpYes 87 X23 hx (dd at_75) (flt (by decide : ¬ ((1 : Int32) < (1 : Int32)))).2.2.2 (by decide) (by decide) ?_
      refine Gz.iload 89 X23 hx (dd at_87) rfl rfl ?_
      refine Gz.iconst 90 (2 : Int32) X23 hx (dd at_89) rfl rfl ?_
      refine Gz.icmpYes 102 X23 hx (dd at_90) (flt (by decide : ¬ ((2 : Int32) < (1 : Int32)))).2.2.2 (by decide) (by decide) ?_
      refine Gz.iload 104 X23 hx (dd at_102) rfl rfl ?_
      refine Gz.iconst 105 (3 : Int32) X23 hx (dd at_104) rfl rfl ?_
      refine Gz.icmpYes 118 X23 hx (dd at_105) (flt (by decide : ¬ ((3 : Int32) < (1 : Int32)))).2.2.2 (by decide) (by decide) ?_
      obtain ⟨T24, h24, X24, e24, E24, A24, D24, -, st24⟩ := newO X23 hx hZ hown (ww hw 2 rfl) (ww hw 3 rfl) (ww hw 4 rfl) e23 (g := (mkF m 118 #[.val (.int p0), .val (.int p1), .val (.int p2), .val (.int p3), .val (.int p4), .val (.int p5), .val (.int (1 : Int32)), .val (.int (1 : Int32)), .val (.int rr), .val (.int (0 : Int32)), .val (.ref b21), .unset, .unset, .unset, .unset, .unset, .unset, .unset] [])) rfl (dd at_118) (by decide) (by decide)
      obtain ⟨b24, g24⟩ : ∃ z, z = h23.size := ⟨_, rfl⟩
      rw [← g24] at A24 D24 st24
      have ne_b21_b24 : b21 ≠ b24 := Nat.ne_of_lt (Nat.lt_of_lt_of_le (f23_Eb21).lt (Nat.le_of_eq g24.symm))
      have g_b24 : n0 ≤ b24 := Nat.le_trans SZ23 (Nat.le_of_eq g24.symm)
      have SZ24 : n0 ≤ h24.size := Nat.le_trans SZ23 E24.1
      have f24_S_st_MESSAGE := Sta.ext E24 f23_S_st_MESSAGE
      have f24_Eb21 := Exa.ext E24 f23_Eb21
      have f24_Vb21 := Arv.ext V23 E24
      have F_bytes_b24 : Fld Z h24 b24 "com/example/bad_status/badstatus/model/ProtoReader" "bytes" "[B" .null := D24 (Or.inr (ww hw 15 rfl)) (ty := (.array .byte)) (by decide)
      have F_position_b24 : Fld Z h24 b24 "com/example/bad_status/badstatus/model/ProtoReader" "position" "I" (.int (0 : Int32)) := D24 (Or.inl (ww hw 17 rfl)) (ty := .int) (by decide)
      have F_end_b24 : Fld Z h24 b24 "com/example/bad_status/badstatus/model/ProtoReader" "end" "I" (.int (0 : Int32)) := D24 (Or.inr (ww hw 19 rfl)) (ty := .int) (by decide)
      have F_place_b24 : Fld Z h24 b24 "com/example/bad_status/badstatus/model/ProtoReader" "place" "Lcom/example/bad_status/badstatus/model/Place;" .null := D24 (Or.inr (ww hw 21 rfl)) (ty := (.object "com/example/bad_status/badstatus/model/Place")) (by decide)
      refine Gz.st st24 ?_
      refine Gz.dup 122 X24 hx (dd at_121) rfl rfl ?_
      refine Gz.aload 124 X24 hx (dd at_122) rfl rfl rfl ?_
      obtain ⟨_, _, ⟨T25, L25, k25, n25⟩, -, X25, ⟨Lc25, hQ25, l25, y25, z25⟩, st25⟩ := X24.specialBack hx (y := ym4) rfl hown (mvT hZ (ww hw 5 rfl)) (mvT hZ (ww hw 6 rfl)) (mvT hZ (ww hw 7 rfl)) (by decide) (backOf (W := 1) (rmI1_1 l Z av0 hw [] b24 b21 k21 (0 : Int32) h24 n0 SZ24 A24 F_bytes_b24 F_position_b24 F_end_b24 F_place_b24 g_b24 f24_Vb21 ne_b21_b24) hZ (ww hw 7 rfl) (ww hw 4 rfl) (by decide) (by decide)) (g := (mkF m 124 #[.val (.int p0), .val (.int p1), .val (.int p2), .val (.int p3), .val (.int p4), .val (.int p5), .val (.int (1 : Int32)), .val (.int (1 : Int32)), .val (.int rr), .val (.int (0 : Int32)), .val (.ref b21), .unset, .unset, .unset, .unset, .unset, .unset, .unset] [(.ref b21), (.ref b24), (.ref b24)])) rfl (by rw [hml]; rfl) (Steps.refl _) (a := b24) (argsL := [(.ref b21)]) (rest := [(.ref b24)]) (lenOf pd_4 rfl) rfl (Nat.le_refl _) (dd at_124) (fun _ _ => ⟨rfl, e24, (by decide : 2 + 0 ≤ _), (by decide : 5 + 0 ≤ _)⟩)
      dsimp only [Pt.U, Pt.locs, Pt.cells, Pt.slots, Q_rmI1_1] at X25 l25 y25 z25 st25 hQ25
      subst l25 y25 z25
      obtain ⟨rfl, N25q, K25q, QE25_0, QF25_0, QF25_1, QF25_2, QF25_3⟩ := hQ25
      have N25 := Fr.app N23 N25q
      have f25_S_st_MESSAGE := own_staK f24_S_st_MESSAGE K25q (allS (nst_of A24) all0)
      have f25_Eb21 := Exa.keep f24_Eb21 K25q
      have f25_Vb21 := Arv.keep f24_Vb21 K25q (ninS ne_b21_b24 nin0)
      have f25_Eb24 := Exa.keep A24 K25q
      have SZ25 := Nat.le_trans SZ24 K25q.1
      refine Gz.tr st25 ?_
      refine Gz.astore 129 #[.val (.int p0), .val (.int p1), .val (.int p2), .val (.int p3), .val (.int p4), .val (.int p5), .val (.int (1 : Int32)), .val (.int (1 : Int32)), .val (.int rr), .val (.int (0 : Int32)), .val (.ref b21), .val (.ref b24), .unset, .unset, .unset, .unset, .unset, .unset] X25 hx (dd at_127) rfl rfl rfl ?_
      refine Gz.aload 131 X25 hx (dd at_129) rfl rfl rfl ?_
      obtain ⟨cq26, kq26, q26a, q26b, q26c⟩ := isOf hZ rfl QE25_0
      obtain ⟨_, _, ⟨T26, L26, k26, n26⟩, -, X26, ⟨Lc26, hQ26, l26, y26, z26⟩, st26⟩ := X25.virtualBack hx (y := ym3) (z := ym3) hown (mvT hZ (ww hw 22 rfl)) (mvT hZ (ww hw 23 rfl)) (notFace_of_selects (args := #[]) (mvT hZ (ww hw 25 rfl))) (mvT hZ (ww hw 25 rfl)) (mvT hZ (ww hw 24 rfl)) (by decide) (backOf (W := 0) (rm4 l Z av0 hw [] b24 (0 : Int32) (1 : Int32) T25.heap n0 SZ25 QF25_1 QF25_2) hZ (ww hw 26 rfl) (ww hw 4 rfl) (by decide) (by decide)) q26a q26c (g := (mkF m 131 #[.val (.int p0), .val (.int p1), .val (.int p2), .val (.int p3), .val (.int p4), .val (.int p5), .val (.int (1 : Int32)), .val (.int (1 : Int32)), .val (.int rr), .val (.int (0 : Int32)), .val (.ref b21), .val (.ref b24), .unset, .unset, .unset, .unset, .unset, .unset] [(.ref b24)])) rfl (by rw [hml]; rfl) (Steps.refl _) (argsL := []) (rest := []) (lenOf pd_3 rfl) rfl (Nat.le_refl _) (dd at_131) (fun _ _ => ⟨rfl, rfl, (by decide : 2 + 0 ≤ _), (by decide : 5 + 0 ≤ _)⟩)
      dsimp only [Pt.U, Pt.locs, Pt.cells, Pt.slots, Q_rm4] at X26 l26 y26 z26 st26 hQ26
      subst l26 y26 z26
      rw [show (fHM b24 (0 : Int32) (1 : Int32)) = (1 : Int32) from (by unfold fHM; rw [if_pos (by decide : (0 : Int32) < (1 : Int32))]; try decide)] at hQ26
      obtain ⟨rfl, N26q, e26⟩ := hQ26
      have N26 := Fr.app N25 N26q
      refine Gz.tr st26 ?_
      refine Gz.iload 136 X26 hx (dd at_134) rfl rfl ?_
      refine Gz.ifNo 139 X26 hx (dd at_136) ((if0 _ _).trans (tlt (by decide : (0 : Int32) < (1 : Int32))).2.2.2) rfl ?_
      refine Gz.iconst 140 (1 : Int32) X26 hx (dd at_139) rfl rfl ?_
      refine Gz.goto 144 X26 hx (dd at_140) (by decide) (by decide) ?_
      refine Gz.icmpNo 147 X26 hx (dd at_144) (teq (by decide : (1 : Int32) = (1 : Int32))).2 rfl ?_
      refine Gz.iconst 148 (1 : Int32) X26 hx (dd at_147) rfl rfl ?_
      refine Gz.goto 152 X26 hx (dd at_148) (by decide) (by decide) ?_
      refine Gz.istore 154 #[.val (.int p0), .val (.int p1), .val (.int p2), .val (.int p3), .val (.int p4), .val (.int p5), .val (.int (1 : Int32)), .val (.int (1 : Int32)), .val (.int rr), .val (.int (0 : Int32)), .val (.ref b21), .val (.ref b24), .val (.int (1 : Int32)), .unset, .unset, .unset, .unset, .unset] X26 hx (dd at_152) rfl rfl ?_
      refine Gz.aload 156 X26 hx (dd at_154) rfl rfl rfl ?_
      refine Gz.astore 158 #[.val (.int p0), .val (.int p1), .val (.int p2), .val (.int p3), .val (.int p4), .val (.int p5), .val (.int (1 : Int32)), .val (.int (1 : Int32)), .val (.int rr), .val (.int (0 : Int32)), .val (.ref b21), .val (.ref b24), .val (.int (1 : Int32)), .val (.ref b24), .unset, .unset, .unset, .unset] X26 hx (dd at_156) rfl rfl rfl ?_
      refine Gz.iload 160 X26 hx (dd at_158) rfl rfl ?_
      refine Gz.istore 162 #[.val (.int p0), .val (.int p1), .val (.int p2), .val (.int p3), .val (.int p4), .val (.int p5), .val (.int (1 : Int32)), .val (.int (1 : Int32)), .val (.int rr), .val (.int (0 : Int32)), .val (.ref b21), .val (.ref b24), .val (.int (1 : Int32)), .val (.ref b24), .val (.int (1 : Int32)), .unset, .unset, .unset] X26 hx (dd at_160) rfl rfl ?_
      refine Gz.iconst 163 (0 : Int32) X26 hx (dd at_162) rfl rfl ?_
      refine Gz.istore 165 #[.val (.int p0), .val (.int p1), .val (.int p2), .val (.int p3), .val (.int p4), .val (.int p5), .val (.int (1 : Int32)), .val (.int (1 : Int32)), .val (.int rr), .val (.int (0 : Int32)), .val (.ref b21), .val (.ref b24), .val (.int (1 : Int32)), .val (.ref b24), .val (.int (1 : Int32)), .val (.int (0 : Int32)), .unset, .unset] X26 hx (dd at_163) rfl rfl ?_
      refine Gz.iload 167 X26 hx (dd at_165) rfl rfl ?_
      refine Gz.ifNo 170 X26 hx (dd at_167) ((if0 _ _).trans (feq (by decide : ¬ ((1 : Int32) = (0 : Int32)))).1) rfl ?_
      refine Gz.iload 172 X26 hx (dd at_170) rfl rfl ?_
      refine Gz.istore 174 #[.val (.int p0), .val (.int p1), .val (.int p2), .val (.int p3), .val (.int p4), .val (.int p5), .val (.int (1 : Int32)), .val (.int (1 : Int32)), .val (.int rr), .val (.int (0 : Int32)), .val (.ref b21), .val (.ref b24), .val (.int (1 : Int32)), .val (.ref b24), .val (.int (1 : Int32)), .val (.int (0 : Int32)), .unset, .val (.int (0 : Int32))] X26 hx (dd at_172) rfl rfl ?_
      refine Gz.aload 176 X26 hx (dd at_174) rfl rfl rfl ?_
      refine Gz.getS 179 X26 hx hZ hown (dd at_176) (host := "") (Or.inl (ww hw 32 rfl)) Via.refl e26 f25_S_st_MESSAGE rfl fun T27 X27 e27 => ?_
      obtain ⟨cq28, kq28, q28a, q28b, q28c⟩ := isOf hZ e27 QE25_0
      obtain ⟨_, _, ⟨T28, L28, k28, n28⟩, -, X28, ⟨Lc28, hQ28, l28, y28, z28⟩, st28⟩ := X27.virtualBack hx (y := ym5) (z := ym5) hown (mvT hZ (ww hw 35 rfl)) (mvT hZ (ww hw 36 rfl)) (notFace_of_selects (args := #[]) (mvT hZ (ww hw 38 rfl))) (mvT hZ (ww hw 38 rfl)) (mvT hZ (ww hw 37 rfl)) (by decide) (backOf (W := 0) (rmM10 l Z av0 hw [] b24 st_MESSAGE b21 k21 T25.heap n0 SZ25 QE25_0 QF25_0 QF25_1 QF25_2 g_b24 f25_Vb21 ne_b21_b24) hZ (ww hw 39 rfl) (ww hw 4 rfl) (by decide) (by decide)) q28a q28c (g := (mkF m 179 #[.val (.int p0), .val (.int p1), .val (.int p2), .val (.int p3), .val (.int p4), .val (.int p5), .val (.int (1 : Int32)), .val (.int (1 : Int32)), .val (.int rr), .val (.int (0 : Int32)), .val (.ref b21), .val (.ref b24), .val (.int (1 : Int32)), .val (.ref b24), .val (.int (1 : Int32)), .val (.int (0 : Int32)), .unset, .val (.int (0 : Int32))] [(.ref st_MESSAGE), (.ref b24)])) rfl (by rw [hml]; rfl) (Steps.refl _) (argsL := [(.ref st_MESSAGE)]) (rest := []) (lenOf pd_5 rfl) rfl (Nat.le_refl _) (dd at_179) (fun _ _ => ⟨rfl, e27, (by decide : 2 + 1 ≤ _), (by decide : 5 + 4 ≤ _)⟩)
      dsimp only [Pt.U, Pt.locs, Pt.cells, Pt.slots, Q_rmM10] at X28 l28 y28 z28 st28 hQ28
      subst l28 y28 z28
      obtain ⟨rd28, rfl, N28q, K28q, QE28, QB28, QP28, QN28, gr28, szr28, RE28, RB28, RP28, RN28⟩ := hQ28
      have N28 := Fr.app N26 N28q
      have ne_b21_rd28 : b21 ≠ rd28 := Nat.ne_of_lt (Nat.lt_of_lt_of_le (f25_Vb21).lt szr28)
      have ne_b24_rd28 : b24 ≠ rd28 := Nat.ne_of_lt (Nat.lt_of_lt_of_le (QF25_3).lt szr28)
      have f28_S_st_MESSAGE := own_staK f25_S_st_MESSAGE K28q (allS (nst_of QE25_0) all0)
      have f28_Eb21 := Exa.keep f25_Eb21 K28q
      have f28_Vb21 := Arv.keep f25_Vb21 K28q (ninS ne_b21_b24 nin0)
      have f28_E_b24 := Exa.keep QE25_0 K28q
      have SZ28 := Nat.le_trans SZ25 K28q.1
      refine Gz.tr st28 ?_
      refine Gz.astore 184 #[.val (.int p0), .val (.int p1), .val (.int p2), .val (.int p3), .val (.int p4), .val (.int p5), .val (.int (1 : Int32)), .val (.int (1 : Int32)), .val (.int rr), .val (.int (0 : Int32)), .val (.ref b21), .val (.ref b24), .val (.int (1 : Int32)), .val (.ref rd28), .val (.int (1 : Int32)), .val (.int (0 : Int32)), .unset, .val (.int (0 : Int32))] X28 hx (dd at_182) rfl rfl rfl ?_
      refine Gz.iload 186 X28 hx (dd at_184) rfl rfl ?_
      refine Gz.ifNo 189 X28 hx (dd at_186) ((if0 _ _).trans (feq (by decide : ¬ ((1 : Int32) = (0 : Int32)))).1) rfl ?_
      refine Gz.aload 191 X28 hx (dd at_189) rfl rfl rfl ?_
      obtain ⟨cq29, kq29, q29a, q29b, q29c⟩ := isOf hZ rfl QE28
      obtain ⟨_, _, ⟨T29, L29, k29, n29⟩, -, X29, ⟨Lc29, hQ29, l29, y29, z29⟩, st29⟩ := X28.virtualBack hx (y := ym3) (z := ym3) hown (mvT hZ (ww hw 22 rfl)) (mvT hZ (ww hw 23 rfl)) (notFace_of_selects (args := #[]) (mvT hZ (ww hw 25 rfl))) (mvT hZ (ww hw 25 rfl)) (mvT hZ (ww hw 24 rfl)) (by decide) (backOf (W := 0) (rm4 l Z av0 hw [] b24 (1 : Int32) (1 : Int32) T28.heap n0 SZ28 QP28 QN28) hZ (ww hw 26 rfl) (ww hw 4 rfl) (by decide) (by decide)) q29a q29c (g := (mkF m 191 #[.val (.int p0), .val (.int p1), .val (.int p2), .val (.int p3), .val (.int p4), .val (.int p5), .val (.int (1 : Int32)), .val (.int (1 : Int32)), .val (.int rr), .val (.int (0 : Int32)), .val (.ref b21), .val (.ref b24), .val (.int (1 : Int32)), .val (.ref rd28), .val (.int (1 : Int32)), .val (.int (0 : Int32)), .unset, .val (.int (0 : Int32))] [(.ref b24)])) rfl (by rw [hml]; rfl) (Steps.refl _) (argsL := []) (rest := []) (lenOf pd_3 rfl) rfl (Nat.le_refl _) (dd at_191) (fun _ _ => ⟨rfl, rfl, (by decide : 3 + 0 ≤ _), (by decide : 9 + 0 ≤ _)⟩)
      dsimp only [Pt.U, Pt.locs, Pt.cells, Pt.slots, Q_rm4] at X29 l29 y29 z29 st29 hQ29
      subst l29 y29 z29
      rw [show (fHM b24 (1 : Int32) (1 : Int32)) = (0 : Int32) from (by unfold fHM; rw [if_neg (by decide : ¬ ((1 : Int32) < (1 : Int32)))]; try decide)] at hQ29
      obtain ⟨rfl, N29q, e29⟩ := hQ29
      have N29 := Fr.app N28 N29q
      refine Gz.tr st29 ?_
      refine Gz.iconst 195 (1 : Int32) X29 hx (dd at_194) rfl rfl ?_
      refine Gz.iload 197 X29 hx (dd at_195) rfl rfl ?_
      refine Gz.iaddV 198 (1 : Int32) X29 hx (dd at_197) rfl rfl ?_
      refine Gz.iload 200 X29 hx (dd at_198) rfl rfl ?_
      refine Gz.icmpYes 207 X29 hx (dd at_200) (flt (by decide : ¬ ((1 : Int32) < (1 : Int32)))).2.1 (by decide) (by decide) ?_
      refine Gz.iconst 208 (0 : Int32) X29 hx (dd at_207) rfl rfl ?_
      refine Gz.icmpNo 211 X29 hx (dd at_208) (teq (by decide : (0 : Int32) = (0 : Int32))).2 rfl ?_
      refine Gz.iconst 212 (1 : Int32) X29 hx (dd at_211) rfl rfl ?_
      refine Gz.goto 216 X29 hx (dd at_212) (by decide) (by decide) ?_
      refine Gz.istore 218 #[.val (.int p0), .val (.int p1), .val (.int p2), .val (.int p3), .val (.int p4), .val (.int p5), .val (.int (1 : Int32)), .val (.int (1 : Int32)), .val (.int rr), .val (.int (0 : Int32)), .val (.ref b21), .val (.ref b24), .val (.int (1 : Int32)), .val (.ref rd28), .val (.int (1 : Int32)), .val (.int (0 : Int32)), .unset, .val (.int (0 : Int32))] X29 hx (dd at_216) rfl rfl ?_
      refine Gz.iload 220 X29 hx (dd at_218) rfl rfl ?_
      refine Gz.istore 222 #[.val (.int p0), .val (.int p1), .val (.int p2), .val (.int p3), .val (.int p4), .val (.int p5), .val (.int (1 : Int32)), .val (.int (1 : Int32)), .val (.int rr), .val (.int (0 : Int32)), .val (.ref b21), .val (.ref b24), .val (.int (1 : Int32)), .val (.ref rd28), .val (.int (0 : Int32)), .val (.int (0 : Int32)), .unset, .val (.int (0 : Int32))] X29 hx (dd at_220) rfl rfl ?_
      refine Gz.iconst 223 (1 : Int32) X29 hx (dd at_222) rfl rfl ?_
      refine Gz.istore 225 #[.val (.int p0), .val (.int p1), .val (.int p2), .val (.int p3), .val (.int p4), .val (.int p5), .val (.int (1 : Int32)), .val (.int (1 : Int32)), .val (.int rr), .val (.int (0 : Int32)), .val (.ref b21), .val (.ref b24), .val (.int (1 : Int32)), .val (.ref rd28), .val (.int (0 : Int32)), .val (.int (0 : Int32)), .val (.int (1 : Int32)), .val (.int (0 : Int32))] X29 hx (dd at_223) rfl rfl ?_
      refine Gz.goto 240 X29 hx (dd at_225) (by decide) (by decide) ?_
      exact sg_1_0_1 (.val (.int p0)) (.val (.int p1)) (.val (.int p2)) (.val (.int p3)) (.val (.int p4)) (.val (.int p5)) (.val (.int (1 : Int32))) (.val (.int (1 : Int32))) rr (.val (.int (0 : Int32))) (.val (.ref b21)) (.val (.ref b24)) rd28 (.val (.int (0 : Int32))) b21 k21 n0 X29 hx hZ hw hby hml hown hret hlk e29 N29 SZ28 RE28 RB28 RP28 RN28 gr28 f28_Vb21 ne_b21_rd28
  · rw [hs1]
    refine Gz.istore 8 #[.val (.int p0), .val (.int p1), .val (.int p2), .val (.int p3), .val (.int p4), .val (.int p5), .val (.int (2 : Int32)), .unset, .unset, .unset, .unset, .unset, .unset, .unset, .unset, .unset, .unset, .unset] X0 hx (dd at_6) rfl rfl ?_
    refine Gz.iload 10 X0 hx (dd at_8) rfl rfl ?_
    refine Gz.iconst 11 (2 : Int32) X0 hx (dd at_10) rfl rfl ?_
    refine Gz.iushr 12 X0 hx (dd at_11) rfl ?_
    refine Gz.iconst 13 (1 : Int32) X0 hx (dd at_12) rfl rfl ?_
    refine Gz.iand 14 X0 hx (dd at_13) rfl ?_
    by_cases hc30 : (((p5.toUInt32 >>> ((2 : Int32) &&& 31).toUInt32).toInt32) &&& (1 : Int32)) = (0 : Int32)
    · refine Gz.ifYes 26 X0 hx (dd at_14) ((if0 _ _).trans (teq hc30).1) (by decide) (by decide) ?_
      refine Gz.iconst 27 (0 : Int32) X0 hx (dd at_26) rfl rfl ?_
      refine Gz.istore 29 #[.val (.int p0), .val (.int p1), .val (.int p2), .val (.int p3), .val (.int p4), .val (.int p5), .val (.int (2 : Int32)), .val (.int (0 : Int32)), .unset, .unset, .unset, .unset, .unset, .unset, .unset, .unset, .unset, .unset] X0 hx (dd at_27) rfl rfl ?_
      refine Gz.iload 31 X0 hx (dd at_29) rfl rfl ?_
      refine Gz.iconst 32 (3 : Int32) X0 hx (dd at_31) rfl rfl ?_
      refine Gz.iand 33 X0 hx (dd at_32) rfl ?_
      show Gz p e below s _ _ _ (s₁.setTop (mkF m 33 #[.val (.int p0), .val (.int p1), .val (.int p2), .val (.int p3), .val (.int p4), .val (.int p5), .val (.int (2 : Int32)), .val (.int (0 : Int32)), .unset, .unset, .unset, .unset, .unset, .unset, .unset, .unset, .unset, .unset] [(.int (p5 &&& (3 : Int32)))]))
      obtain ⟨rr, q_rr⟩ : ∃ z, (p5 &&& (3 : Int32)) = z := ⟨_, rfl⟩
      rw [q_rr]
      show Gz p e below s _ _ _ (s₁.setTop (mkF m 33 #[.val (.int p0), .val (.int p1), .val (.int p2), .val (.int p3), .val (.int p4), .val (.int p5), .val (.int (2 : Int32)), .val (.int (0 : Int32)), .unset, .unset, .unset, .unset, .unset, .unset, .unset, .unset, .unset, .unset] [(.int rr)]))
      refine Gz.istore 35 #[.val (.int p0), .val (.int p1), .val (.int p2), .val (.int p3), .val (.int p4), .val (.int p5), .val (.int (2 : Int32)), .val (.int (0 : Int32)), .val (.int rr), .unset, .unset, .unset, .unset, .unset, .unset, .unset, .unset, .unset] X0 hx (dd at_33) rfl rfl ?_
      refine Gz.iload 37 X0 hx (dd at_35) rfl rfl ?_
      refine Gz.ifYes 51 X0 hx (dd at_37) ((if0 _ _).trans (teq (by decide : (0 : Int32) = (0 : Int32))).1) (by decide) (by decide) ?_
      refine Gz.iloadN 52 X0 hx (dd at_51) rfl rfl ?_
      refine Gz.i2b 53 X0 hx (dd at_52) rfl ?_
      refine Gz.istore 55 #[.val (.int p0), .val (.int p1), .val (.int p2), .val (.int p3), .val (.int p4), .val (.int p5), .val (.int (2 : Int32)), .val (.int (0 : Int32)), .val (.int rr), .val (.int (p1.toInt8.toInt32)), .unset, .unset, .unset, .unset, .unset, .unset, .unset, .unset] X0 hx (dd at_53) rfl rfl ?_
      refine Gz.iload 57 X0 hx (dd at_55) rfl rfl ?_
      obtain ⟨T31, h31, k31, X31, e31, E31, A31, Q31, st31⟩ := newPE X0 hx hZ (ww hw 1 rfl) e0 (g := (mkF m 57 #[.val (.int p0), .val (.int p1), .val (.int p2), .val (.int p3), .val (.int p4), .val (.int p5), .val (.int (2 : Int32)), .val (.int (0 : Int32)), .val (.int rr), .val (.int (p1.toInt8.toInt32)), .unset, .unset, .unset, .unset, .unset, .unset, .unset, .unset] [(.int (2 : Int32))])) rfl (dd at_57) rfl (by decide) (cap := 2) (by decide) (by decide) (by decide) (by decide) (ad := "[B") rfl
      obtain ⟨b31, g31⟩ : ∃ z, z = h0.size := ⟨_, rfl⟩
      rw [← g31] at A31 Q31 st31
      have g_b31 : n0 ≤ b31 := Nat.le_trans Z0 (Nat.le_of_eq g31.symm)
      have SZ31 : n0 ≤ h31.size := Nat.le_trans Z0 E31.1
      have f31_S_st_MESSAGE := Sta.ext E31 S_st_MESSAGE
      have V31 : Arv Z h31 b31 k31 .byte (2 : Int32) [(.int (0 : Int32)), (.int (0 : Int32))] (.int (0 : Int32)) := (Arv.new A31 (by decide)).pad (pad_rep [] (.int (0 : Int32)) 2)
      refine Gz.st st31 ?_
      refine Gz.astore 61 #[.val (.int p0), .val (.int p1), .val (.int p2), .val (.int p3), .val (.int p4), .val (.int p5), .val (.int (2 : Int32)), .val (.int (0 : Int32)), .val (.int rr), .val (.int (p1.toInt8.toInt32)), .val (.ref b31), .unset, .unset, .unset, .unset, .unset, .unset, .unset] X31 hx (dd at_59) rfl rfl rfl ?_
      refine Gz.iload 63 X31 hx (dd at_61) rfl rfl ?_
      refine Gz.ifNo 66 X31 hx (dd at_63) ((if0 _ _).trans (tlt (by decide : (0 : Int32) < (2 : Int32))).2.2.2) rfl ?_
      refine Gz.aload 68 X31 hx (dd at_66) rfl rfl rfl ?_
      refine Gz.iconst 69 (0 : Int32) X31 hx (dd at_68) rfl rfl ?_
      refine Gz.iload 71 X31 hx (dd at_69) rfl rfl ?_
      obtain ⟨c32, A32, q32, S32, N32, H32, G32⟩ := id V31
      have hin32 : ¬ ((0 : Int32) < 0 ∨ c32.slots.size ≤ ((0 : Int32)).toNatClampNeg) := inb_of S32 ⟨by decide, by decide⟩
      refine Gz.stB 72 X31 hx hZ (dd at_71) e31 A32 hin32 rfl fun T33 h33 X33 e33 W33 => ?_
      rw [own_nb] at W33
      have V33 := Arv.set A32 q32 S32 N32 H32 G32 (fits_nar_byte _) W33 0 rfl (Nat.le_of_ble_eq_true rfl)
      replace V33 : Arv Z h33 b31 k31 .byte (2 : Int32) [(.int (p1.toInt8.toInt32)), (.int (0 : Int32))] (.int (0 : Int32)) := V33
      have f33_S_st_MESSAGE := Sta.wr W33 f31_S_st_MESSAGE
      have f33_Eb31 := Exa.wr W33 Q31
      have N33 := Fr.snoc X33 N0 g_b31
      have SZ33 : n0 ≤ h33.size := Nat.le_trans SZ31 (Keep.of_wr W33).1
      refine Gz.iload 74 X33 hx (dd at_72) rfl rfl ?_
      refine Gz.iconst 75 (1 : Int32) X33 hx (dd at_74) rfl rfl ?_
      refine Gz.icmpNo 78 X33 hx (dd at_75) (tlt (by decide : (1 : Int32) < (2 : Int32))).2.2.2 rfl ?_
      refine Gz.aload 80 X33 hx (dd at_78) rfl rfl rfl ?_
      refine Gz.iconst 81 (1 : Int32) X33 hx (dd at_80) rfl rfl ?_
      refine Gz.iloadN 82 X33 hx (dd at_81) rfl rfl ?_
      refine Gz.bipush 84 (127 : Int32) X33 hx (dd at_82) rfl rfl ?_
      refine Gz.iand 85 X33 hx (dd at_84) rfl ?_
      refine Gz.i2b 86 X33 hx (dd at_85) rfl ?_
      obtain ⟨c34, A34, q34, S34, N34, H34, G34⟩ := id V33
      have hin34 : ¬ ((1 : Int32) < 0 ∨ c34.slots.size ≤ ((1 : Int32)).toNatClampNeg) := inb_of S34 ⟨by decide, by decide⟩
      refine Gz.stB 87 X33 hx hZ (dd at_86) e33 A34 hin34 rfl fun T35 h35 X35 e35 W35 => ?_
      rw [own_nb] at W35
      have V35 := Arv.set A34 q34 S34 N34 H34 G34 (fits_nar_byte _) W35 1 rfl (Nat.le_of_ble_eq_true rfl)
      replace V35 : Arv Z h35 b31 k31 .byte (2 : Int32) [(.int (p1.toInt8.toInt32)), (.int ((p2 &&& (127 : Int32)).toInt8.toInt32))] (.int (0 : Int32)) := V35
      have f35_S_st_MESSAGE := Sta.wr W35 f33_S_st_MESSAGE
      have f35_Eb31 := Exa.wr W35 f33_Eb31
      have N35 := Fr.snoc X35 N33 g_b31
      have SZ35 : n0 ≤ h35.size := Nat.le_trans SZ33 (Keep.of_wr W35).1
      refine Gz.iload 89 X35 hx (dd at_87) rfl rfl ?_
      refine Gz.iconst 90 (2 : Int32) X35 hx (dd at_89) rfl rfl ?_
      refine Gz.icmpYes 102 X35 hx (dd at_90) (flt (by decide : ¬ ((2 : Int32) < (2 : Int32)))).2.2.2 (by decide) (by decide) ?_
      refine Gz.iload 104 X35 hx (dd at_102) rfl rfl ?_
      refine Gz.iconst 105 (3 : Int32) X35 hx (dd at_104) rfl rfl ?_
      refine Gz.icmpYes 118 X35 hx (dd at_105) (flt (by decide : ¬ ((3 : Int32) < (2 : Int32)))).2.2.2 (by decide) (by decide) ?_
      obtain ⟨T36, h36, X36, e36, E36, A36, D36, -, st36⟩ := newO X35 hx hZ hown (ww hw 2 rfl) (ww hw 3 rfl) (ww hw 4 rfl) e35 (g := (mkF m 118 #[.val (.int p0), .val (.int p1), .val (.int p2), .val (.int p3), .val (.int p4), .val (.int p5), .val (.int (2 : Int32)), .val (.int (0 : Int32)), .val (.int rr), .val (.int (p1.toInt8.toInt32)), .val (.ref b31), .unset, .unset, .unset, .unset, .unset, .unset, .unset] [])) rfl (dd at_118) (by decide) (by decide)
      obtain ⟨b36, g36⟩ : ∃ z, z = h35.size := ⟨_, rfl⟩
      rw [← g36] at A36 D36 st36
      have ne_b31_b36 : b31 ≠ b36 := Nat.ne_of_lt (Nat.lt_of_lt_of_le (f35_Eb31).lt (Nat.le_of_eq g36.symm))
      have g_b36 : n0 ≤ b36 := Nat.le_trans SZ35 (Nat.le_of_eq g36.symm)
      have SZ36 : n0 ≤ h36.size := Nat.le_trans SZ35 E36.1
      have f36_S_st_MESSAGE := Sta.ext E36 f35_S_st_MESSAGE
      have f36_Eb31 := Exa.ext E36 f35_Eb31
      have f36_Vb31 := Arv.ext V35 E36
      have F_bytes_b36 : Fld Z h36 b36 "com/example/bad_status/badstatus/model/ProtoReader" "bytes" "[B" .null := D36 (Or.inr (ww hw 15 rfl)) (ty := (.array .byte)) (by decide)
      have F_position_b36 : Fld Z h36 b36 "com/example/bad_status/badstatus/model/ProtoReader" "position" "I" (.int (0 : Int32)) := D36 (Or.inl (ww hw 17 rfl)) (ty := .int) (by decide)
      have F_end_b36 : Fld Z h36 b36 "com/example/bad_status/badstatus/model/ProtoReader" "end" "I" (.int (0 : Int32)) := D36 (Or.inr (ww hw 19 rfl)) (ty := .int) (by decide)
      have F_place_b36 : Fld Z h36 b36 "com/example/bad_status/badstatus/model/ProtoReader" "place" "Lcom/example/bad_status/badstatus/model/Place;" .null := D36 (Or.inr (ww hw 21 rfl)) (ty := (.object "com/example/bad_status/badstatus/model/Place")) (by decide)
      refine Gz.st st36 ?_
      refine Gz.dup 122 X36 hx (dd at_121) rfl rfl ?_
      refine Gz.aload 124 X36 hx (dd at_122) rfl rfl rfl ?_
      obtain ⟨_, _, ⟨T37, L37, k37, n37⟩, -, X37, ⟨Lc37, hQ37, l37, y37, z37⟩, st37⟩ := X36.specialBack hx (y := ym4) rfl hown (mvT hZ (ww hw 5 rfl)) (mvT hZ (ww hw 6 rfl)) (mvT hZ (ww hw 7 rfl)) (by decide) (backOf (W := 1) (rmI1_2 l Z av0 hw [] b36 b31 k31 (p1.toInt8.toInt32) ((p2 &&& (127 : Int32)).toInt8.toInt32) h36 n0 SZ36 A36 F_bytes_b36 F_position_b36 F_end_b36 F_place_b36 g_b36 f36_Vb31 ne_b31_b36) hZ (ww hw 7 rfl) (ww hw 4 rfl) (by decide) (by decide)) (g := (mkF m 124 #[.val (.int p0), .val (.int p1), .val (.int p2), .val (.int p3), .val (.int p4), .val (.int p5), .val (.int (2 : Int32)), .val (.int (0 : Int32)), .val (.int rr), .val (.int (p1.toInt8.toInt32)), .val (.ref b31), .unset, .unset, .unset, .unset, .unset, .unset, .unset] [(.ref b31), (.ref b36), (.ref b36)])) rfl (by rw [hml]; rfl) (Steps.refl _) (a := b36) (argsL := [(.ref b31)]) (rest := [(.ref b36)]) (lenOf pd_4 rfl) rfl (Nat.le_refl _) (dd at_124) (fun _ _ => ⟨rfl, e36, (by decide : 2 + 0 ≤ _), (by decide : 6 + 0 ≤ _)⟩)
      dsimp only [Pt.U, Pt.locs, Pt.cells, Pt.slots, Q_rmI1_2] at X37 l37 y37 z37 st37 hQ37
      subst l37 y37 z37
      obtain ⟨rfl, N37q, K37q, QE37_0, QF37_0, QF37_1, QF37_2, QF37_3⟩ := hQ37
      have N37 := Fr.app N35 N37q
      have f37_S_st_MESSAGE := own_staK f36_S_st_MESSAGE K37q (allS (nst_of A36) all0)
      have f37_Eb31 := Exa.keep f36_Eb31 K37q
      have f37_Vb31 := Arv.keep f36_Vb31 K37q (ninS ne_b31_b36 nin0)
      have f37_Eb36 := Exa.keep A36 K37q
      have SZ37 := Nat.le_trans SZ36 K37q.1
      refine Gz.tr st37 ?_
      refine Gz.astore 129 #[.val (.int p0), .val (.int p1), .val (.int p2), .val (.int p3), .val (.int p4), .val (.int p5), .val (.int (2 : Int32)), .val (.int (0 : Int32)), .val (.int rr), .val (.int (p1.toInt8.toInt32)), .val (.ref b31), .val (.ref b36), .unset, .unset, .unset, .unset, .unset, .unset] X37 hx (dd at_127) rfl rfl rfl ?_
      refine Gz.aload 131 X37 hx (dd at_129) rfl rfl rfl ?_
      obtain ⟨cq38, kq38, q38a, q38b, q38c⟩ := isOf hZ rfl QE37_0
      obtain ⟨_, _, ⟨T38, L38, k38, n38⟩, -, X38, ⟨Lc38, hQ38, l38, y38, z38⟩, st38⟩ := X37.virtualBack hx (y := ym3) (z := ym3) hown (mvT hZ (ww hw 22 rfl)) (mvT hZ (ww hw 23 rfl)) (notFace_of_selects (args := #[]) (mvT hZ (ww hw 25 rfl))) (mvT hZ (ww hw 25 rfl)) (mvT hZ (ww hw 24 rfl)) (by decide) (backOf (W := 0) (rm4 l Z av0 hw [] b36 (0 : Int32) (2 : Int32) T37.heap n0 SZ37 QF37_1 QF37_2) hZ (ww hw 26 rfl) (ww hw 4 rfl) (by decide) (by decide)) q38a q38c (g := (mkF m 131 #[.val (.int p0), .val (.int p1), .val (.int p2), .val (.int p3), .val (.int p4), .val (.int p5), .val (.int (2 : Int32)), .val (.int (0 : Int32)), .val (.int rr), .val (.int (p1.toInt8.toInt32)), .val (.ref b31), .val (.ref b36), .unset, .unset, .unset, .unset, .unset, .unset] [(.ref b36)])) rfl (by rw [hml]; rfl) (Steps.refl _) (argsL := []) (rest := []) (lenOf pd_3 rfl) rfl (Nat.le_refl _) (dd at_131) (fun _ _ => ⟨rfl, rfl, (by decide : 2 + 0 ≤ _), (by decide : 6 + 0 ≤ _)⟩)
      dsimp only [Pt.U, Pt.locs, Pt.cells, Pt.slots, Q_rm4] at X38 l38 y38 z38 st38 hQ38
      subst l38 y38 z38
      rw [show (fHM b36 (0 : Int32) (2 : Int32)) = (1 : Int32) from (by unfold fHM; rw [if_pos (by decide : (0 : Int32) < (2 : Int32))]; try decide)] at hQ38
      obtain ⟨rfl, N38q, e38⟩ := hQ38
      have N38 := Fr.app N37 N38q
      refine Gz.tr st38 ?_
      refine Gz.iload 136 X38 hx (dd at_134) rfl rfl ?_
      refine Gz.ifNo 139 X38 hx (dd at_136) ((if0 _ _).trans (tlt (by decide : (0 : Int32) < (2 : Int32))).2.2.2) rfl ?_
      refine Gz.iconst 140 (1 : Int32) X38 hx (dd at_139) rfl rfl ?_
      refine Gz.goto 144 X38 hx (dd at_140) (by decide) (by decide) ?_
      refine Gz.icmpNo 147 X38 hx (dd at_144) (teq (by decide : (1 : Int32) = (1 : Int32))).2 rfl ?_
      refine Gz.iconst 148 (1 : Int32) X38 hx (dd at_147) rfl rfl ?_
      refine Gz.goto 152 X38 hx (dd at_148) (by decide) (by decide) ?_
      refine Gz.istore 154 #[.val (.int p0), .val (.int p1), .val (.int p2), .val (.int p3), .val (.int p4), .val (.int p5), .val (.int (2 : Int32)), .val (.int (0 : Int32)), .val (.int rr), .val (.int (p1.toInt8.toInt32)), .val (.ref b31), .val (.ref b36), .val (.int (1 : Int32)), .unset, .unset, .unset, .unset, .unset] X38 hx (dd at_152) rfl rfl ?_
      refine Gz.aload 156 X38 hx (dd at_154) rfl rfl rfl ?_
      refine Gz.astore 158 #[.val (.int p0), .val (.int p1), .val (.int p2), .val (.int p3), .val (.int p4), .val (.int p5), .val (.int (2 : Int32)), .val (.int (0 : Int32)), .val (.int rr), .val (.int (p1.toInt8.toInt32)), .val (.ref b31), .val (.ref b36), .val (.int (1 : Int32)), .val (.ref b36), .unset, .unset, .unset, .unset] X38 hx (dd at_156) rfl rfl rfl ?_
      refine Gz.iload 160 X38 hx (dd at_158) rfl rfl ?_
      refine Gz.istore 162 #[.val (.int p0), .val (.int p1), .val (.int p2), .val (.int p3), .val (.int p4), .val (.int p5), .val (.int (2 : Int32)), .val (.int (0 : Int32)), .val (.int rr), .val (.int (p1.toInt8.toInt32)), .val (.ref b31), .val (.ref b36), .val (.int (1 : Int32)), .val (.ref b36), .val (.int (2 : Int32)), .unset, .unset, .unset] X38 hx (dd at_160) rfl rfl ?_
      refine Gz.iconst 163 (0 : Int32) X38 hx (dd at_162) rfl rfl ?_
      refine Gz.istore 165 #[.val (.int p0), .val (.int p1), .val (.int p2), .val (.int p3), .val (.int p4), .val (.int p5), .val (.int (2 : Int32)), .val (.int (0 : Int32)), .val (.int rr), .val (.int (p1.toInt8.toInt32)), .val (.ref b31), .val (.ref b36), .val (.int (1 : Int32)), .val (.ref b36), .val (.int (2 : Int32)), .val (.int (0 : Int32)), .unset, .unset] X38 hx (dd at_163) rfl rfl ?_
      refine Gz.iload 167 X38 hx (dd at_165) rfl rfl ?_
      refine Gz.ifYes 228 X38 hx (dd at_167) ((if0 _ _).trans (teq (by decide : (0 : Int32) = (0 : Int32))).1) (by decide) (by decide) ?_
      refine Gz.iload 230 X38 hx (dd at_228) rfl rfl ?_
      by_cases hc39 : (p1.toInt8.toInt32) < (0 : Int32)
      · refine Gz.ifYes 237 X38 hx (dd at_230) ((if0 _ _).trans (tlt hc39).1) (by decide) (by decide) ?_
        refine Gz.iconst 238 (2 : Int32) X38 hx (dd at_237) rfl rfl ?_
        refine Gz.istore 240 #[.val (.int p0), .val (.int p1), .val (.int p2), .val (.int p3), .val (.int p4), .val (.int p5), .val (.int (2 : Int32)), .val (.int (0 : Int32)), .val (.int rr), .val (.int (p1.toInt8.toInt32)), .val (.ref b31), .val (.ref b36), .val (.int (1 : Int32)), .val (.ref b36), .val (.int (2 : Int32)), .val (.int (0 : Int32)), .val (.int (2 : Int32)), .unset] X38 hx (dd at_238) rfl rfl ?_
        exact sg_2_x_2 (.val (.int p0)) (.val (.int p1)) (.val (.int p2)) (.val (.int p3)) (.val (.int p4)) (.val (.int p5)) (.val (.int (2 : Int32))) (.val (.int (0 : Int32))) rr (.val (.int (p1.toInt8.toInt32))) (.val (.ref b31)) (.val (.ref b36)) b36 (.unset) b31 k31 (p1.toInt8.toInt32) ((p2 &&& (127 : Int32)).toInt8.toInt32) n0 X38 hx hZ hw hby hml hown hret hlk e38 N38 SZ37 QE37_0 QF37_0 QF37_1 QF37_2 g_b36 f37_Vb31 ne_b31_b36 ((own_7 _) : ¬ (((p2 &&& (127 : Int32)).toInt8.toInt32) < (0 : Int32))) hc39
      · refine Gz.ifNo 233 X38 hx (dd at_230) ((if0 _ _).trans (flt hc39).1) rfl ?_
        refine Gz.iconst 234 (1 : Int32) X38 hx (dd at_233) rfl rfl ?_
        refine Gz.goto 238 X38 hx (dd at_234) (by decide) (by decide) ?_
        refine Gz.istore 240 #[.val (.int p0), .val (.int p1), .val (.int p2), .val (.int p3), .val (.int p4), .val (.int p5), .val (.int (2 : Int32)), .val (.int (0 : Int32)), .val (.int rr), .val (.int (p1.toInt8.toInt32)), .val (.ref b31), .val (.ref b36), .val (.int (1 : Int32)), .val (.ref b36), .val (.int (2 : Int32)), .val (.int (0 : Int32)), .val (.int (1 : Int32)), .unset] X38 hx (dd at_238) rfl rfl ?_
        exact sg_2_x_1 (.val (.int p0)) (.val (.int p1)) (.val (.int p2)) (.val (.int p3)) (.val (.int p4)) (.val (.int p5)) (.val (.int (2 : Int32))) (.val (.int (0 : Int32))) rr (.val (.int (p1.toInt8.toInt32))) (.val (.ref b31)) (.val (.ref b36)) b36 (.unset) b31 k31 (p1.toInt8.toInt32) ((p2 &&& (127 : Int32)).toInt8.toInt32) n0 X38 hx hZ hw hby hml hown hret hlk e38 N38 SZ37 QE37_0 QF37_0 QF37_1 QF37_2 g_b36 f37_Vb31 ne_b31_b36 ((own_7 _) : ¬ (((p2 &&& (127 : Int32)).toInt8.toInt32) < (0 : Int32))) hc39
    · refine Gz.ifNo 17 X0 hx (dd at_14) ((if0 _ _).trans (feq hc30).1) rfl ?_
      refine Gz.iload 19 X0 hx (dd at_17) rfl rfl ?_
      refine Gz.ifNo 22 X0 hx (dd at_19) ((if0 _ _).trans (tlt (by decide : (0 : Int32) < (2 : Int32))).2.2.2) rfl ?_
      refine Gz.iconst 23 (1 : Int32) X0 hx (dd at_22) rfl rfl ?_
      refine Gz.goto 27 X0 hx (dd at_23) (by decide) (by decide) ?_
      refine Gz.istore 29 #[.val (.int p0), .val (.int p1), .val (.int p2), .val (.int p3), .val (.int p4), .val (.int p5), .val (.int (2 : Int32)), .val (.int (1 : Int32)), .unset, .unset, .unset, .unset, .unset, .unset, .unset, .unset, .unset, .unset] X0 hx (dd at_27) rfl rfl ?_
      refine Gz.iload 31 X0 hx (dd at_29) rfl rfl ?_
      refine Gz.iconst 32 (3 : Int32) X0 hx (dd at_31) rfl rfl ?_
      refine Gz.iand 33 X0 hx (dd at_32) rfl ?_
      show Gz p e below s _ _ _ (s₁.setTop (mkF m 33 #[.val (.int p0), .val (.int p1), .val (.int p2), .val (.int p3), .val (.int p4), .val (.int p5), .val (.int (2 : Int32)), .val (.int (1 : Int32)), .unset, .unset, .unset, .unset, .unset, .unset, .unset, .unset, .unset, .unset] [(.int (p5 &&& (3 : Int32)))]))
      obtain ⟨rr, q_rr⟩ : ∃ z, (p5 &&& (3 : Int32)) = z := ⟨_, rfl⟩
      rw [q_rr]
      show Gz p e below s _ _ _ (s₁.setTop (mkF m 33 #[.val (.int p0), .val (.int p1), .val (.int p2), .val (.int p3), .val (.int p4), .val (.int p5), .val (.int (2 : Int32)), .val (.int (1 : Int32)), .unset, .unset, .unset, .unset, .unset, .unset, .unset, .unset, .unset, .unset] [(.int rr)]))
      refine Gz.istore 35 #[.val (.int p0), .val (.int p1), .val (.int p2), .val (.int p3), .val (.int p4), .val (.int p5), .val (.int (2 : Int32)), .val (.int (1 : Int32)), .val (.int rr), .unset, .unset, .unset, .unset, .unset, .unset, .unset, .unset, .unset] X0 hx (dd at_33) rfl rfl ?_
      refine Gz.iload 37 X0 hx (dd at_35) rfl rfl ?_
      refine Gz.ifNo 40 X0 hx (dd at_37) ((if0 _ _).trans (feq (by decide : ¬ ((1 : Int32) = (0 : Int32)))).1) rfl ?_
      refine Gz.iloadN 41 X0 hx (dd at_40) rfl rfl ?_
      refine Gz.ldcI 43 X0 hx (dd at_41) hown (mvT hZ (ww hw 0 rfl)) rfl ?_
      refine Gz.iand 44 X0 hx (dd at_43) rfl ?_
      refine Gz.iload 46 X0 hx (dd at_44) rfl rfl ?_
      refine Gz.irem 47 X0 hx (dd at_46) (by decide) rfl ?_
      show Gz p e below s _ _ _ (s₁.setTop (mkF m 47 #[.val (.int p0), .val (.int p1), .val (.int p2), .val (.int p3), .val (.int p4), .val (.int p5), .val (.int (2 : Int32)), .val (.int (1 : Int32)), .val (.int rr), .unset, .unset, .unset, .unset, .unset, .unset, .unset, .unset, .unset] [(.int ((p1 &&& (2147483647 : Int32)) % (2 : Int32)))]))
      rcases own_r2 p1 with hs40 | hs40
      · rw [hs40]
        refine Gz.i2bV 48 (0 : Int32) X0 hx (dd at_47) rfl rfl ?_
        refine Gz.goto 53 X0 hx (dd at_48) (by decide) (by decide) ?_
        refine Gz.istore 55 #[.val (.int p0), .val (.int p1), .val (.int p2), .val (.int p3), .val (.int p4), .val (.int p5), .val (.int (2 : Int32)), .val (.int (1 : Int32)), .val (.int rr), .val (.int (0 : Int32)), .unset, .unset, .unset, .unset, .unset, .unset, .unset, .unset] X0 hx (dd at_53) rfl rfl ?_
        refine Gz.iload 57 X0 hx (dd at_55) rfl rfl ?_
        obtain ⟨T41, h41, k41, X41, e41, E41, A41, Q41, st41⟩ := newPE X0 hx hZ (ww hw 1 rfl) e0 (g := (mkF m 57 #[.val (.int p0), .val (.int p1), .val (.int p2), .val (.int p3), .val (.int p4), .val (.int p5), .val (.int (2 : Int32)), .val (.int (1 : Int32)), .val (.int rr), .val (.int (0 : Int32)), .unset, .unset, .unset, .unset, .unset, .unset, .unset, .unset] [(.int (2 : Int32))])) rfl (dd at_57) rfl (by decide) (cap := 2) (by decide) (by decide) (by decide) (by decide) (ad := "[B") rfl
        obtain ⟨b41, g41⟩ : ∃ z, z = h0.size := ⟨_, rfl⟩
        rw [← g41] at A41 Q41 st41
        have g_b41 : n0 ≤ b41 := Nat.le_trans Z0 (Nat.le_of_eq g41.symm)
        have SZ41 : n0 ≤ h41.size := Nat.le_trans Z0 E41.1
        have f41_S_st_MESSAGE := Sta.ext E41 S_st_MESSAGE
        have V41 : Arv Z h41 b41 k41 .byte (2 : Int32) [(.int (0 : Int32)), (.int (0 : Int32))] (.int (0 : Int32)) := (Arv.new A41 (by decide)).pad (pad_rep [] (.int (0 : Int32)) 2)
        refine Gz.st st41 ?_
        refine Gz.astore 61 #[.val (.int p0), .val (.int p1), .val (.int p2), .val (.int p3), .val (.int p4), .val (.int p5), .val (.int (2 : Int32)), .val (.int (1 : Int32)), .val (.int rr), .val (.int (0 : Int32)), .val (.ref b41), .unset, .unset, .unset, .unset, .unset, .unset, .unset] X41 hx (dd at_59) rfl rfl rfl ?_
        refine Gz.iload 63 X41 hx (dd at_61) rfl rfl ?_
        refine Gz.ifNo 66 X41 hx (dd at_63) ((if0 _ _).trans (tlt (by decide : (0 : Int32) < (2 : Int32))).2.2.2) rfl ?_
        refine Gz.aload 68 X41 hx (dd at_66) rfl rfl rfl ?_
        refine Gz.iconst 69 (0 : Int32) X41 hx (dd at_68) rfl rfl ?_
        refine Gz.iload 71 X41 hx (dd at_69) rfl rfl ?_
        obtain ⟨c42, A42, q42, S42, N42, H42, G42⟩ := id V41
        have hin42 : ¬ ((0 : Int32) < 0 ∨ c42.slots.size ≤ ((0 : Int32)).toNatClampNeg) := inb_of S42 ⟨by decide, by decide⟩
        refine Gz.stB 72 X41 hx hZ (dd at_71) e41 A42 hin42 rfl fun T43 h43 X43 e43 W43 => ?_
        have V43 := Arv.set A42 q42 S42 N42 H42 G42 (fits_nar_byte _) W43 0 rfl (Nat.le_of_ble_eq_true rfl)
        replace V43 : Arv Z h43 b41 k41 .byte (2 : Int32) [(.int (0 : Int32)), (.int (0 : Int32))] (.int (0 : Int32)) := V43
        have f43_S_st_MESSAGE := Sta.wr W43 f41_S_st_MESSAGE
        have f43_Eb41 := Exa.wr W43 Q41
        have N43 := Fr.snoc X43 N0 g_b41
        have SZ43 : n0 ≤ h43.size := Nat.le_trans SZ41 (Keep.of_wr W43).1
        refine Gz.iload 74 X43 hx (dd at_72) rfl rfl ?_
        refine Gz.iconst 75 (1 : Int32) X43 hx (dd at_74) rfl rfl ?_
        refine Gz.icmpNo 78 X43 hx (dd at_75) (tlt (by decide : (1 : Int32) < (2 : Int32))).2.2.2 rfl ?_
        refine Gz.aload 80 X43 hx (dd at_78) rfl rfl rfl ?_
        refine Gz.iconst 81 (1 : Int32) X43 hx (dd at_80) rfl rfl ?_
        refine Gz.iloadN 82 X43 hx (dd at_81) rfl rfl ?_
        refine Gz.bipush 84 (127 : Int32) X43 hx (dd at_82) rfl rfl ?_
        refine Gz.iand 85 X43 hx (dd at_84) rfl ?_
        refine Gz.i2b 86 X43 hx (dd at_85) rfl ?_
        obtain ⟨c44, A44, q44, S44, N44, H44, G44⟩ := id V43
        have hin44 : ¬ ((1 : Int32) < 0 ∨ c44.slots.size ≤ ((1 : Int32)).toNatClampNeg) := inb_of S44 ⟨by decide, by decide⟩
        refine Gz.stB 87 X43 hx hZ (dd at_86) e43 A44 hin44 rfl fun T45 h45 X45 e45 W45 => ?_
        rw [own_nb] at W45
        have V45 := Arv.set A44 q44 S44 N44 H44 G44 (fits_nar_byte _) W45 1 rfl (Nat.le_of_ble_eq_true rfl)
        replace V45 : Arv Z h45 b41 k41 .byte (2 : Int32) [(.int (0 : Int32)), (.int ((p2 &&& (127 : Int32)).toInt8.toInt32))] (.int (0 : Int32)) := V45
        have f45_S_st_MESSAGE := Sta.wr W45 f43_S_st_MESSAGE
        have f45_Eb41 := Exa.wr W45 f43_Eb41
        have N45 := Fr.snoc X45 N43 g_b41
        have SZ45 : n0 ≤ h45.size := Nat.le_trans SZ43 (Keep.of_wr W45).1
        refine Gz.iload 89 X45 hx (dd at_87) rfl rfl ?_
        refine Gz.iconst 90 (2 : Int32) X45 hx (dd at_89) rfl rfl ?_
        refine Gz.icmpYes 102 X45 hx (dd at_90) (flt (by decide : ¬ ((2 : Int32) < (2 : Int32)))).2.2.2 (by decide) (by decide) ?_
        refine Gz.iload 104 X45 hx (dd at_102) rfl rfl ?_
        refine Gz.iconst 105 (3 : Int32) X45 hx (dd at_104) rfl rfl ?_
        refine Gz.icmpYes 118 X45 hx (dd at_105) (flt (by decide : ¬ ((3 : Int32) < (2 : Int32)))).2.2.2 (by decide) (by decide) ?_
        obtain ⟨T46, h46, X46, e46, E46, A46, D46, -, st46⟩ := newO X45 hx hZ hown (ww hw 2 rfl) (ww hw 3 rfl) (ww hw 4 rfl) e45 (g := (mkF m 118 #[.val (.int p0), .val (.int p1), .val (.int p2), .val (.int p3), .val (.int p4), .val (.int p5), .val (.int (2 : Int32)), .val (.int (1 : Int32)), .val (.int rr), .val (.int (0 : Int32)), .val (.ref b41), .unset, .unset, .unset, .unset, .unset, .unset, .unset] [])) rfl (dd at_118) (by decide) (by decide)
        obtain ⟨b46, g46⟩ : ∃ z, z = h45.size := ⟨_, rfl⟩
        rw [← g46] at A46 D46 st46
        have ne_b41_b46 : b41 ≠ b46 := Nat.ne_of_lt (Nat.lt_of_lt_of_le (f45_Eb41).lt (Nat.le_of_eq g46.symm))
        have g_b46 : n0 ≤ b46 := Nat.le_trans SZ45 (Nat.le_of_eq g46.symm)
        have SZ46 : n0 ≤ h46.size := Nat.le_trans SZ45 E46.1
        have f46_S_st_MESSAGE := Sta.ext E46 f45_S_st_MESSAGE
        have f46_Eb41 := Exa.ext E46 f45_Eb41
        have f46_Vb41 := Arv.ext V45 E46
        have F_bytes_b46 : Fld Z h46 b46 "com/example/bad_status/badstatus/model/ProtoReader" "bytes" "[B" .null := D46 (Or.inr (ww hw 15 rfl)) (ty := (.array .byte)) (by decide)
        have F_position_b46 : Fld Z h46 b46 "com/example/bad_status/badstatus/model/ProtoReader" "position" "I" (.int (0 : Int32)) := D46 (Or.inl (ww hw 17 rfl)) (ty := .int) (by decide)
        have F_end_b46 : Fld Z h46 b46 "com/example/bad_status/badstatus/model/ProtoReader" "end" "I" (.int (0 : Int32)) := D46 (Or.inr (ww hw 19 rfl)) (ty := .int) (by decide)
        have F_place_b46 : Fld Z h46 b46 "com/example/bad_status/badstatus/model/ProtoReader" "place" "Lcom/example/bad_status/badstatus/model/Place;" .null := D46 (Or.inr (ww hw 21 rfl)) (ty := (.object "com/example/bad_status/badstatus/model/Place")) (by decide)
        refine Gz.st st46 ?_
        refine Gz.dup 122 X46 hx (dd at_121) rfl rfl ?_
        refine Gz.aload 124 X46 hx (dd at_122) rfl rfl rfl ?_
        obtain ⟨_, _, ⟨T47, L47, k47, n47⟩, -, X47, ⟨Lc47, hQ47, l47, y47, z47⟩, st47⟩ := X46.specialBack hx (y := ym4) rfl hown (mvT hZ (ww hw 5 rfl)) (mvT hZ (ww hw 6 rfl)) (mvT hZ (ww hw 7 rfl)) (by decide) (backOf (W := 1) (rmI1_2 l Z av0 hw [] b46 b41 k41 (0 : Int32) ((p2 &&& (127 : Int32)).toInt8.toInt32) h46 n0 SZ46 A46 F_bytes_b46 F_position_b46 F_end_b46 F_place_b46 g_b46 f46_Vb41 ne_b41_b46) hZ (ww hw 7 rfl) (ww hw 4 rfl) (by decide) (by decide)) (g := (mkF m 124 #[.val (.int p0), .val (.int p1), .val (.int p2), .val (.int p3), .val (.int p4), .val (.int p5), .val (.int (2 : Int32)), .val (.int (1 : Int32)), .val (.int rr), .val (.int (0 : Int32)), .val (.ref b41), .unset, .unset, .unset, .unset, .unset, .unset, .unset] [(.ref b41), (.ref b46), (.ref b46)])) rfl (by rw [hml]; rfl) (Steps.refl _) (a := b46) (argsL := [(.ref b41)]) (rest := [(.ref b46)]) (lenOf pd_4 rfl) rfl (Nat.le_refl _) (dd at_124) (fun _ _ => ⟨rfl, e46, (by decide : 2 + 0 ≤ _), (by decide : 6 + 0 ≤ _)⟩)
        dsimp only [Pt.U, Pt.locs, Pt.cells, Pt.slots, Q_rmI1_2] at X47 l47 y47 z47 st47 hQ47
        subst l47 y47 z47
        obtain ⟨rfl, N47q, K47q, QE47_0, QF47_0, QF47_1, QF47_2, QF47_3⟩ := hQ47
        have N47 := Fr.app N45 N47q
        have f47_S_st_MESSAGE := own_staK f46_S_st_MESSAGE K47q (allS (nst_of A46) all0)
        have f47_Eb41 := Exa.keep f46_Eb41 K47q
        have f47_Vb41 := Arv.keep f46_Vb41 K47q (ninS ne_b41_b46 nin0)
        have f47_Eb46 := Exa.keep A46 K47q
        have SZ47 := Nat.le_trans SZ46 K47q.1
        refine Gz.tr st47 ?_
        refine Gz.astore 129 #[.val (.int p0), .val (.int p1), .val (.int p2), .val (.int p3), .val (.int p4), .val (.int p5), .val (.int (2 : Int32)), .val (.int (1 : Int32)), .val (.int rr), .val (.int (0 : Int32)), .val (.ref b41), .val (.ref b46), .unset, .unset, .unset, .unset, .unset, .unset] X47 hx (dd at_127) rfl rfl rfl ?_
        refine Gz.aload 131 X47 hx (dd at_129) rfl rfl rfl ?_
        obtain ⟨cq48, kq48, q48a, q48b, q48c⟩ := isOf hZ rfl QE47_0
        obtain ⟨_, _, ⟨T48, L48, k48, n48⟩, -, X48, ⟨Lc48, hQ48, l48, y48, z48⟩, st48⟩ := X47.virtualBack hx (y := ym3) (z := ym3) hown (mvT hZ (ww hw 22 rfl)) (mvT hZ (ww hw 23 rfl)) (notFace_of_selects (args := #[]) (mvT hZ (ww hw 25 rfl))) (mvT hZ (ww hw 25 rfl)) (mvT hZ (ww hw 24 rfl)) (by decide) (backOf (W := 0) (rm4 l Z av0 hw [] b46 (0 : Int32) (2 : Int32) T47.heap n0 SZ47 QF47_1 QF47_2) hZ (ww hw 26 rfl) (ww hw 4 rfl) (by decide) (by decide)) q48a q48c (g := (mkF m 131 #[.val (.int p0), .val (.int p1), .val (.int p2), .val (.int p3), .val (.int p4), .val (.int p5), .val (.int (2 : Int32)), .val (.int (1 : Int32)), .val (.int rr), .val (.int (0 : Int32)), .val (.ref b41), .val (.ref b46), .unset, .unset, .unset, .unset, .unset, .unset] [(.ref b46)])) rfl (by rw [hml]; rfl) (Steps.refl _) (argsL := []) (rest := []) (lenOf pd_3 rfl) rfl (Nat.le_refl _) (dd at_131) (fun _ _ => ⟨rfl, rfl, (by decide : 2 + 0 ≤ _), (by decide : 6 + 0 ≤ _)⟩)
        dsimp only [Pt.U, Pt.locs, Pt.cells, Pt.slots, Q_rm4] at X48 l48 y48 z48 st48 hQ48
        subst l48 y48 z48
        rw [show (fHM b46 (0 : Int32) (2 : Int32)) = (1 : Int32) from (by unfold fHM; rw [if_pos (by decide : (0 : Int32) < (2 : Int32))]; try decide)] at hQ48
        obtain ⟨rfl, N48q, e48⟩ := hQ48
        have N48 := Fr.app N47 N48q
        refine Gz.tr st48 ?_
        refine Gz.iload 136 X48 hx (dd at_134) rfl rfl ?_
        refine Gz.ifNo 139 X48 hx (dd at_136) ((if0 _ _).trans (tlt (by decide : (0 : Int32) < (2 : Int32))).2.2.2) rfl ?_
        refine Gz.iconst 140 (1 : Int32) X48 hx (dd at_139) rfl rfl ?_
        refine Gz.goto 144 X48 hx (dd at_140) (by decide) (by decide) ?_
        refine Gz.icmpNo 147 X48 hx (dd at_144) (teq (by decide : (1 : Int32) = (1 : Int32))).2 rfl ?_
        refine Gz.iconst 148 (1 : Int32) X48 hx (dd at_147) rfl rfl ?_
        refine Gz.goto 152 X48 hx (dd at_148) (by decide) (by decide) ?_
        refine Gz.istore 154 #[.val (.int p0), .val (.int p1), .val (.int p2), .val (.int p3), .val (.int p4), .val (.int p5), .val (.int (2 : Int32)), .val (.int (1 : Int32)), .val (.int rr), .val (.int (0 : Int32)), .val (.ref b41), .val (.ref b46), .val (.int (1 : Int32)), .unset, .unset, .unset, .unset, .unset] X48 hx (dd at_152) rfl rfl ?_
        refine Gz.aload 156 X48 hx (dd at_154) rfl rfl rfl ?_
        refine Gz.astore 158 #[.val (.int p0), .val (.int p1), .val (.int p2), .val (.int p3), .val (.int p4), .val (.int p5), .val (.int (2 : Int32)), .val (.int (1 : Int32)), .val (.int rr), .val (.int (0 : Int32)), .val (.ref b41), .val (.ref b46), .val (.int (1 : Int32)), .val (.ref b46), .unset, .unset, .unset, .unset] X48 hx (dd at_156) rfl rfl rfl ?_
        refine Gz.iload 160 X48 hx (dd at_158) rfl rfl ?_
        refine Gz.istore 162 #[.val (.int p0), .val (.int p1), .val (.int p2), .val (.int p3), .val (.int p4), .val (.int p5), .val (.int (2 : Int32)), .val (.int (1 : Int32)), .val (.int rr), .val (.int (0 : Int32)), .val (.ref b41), .val (.ref b46), .val (.int (1 : Int32)), .val (.ref b46), .val (.int (2 : Int32)), .unset, .unset, .unset] X48 hx (dd at_160) rfl rfl ?_
        refine Gz.iconst 163 (0 : Int32) X48 hx (dd at_162) rfl rfl ?_
        refine Gz.istore 165 #[.val (.int p0), .val (.int p1), .val (.int p2), .val (.int p3), .val (.int p4), .val (.int p5), .val (.int (2 : Int32)), .val (.int (1 : Int32)), .val (.int rr), .val (.int (0 : Int32)), .val (.ref b41), .val (.ref b46), .val (.int (1 : Int32)), .val (.ref b46), .val (.int (2 : Int32)), .val (.int (0 : Int32)), .unset, .unset] X48 hx (dd at_163) rfl rfl ?_
        refine Gz.iload 167 X48 hx (dd at_165) rfl rfl ?_
        refine Gz.ifNo 170 X48 hx (dd at_167) ((if0 _ _).trans (feq (by decide : ¬ ((1 : Int32) = (0 : Int32)))).1) rfl ?_
        refine Gz.iload 172 X48 hx (dd at_170) rfl rfl ?_
        refine Gz.istore 174 #[.val (.int p0), .val (.int p1), .val (.int p2), .val (.int p3), .val (.int p4), .val (.int p5), .val (.int (2 : Int32)), .val (.int (1 : Int32)), .val (.int rr), .val (.int (0 : Int32)), .val (.ref b41), .val (.ref b46), .val (.int (1 : Int32)), .val (.ref b46), .val (.int (2 : Int32)), .val (.int (0 : Int32)), .unset, .val (.int (0 : Int32))] X48 hx (dd at_172) rfl rfl ?_
        refine Gz.aload 176 X48 hx (dd at_174) rfl rfl rfl ?_
        refine Gz.getS 179 X48 hx hZ hown (dd at_176) (host := "") (Or.inl (ww hw 32 rfl)) Via.refl e48 f47_S_st_MESSAGE rfl fun T49 X49 e49 => ?_
        obtain ⟨cq50, kq50, q50a, q50b, q50c⟩ := isOf hZ e49 QE47_0
        obtain ⟨_, _, ⟨T50, L50, k50, n50⟩, -, X50, ⟨Lc50, hQ50, l50, y50, z50⟩, st50⟩ := X49.virtualBack hx (y := ym5) (z := ym5) hown (mvT hZ (ww hw 35 rfl)) (mvT hZ (ww hw 36 rfl)) (notFace_of_selects (args := #[]) (mvT hZ (ww hw 38 rfl))) (mvT hZ (ww hw 38 rfl)) (mvT hZ (ww hw 37 rfl)) (by decide) (backOf (W := 0) (rmM20 l Z av0 hw [] b46 st_MESSAGE b41 k41 ((p2 &&& (127 : Int32)).toInt8.toInt32) T47.heap n0 SZ47 QE47_0 QF47_0 QF47_1 QF47_2 g_b46 f47_Vb41 ne_b41_b46) hZ (ww hw 39 rfl) (ww hw 4 rfl) (by decide) (by decide)) q50a q50c (g := (mkF m 179 #[.val (.int p0), .val (.int p1), .val (.int p2), .val (.int p3), .val (.int p4), .val (.int p5), .val (.int (2 : Int32)), .val (.int (1 : Int32)), .val (.int rr), .val (.int (0 : Int32)), .val (.ref b41), .val (.ref b46), .val (.int (1 : Int32)), .val (.ref b46), .val (.int (2 : Int32)), .val (.int (0 : Int32)), .unset, .val (.int (0 : Int32))] [(.ref st_MESSAGE), (.ref b46)])) rfl (by rw [hml]; rfl) (Steps.refl _) (argsL := [(.ref st_MESSAGE)]) (rest := []) (lenOf pd_5 rfl) rfl (Nat.le_refl _) (dd at_179) (fun _ _ => ⟨rfl, e49, (by decide : 2 + 1 ≤ _), (by decide : 6 + 4 ≤ _)⟩)
        dsimp only [Pt.U, Pt.locs, Pt.cells, Pt.slots, Q_rmM20] at X50 l50 y50 z50 st50 hQ50
        subst l50 y50 z50
        obtain ⟨rd50, rfl, N50q, K50q, QE50, QB50, QP50, QN50, gr50, szr50, RE50, RB50, RP50, RN50⟩ := hQ50
        have N50 := Fr.app N48 N50q
        have ne_b41_rd50 : b41 ≠ rd50 := Nat.ne_of_lt (Nat.lt_of_lt_of_le (f47_Vb41).lt szr50)
        have ne_b46_rd50 : b46 ≠ rd50 := Nat.ne_of_lt (Nat.lt_of_lt_of_le (QF47_3).lt szr50)
        have f50_S_st_MESSAGE := own_staK f47_S_st_MESSAGE K50q (allS (nst_of QE47_0) all0)
        have f50_Eb41 := Exa.keep f47_Eb41 K50q
        have f50_Vb41 := Arv.keep f47_Vb41 K50q (ninS ne_b41_b46 nin0)
        have f50_E_b46 := Exa.keep QE47_0 K50q
        have SZ50 := Nat.le_trans SZ47 K50q.1
        refine Gz.tr st50 ?_
        refine Gz.astore 184 #[.val (.int p0), .val (.int p1), .val (.int p2), .val (.int p3), .val (.int p4), .val (.int p5), .val (.int (2 : Int32)), .val (.int (1 : Int32)), .val (.int rr), .val (.int (0 : Int32)), .val (.ref b41), .val (.ref b46), .val (.int (1 : Int32)), .val (.ref rd50), .val (.int (2 : Int32)), .val (.int (0 : Int32)), .unset, .val (.int (0 : Int32))] X50 hx (dd at_182) rfl rfl rfl ?_
        refine Gz.iload 186 X50 hx (dd at_184) rfl rfl ?_
        refine Gz.ifNo 189 X50 hx (dd at_186) ((if0 _ _).trans (feq (by decide : ¬ ((1 : Int32) = (0 : Int32)))).1) rfl ?_
        refine Gz.aload 191 X50 hx (dd at_189) rfl rfl rfl ?_
        obtain ⟨cq51, kq51, q51a, q51b, q51c⟩ := isOf hZ rfl QE50
        obtain ⟨_, _, ⟨T51, L51, k51, n51⟩, -, X51, ⟨Lc51, hQ51, l51, y51, z51⟩, st51⟩ := X50.virtualBack hx (y := ym3) (z := ym3) hown (mvT hZ (ww hw 22 rfl)) (mvT hZ (ww hw 23 rfl)) (notFace_of_selects (args := #[]) (mvT hZ (ww hw 25 rfl))) (mvT hZ (ww hw 25 rfl)) (mvT hZ (ww hw 24 rfl)) (by decide) (backOf (W := 0) (rm4 l Z av0 hw [] b46 (1 : Int32) (2 : Int32) T50.heap n0 SZ50 QP50 QN50) hZ (ww hw 26 rfl) (ww hw 4 rfl) (by decide) (by decide)) q51a q51c (g := (mkF m 191 #[.val (.int p0), .val (.int p1), .val (.int p2), .val (.int p3), .val (.int p4), .val (.int p5), .val (.int (2 : Int32)), .val (.int (1 : Int32)), .val (.int rr), .val (.int (0 : Int32)), .val (.ref b41), .val (.ref b46), .val (.int (1 : Int32)), .val (.ref rd50), .val (.int (2 : Int32)), .val (.int (0 : Int32)), .unset, .val (.int (0 : Int32))] [(.ref b46)])) rfl (by rw [hml]; rfl) (Steps.refl _) (argsL := []) (rest := []) (lenOf pd_3 rfl) rfl (Nat.le_refl _) (dd at_191) (fun _ _ => ⟨rfl, rfl, (by decide : 3 + 0 ≤ _), (by decide : 10 + 0 ≤ _)⟩)
        dsimp only [Pt.U, Pt.locs, Pt.cells, Pt.slots, Q_rm4] at X51 l51 y51 z51 st51 hQ51
        subst l51 y51 z51
        rw [show (fHM b46 (1 : Int32) (2 : Int32)) = (1 : Int32) from (by unfold fHM; rw [if_pos (by decide : (1 : Int32) < (2 : Int32))]; try decide)] at hQ51
        obtain ⟨rfl, N51q, e51⟩ := hQ51
        have N51 := Fr.app N50 N51q
        refine Gz.tr st51 ?_
        refine Gz.iconst 195 (1 : Int32) X51 hx (dd at_194) rfl rfl ?_
        refine Gz.iload 197 X51 hx (dd at_195) rfl rfl ?_
        refine Gz.iaddV 198 (1 : Int32) X51 hx (dd at_197) rfl rfl ?_
        refine Gz.iload 200 X51 hx (dd at_198) rfl rfl ?_
        refine Gz.icmpNo 203 X51 hx (dd at_200) (tlt (by decide : (1 : Int32) < (2 : Int32))).2.1 rfl ?_
        refine Gz.iconst 204 (1 : Int32) X51 hx (dd at_203) rfl rfl ?_
        refine Gz.goto 208 X51 hx (dd at_204) (by decide) (by decide) ?_
        refine Gz.icmpNo 211 X51 hx (dd at_208) (teq (by decide : (1 : Int32) = (1 : Int32))).2 rfl ?_
        refine Gz.iconst 212 (1 : Int32) X51 hx (dd at_211) rfl rfl ?_
        refine Gz.goto 216 X51 hx (dd at_212) (by decide) (by decide) ?_
        refine Gz.istore 218 #[.val (.int p0), .val (.int p1), .val (.int p2), .val (.int p3), .val (.int p4), .val (.int p5), .val (.int (2 : Int32)), .val (.int (1 : Int32)), .val (.int rr), .val (.int (0 : Int32)), .val (.ref b41), .val (.ref b46), .val (.int (1 : Int32)), .val (.ref rd50), .val (.int (2 : Int32)), .val (.int (0 : Int32)), .unset, .val (.int (0 : Int32))] X51 hx (dd at_216) rfl rfl ?_
        refine Gz.iload 220 X51 hx (dd at_218) rfl rfl ?_
        refine Gz.istore 222 #[.val (.int p0), .val (.int p1), .val (.int p2), .val (.int p3), .val (.int p4), .val (.int p5), .val (.int (2 : Int32)), .val (.int (1 : Int32)), .val (.int rr), .val (.int (0 : Int32)), .val (.ref b41), .val (.ref b46), .val (.int (1 : Int32)), .val (.ref rd50), .val (.int (0 : Int32)), .val (.int (0 : Int32)), .unset, .val (.int (0 : Int32))] X51 hx (dd at_220) rfl rfl ?_
        refine Gz.iconst 223 (1 : Int32) X51 hx (dd at_222) rfl rfl ?_
        refine Gz.istore 225 #[.val (.int p0), .val (.int p1), .val (.int p2), .val (.int p3), .val (.int p4), .val (.int p5), .val (.int (2 : Int32)), .val (.int (1 : Int32)), .val (.int rr), .val (.int (0 : Int32)), .val (.ref b41), .val (.ref b46), .val (.int (1 : Int32)), .val (.ref rd50), .val (.int (0 : Int32)), .val (.int (0 : Int32)), .val (.int (1 : Int32)), .val (.int (0 : Int32))] X51 hx (dd at_223) rfl rfl ?_
        refine Gz.goto 240 X51 hx (dd at_225) (by decide) (by decide) ?_
        exact sg_2_0_1 (.val (.int p0)) (.val (.int p1)) (.val (.int p2)) (.val (.int p3)) (.val (.int p4)) (.val (.int p5)) (.val (.int (2 : Int32))) (.val (.int (1 : Int32))) rr (.val (.int (0 : Int32))) (.val (.ref b41)) (.val (.ref b46)) rd50 (.val (.int (0 : Int32))) b41 k41 ((p2 &&& (127 : Int32)).toInt8.toInt32) n0 X51 hx hZ hw hby hml hown hret hlk e51 N51 SZ50 RE50 RB50 RP50 RN50 gr50 f50_Vb41 ne_b41_rd50 ((own_7 _) : ¬ (((p2 &&& (127 : Int32)).toInt8.toInt32) < (0 : Int32)))
      · rw [hs40]
        refine Gz.i2bV 48 (1 : Int32) X0 hx (dd at_47) rfl rfl ?_
        refine Gz.goto 53 X0 hx (dd at_48) (by decide) (by decide) ?_
        refine Gz.istore 55 #[.val (.int p0), .val (.int p1), .val (.int p2), .val (.int p3), .val (.int p4), .val (.int p5), .val (.int (2 : Int32)), .val (.int (1 : Int32)), .val (.int rr), .val (.int (1 : Int32)), .unset, .unset, .unset, .unset, .unset, .unset, .unset, .unset] X0 hx (dd at_53) rfl rfl ?_
        refine Gz.iload 57 X0 hx (dd at_55) rfl rfl ?_
        obtain ⟨T52, h52, k52, X52, e52, E52, A52, Q52, st52⟩ := newPE X0 hx hZ (ww hw 1 rfl) e0 (g := (mkF m 57 #[.val (.int p0), .val (.int p1), .val (.int p2), .val (.int p3), .val (.int p4), .val (.int p5), .val (.int (2 : Int32)), .val (.int (1 : Int32)), .val (.int rr), .val (.int (1 : Int32)), .unset, .unset, .unset, .unset, .unset, .unset, .unset, .unset] [(.int (2 : Int32))])) rfl (dd at_57) rfl (by decide) (cap := 2) (by decide) (by decide) (by decide) (by decide) (ad := "[B") rfl
        obtain ⟨b52, g52⟩ : ∃ z, z = h0.size := ⟨_, rfl⟩
        rw [← g52] at A52 Q52 st52
        have g_b52 : n0 ≤ b52 := Nat.le_trans Z0 (Nat.le_of_eq g52.symm)
        have SZ52 : n0 ≤ h52.size := Nat.le_trans Z0 E52.1
        have f52_S_st_MESSAGE := Sta.ext E52 S_st_MESSAGE
        have V52 : Arv Z h52 b52 k52 .byte (2 : Int32) [(.int (0 : Int32)), (.int (0 : Int32))] (.int (0 : Int32)) := (Arv.new A52 (by decide)).pad (pad_rep [] (.int (0 : Int32)) 2)
        refine Gz.st st52 ?_
        refine Gz.astore 61 #[.val (.int p0), .val (.int p1), .val (.int p2), .val (.int p3), .val (.int p4), .val (.int p5), .val (.int (2 : Int32)), .val (.int (1 : Int32)), .val (.int rr), .val (.int (1 : Int32)), .val (.ref b52), .unset, .unset, .unset, .unset, .unset, .unset, .unset] X52 hx (dd at_59) rfl rfl rfl ?_
        refine Gz.iload 63 X52 hx (dd at_61) rfl rfl ?_
        refine Gz.ifNo 66 X52 hx (dd at_63) ((if0 _ _).trans (tlt (by decide : (0 : Int32) < (2 : Int32))).2.2.2) rfl ?_
        refine Gz.aload 68 X52 hx (dd at_66) rfl rfl rfl ?_
        refine Gz.iconst 69 (0 : Int32) X52 hx (dd at_68) rfl rfl ?_
        refine Gz.iload 71 X52 hx (dd at_69) rfl rfl ?_
        obtain ⟨c53, A53, q53, S53, N53, H53, G53⟩ := id V52
        have hin53 : ¬ ((0 : Int32) < 0 ∨ c53.slots.size ≤ ((0 : Int32)).toNatClampNeg) := inb_of S53 ⟨by decide, by decide⟩
        refine Gz.stB 72 X52 hx hZ (dd at_71) e52 A53 hin53 rfl fun T54 h54 X54 e54 W54 => ?_
        have V54 := Arv.set A53 q53 S53 N53 H53 G53 (fits_nar_byte _) W54 0 rfl (Nat.le_of_ble_eq_true rfl)
        replace V54 : Arv Z h54 b52 k52 .byte (2 : Int32) [(.int (1 : Int32)), (.int (0 : Int32))] (.int (0 : Int32)) := V54
        have f54_S_st_MESSAGE := Sta.wr W54 f52_S_st_MESSAGE
        have f54_Eb52 := Exa.wr W54 Q52
        have N54 := Fr.snoc X54 N0 g_b52
        have SZ54 : n0 ≤ h54.size := Nat.le_trans SZ52 (Keep.of_wr W54).1
        refine Gz.iload 74 X54 hx (dd at_72) rfl rfl ?_
        refine Gz.iconst 75 (1 : Int32) X54 hx (dd at_74) rfl rfl ?_
        refine Gz.icmpNo 78 X54 hx (dd at_75) (tlt (by decide : (1 : Int32) < (2 : Int32))).2.2.2 rfl ?_
        refine Gz.aload 80 X54 hx (dd at_78) rfl rfl rfl ?_
        refine Gz.iconst 81 (1 : Int32) X54 hx (dd at_80) rfl rfl ?_
        refine Gz.iloadN 82 X54 hx (dd at_81) rfl rfl ?_
        refine Gz.bipush 84 (127 : Int32) X54 hx (dd at_82) rfl rfl ?_
        refine Gz.iand 85 X54 hx (dd at_84) rfl ?_
        refine Gz.i2b 86 X54 hx (dd at_85) rfl ?_
        obtain ⟨c55, A55, q55, S55, N55, H55, G55⟩ := id V54
        have hin55 : ¬ ((1 : Int32) < 0 ∨ c55.slots.size ≤ ((1 : Int32)).toNatClampNeg) := inb_of S55 ⟨by decide, by decide⟩
        refine Gz.stB 87 X54 hx hZ (dd at_86) e54 A55 hin55 rfl fun T56 h56 X56 e56 W56 => ?_
        rw [own_nb] at W56
        have V56 := Arv.set A55 q55 S55 N55 H55 G55 (fits_nar_byte _) W56 1 rfl (Nat.le_of_ble_eq_true rfl)
        replace V56 : Arv Z h56 b52 k52 .byte (2 : Int32) [(.int (1 : Int32)), (.int ((p2 &&& (127 : Int32)).toInt8.toInt32))] (.int (0 : Int32)) := V56
        have f56_S_st_MESSAGE := Sta.wr W56 f54_S_st_MESSAGE
        have f56_Eb52 := Exa.wr W56 f54_Eb52
        have N56 := Fr.snoc X56 N54 g_b52
        have SZ56 : n0 ≤ h56.size := Nat.le_trans SZ54 (Keep.of_wr W56).1
        refine Gz.iload 89 X56 hx (dd at_87) rfl rfl ?_
        refine Gz.iconst 90 (2 : Int32) X56 hx (dd at_89) rfl rfl ?_
        refine Gz.icmpYes 102 X56 hx (dd at_90) (flt (by decide : ¬ ((2 : Int32) < (2 : Int32)))).2.2.2 (by decide) (by decide) ?_
        refine Gz.iload 104 X56 hx (dd at_102) rfl rfl ?_
        refine Gz.iconst 105 (3 : Int32) X56 hx (dd at_104) rfl rfl ?_
        refine Gz.icmpYes 118 X56 hx (dd at_105) (flt (by decide : ¬ ((3 : Int32) < (2 : Int32)))).2.2.2 (by decide) (by decide) ?_
        obtain ⟨T57, h57, X57, e57, E57, A57, D57, -, st57⟩ := newO X56 hx hZ hown (ww hw 2 rfl) (ww hw 3 rfl) (ww hw 4 rfl) e56 (g := (mkF m 118 #[.val (.int p0), .val (.int p1), .val (.int p2), .val (.int p3), .val (.int p4), .val (.int p5), .val (.int (2 : Int32)), .val (.int (1 : Int32)), .val (.int rr), .val (.int (1 : Int32)), .val (.ref b52), .unset, .unset, .unset, .unset, .unset, .unset, .unset] [])) rfl (dd at_118) (by decide) (by decide)
        obtain ⟨b57, g57⟩ : ∃ z, z = h56.size := ⟨_, rfl⟩
        rw [← g57] at A57 D57 st57
        have ne_b52_b57 : b52 ≠ b57 := Nat.ne_of_lt (Nat.lt_of_lt_of_le (f56_Eb52).lt (Nat.le_of_eq g57.symm))
        have g_b57 : n0 ≤ b57 := Nat.le_trans SZ56 (Nat.le_of_eq g57.symm)
        have SZ57 : n0 ≤ h57.size := Nat.le_trans SZ56 E57.1
        have f57_S_st_MESSAGE := Sta.ext E57 f56_S_st_MESSAGE
        have f57_Eb52 := Exa.ext E57 f56_Eb52
        have f57_Vb52 := Arv.ext V56 E57
        have F_bytes_b57 : Fld Z h57 b57 "com/example/bad_status/badstatus/model/ProtoReader" "bytes" "[B" .null := D57 (Or.inr (ww hw 15 rfl)) (ty := (.array .byte)) (by decide)
        have F_position_b57 : Fld Z h57 b57 "com/example/bad_status/badstatus/model/ProtoReader" "position" "I" (.int (0 : Int32)) := D57 (Or.inl (ww hw 17 rfl)) (ty := .int) (by decide)
        have F_end_b57 : Fld Z h57 b57 "com/example/bad_status/badstatus/model/ProtoReader" "end" "I" (.int (0 : Int32)) := D57 (Or.inr (ww hw 19 rfl)) (ty := .int) (by decide)
        have F_place_b57 : Fld Z h57 b57 "com/example/bad_status/badstatus/model/ProtoReader" "place" "Lcom/example/bad_status/badstatus/model/Place;" .null := D57 (Or.inr (ww hw 21 rfl)) (ty := (.object "com/example/bad_status/badstatus/model/Place")) (by decide)
        refine Gz.st st57 ?_
        refine Gz.dup 122 X57 hx (dd at_121) rfl rfl ?_
        refine Gz.aload 124 X57 hx (dd at_122) rfl rfl rfl ?_
        obtain ⟨_, _, ⟨T58, L58, k58, n58⟩, -, X58, ⟨Lc58, hQ58, l58, y58, z58⟩, st58⟩ := X57.specialBack hx (y := ym4) rfl hown (mvT hZ (ww hw 5 rfl)) (mvT hZ (ww hw 6 rfl)) (mvT hZ (ww hw 7 rfl)) (by decide) (backOf (W := 1) (rmI1_2 l Z av0 hw [] b57 b52 k52 (1 : Int32) ((p2 &&& (127 : Int32)).toInt8.toInt32) h57 n0 SZ57 A57 F_bytes_b57 F_position_b57 F_end_b57 F_place_b57 g_b57 f57_Vb52 ne_b52_b57) hZ (ww hw 7 rfl) (ww hw 4 rfl) (by decide) (by decide)) (g := (mkF m 124 #[.val (.int p0), .val (.int p1), .val (.int p2), .val (.int p3), .val (.int p4), .val (.int p5), .val (.int (2 : Int32)), .val (.int (1 : Int32)), .val (.int rr), .val (.int (1 : Int32)), .val (.ref b52), .unset, .unset, .unset, .unset, .unset, .unset, .unset] [(.ref b52), (.ref b57), (.ref b57)])) rfl (by rw [hml]; rfl) (Steps.refl _) (a := b57) (argsL := [(.ref b52)]) (rest := [(.ref b57)]) (lenOf pd_4 rfl) rfl (Nat.le_refl _) (dd at_124) (fun _ _ => ⟨rfl, e57, (by decide : 2 + 0 ≤ _), (by decide : 6 + 0 ≤ _)⟩)
        dsimp only [Pt.U, Pt.locs, Pt.cells, Pt.slots, Q_rmI1_2] at X58 l58 y58 z58 st58 hQ58
        subst l58 y58 z58
        obtain ⟨rfl, N58q, K58q, QE58_0, QF58_0, QF58_1, QF58_2, QF58_3⟩ := hQ58
        have N58 := Fr.app N56 N58q
        have f58_S_st_MESSAGE := own_staK f57_S_st_MESSAGE K58q (allS (nst_of A57) all0)
        have f58_Eb52 := Exa.keep f57_Eb52 K58q
        have f58_Vb52 := Arv.keep f57_Vb52 K58q (ninS ne_b52_b57 nin0)
        have f58_Eb57 := Exa.keep A57 K58q
        have SZ58 := Nat.le_trans SZ57 K58q.1
        refine Gz.tr st58 ?_
        refine Gz.astore 129 #[.val (.int p0), .val (.int p1), .val (.int p2), .val (.int p3), .val (.int p4), .val (.int p5), .val (.int (2 : Int32)), .val (.int (1 : Int32)), .val (.int rr), .val (.int (1 : Int32)), .val (.ref b52), .val (.ref b57), .unset, .unset, .unset, .unset, .unset, .unset] X58 hx (dd at_127) rfl rfl rfl ?_
        refine Gz.aload 131 X58 hx (dd at_129) rfl rfl rfl ?_
        obtain ⟨cq59, kq59, q59a, q59b, q59c⟩ := isOf hZ rfl QE58_0
        obtain ⟨_, _, ⟨T59, L59, k59, n59⟩, -, X59, ⟨Lc59, hQ59, l59, y59, z59⟩, st59⟩ := X58.virtualBack hx (y := ym3) (z := ym3) hown (mvT hZ (ww hw 22 rfl)) (mvT hZ (ww hw 23 rfl)) (notFace_of_selects (args := #[]) (mvT hZ (ww hw 25 rfl))) (mvT hZ (ww hw 25 rfl)) (mvT hZ (ww hw 24 rfl)) (by decide) (backOf (W := 0) (rm4 l Z av0 hw [] b57 (0 : Int32) (2 : Int32) T58.heap n0 SZ58 QF58_1 QF58_2) hZ (ww hw 26 rfl) (ww hw 4 rfl) (by decide) (by decide)) q59a q59c (g := (mkF m 131 #[.val (.int p0), .val (.int p1), .val (.int p2), .val (.int p3), .val (.int p4), .val (.int p5), .val (.int (2 : Int32)), .val (.int (1 : Int32)), .val (.int rr), .val (.int (1 : Int32)), .val (.ref b52), .val (.ref b57), .unset, .unset, .unset, .unset, .unset, .unset] [(.ref b57)])) rfl (by rw [hml]; rfl) (Steps.refl _) (argsL := []) (rest := []) (lenOf pd_3 rfl) rfl (Nat.le_refl _) (dd at_131) (fun _ _ => ⟨rfl, rfl, (by decide : 2 + 0 ≤ _), (by decide : 6 + 0 ≤ _)⟩)
        dsimp only [Pt.U, Pt.locs, Pt.cells, Pt.slots, Q_rm4] at X59 l59 y59 z59 st59 hQ59
        subst l59 y59 z59
        rw [show (fHM b57 (0 : Int32) (2 : Int32)) = (1 : Int32) from (by unfold fHM; rw [if_pos (by decide : (0 : Int32) < (2 : Int32))]; try decide)] at hQ59
        obtain ⟨rfl, N59q, e59⟩ := hQ59
        have N59 := Fr.app N58 N59q
        refine Gz.tr st59 ?_
        refine Gz.iload 136 X59 hx (dd at_134) rfl rfl ?_
        refine Gz.ifNo 139 X59 hx (dd at_136) ((if0 _ _).trans (tlt (by decide : (0 : Int32) < (2 : Int32))).2.2.2) rfl ?_
        refine Gz.iconst 140 (1 : Int32) X59 hx (dd at_139) rfl rfl ?_
        refine Gz.goto 144 X59 hx (dd at_140) (by decide) (by decide) ?_
        refine Gz.icmpNo 147 X59 hx (dd at_144) (teq (by decide : (1 : Int32) = (1 : Int32))).2 rfl ?_
        refine Gz.iconst 148 (1 : Int32) X59 hx (dd at_147) rfl rfl ?_
        refine Gz.goto 152 X59 hx (dd at_148) (by decide) (by decide) ?_
        refine Gz.istore 154 #[.val (.int p0), .val (.int p1), .val (.int p2), .val (.int p3), .val (.int p4), .val (.int p5), .val (.int (2 : Int32)), .val (.int (1 : Int32)), .val (.int rr), .val (.int (1 : Int32)), .val (.ref b52), .val (.ref b57), .val (.int (1 : Int32)), .unset, .unset, .unset, .unset, .unset] X59 hx (dd at_152) rfl rfl ?_
        refine Gz.aload 156 X59 hx (dd at_154) rfl rfl rfl ?_
        refine Gz.astore 158 #[.val (.int p0), .val (.int p1), .val (.int p2), .val (.int p3), .val (.int p4), .val (.int p5), .val (.int (2 : Int32)), .val (.int (1 : Int32)), .val (.int rr), .val (.int (1 : Int32)), .val (.ref b52), .val (.ref b57), .val (.int (1 : Int32)), .val (.ref b57), .unset, .unset, .unset, .unset] X59 hx (dd at_156) rfl rfl rfl ?_
        refine Gz.iload 160 X59 hx (dd at_158) rfl rfl ?_
        refine Gz.istore 162 #[.val (.int p0), .val (.int p1), .val (.int p2), .val (.int p3), .val (.int p4), .val (.int p5), .val (.int (2 : Int32)), .val (.int (1 : Int32)), .val (.int rr), .val (.int (1 : Int32)), .val (.ref b52), .val (.ref b57), .val (.int (1 : Int32)), .val (.ref b57), .val (.int (2 : Int32)), .unset, .unset, .unset] X59 hx (dd at_160) rfl rfl ?_
        refine Gz.iconst 163 (0 : Int32) X59 hx (dd at_162) rfl rfl ?_
        refine Gz.istore 165 #[.val (.int p0), .val (.int p1), .val (.int p2), .val (.int p3), .val (.int p4), .val (.int p5), .val (.int (2 : Int32)), .val (.int (1 : Int32)), .val (.int rr), .val (.int (1 : Int32)), .val (.ref b52), .val (.ref b57), .val (.int (1 : Int32)), .val (.ref b57), .val (.int (2 : Int32)), .val (.int (0 : Int32)), .unset, .unset] X59 hx (dd at_163) rfl rfl ?_
        refine Gz.iload 167 X59 hx (dd at_165) rfl rfl ?_
        refine Gz.ifNo 170 X59 hx (dd at_167) ((if0 _ _).trans (feq (by decide : ¬ ((1 : Int32) = (0 : Int32)))).1) rfl ?_
        refine Gz.iload 172 X59 hx (dd at_170) rfl rfl ?_
        refine Gz.istore 174 #[.val (.int p0), .val (.int p1), .val (.int p2), .val (.int p3), .val (.int p4), .val (.int p5), .val (.int (2 : Int32)), .val (.int (1 : Int32)), .val (.int rr), .val (.int (1 : Int32)), .val (.ref b52), .val (.ref b57), .val (.int (1 : Int32)), .val (.ref b57), .val (.int (2 : Int32)), .val (.int (0 : Int32)), .unset, .val (.int (1 : Int32))] X59 hx (dd at_172) rfl rfl ?_
        refine Gz.aload 176 X59 hx (dd at_174) rfl rfl rfl ?_
        refine Gz.getS 179 X59 hx hZ hown (dd at_176) (host := "") (Or.inl (ww hw 32 rfl)) Via.refl e59 f58_S_st_MESSAGE rfl fun T60 X60 e60 => ?_
        obtain ⟨cq61, kq61, q61a, q61b, q61c⟩ := isOf hZ e60 QE58_0
        obtain ⟨_, _, ⟨T61, L61, k61, n61⟩, -, X61, ⟨Lc61, hQ61, l61, y61, z61⟩, st61⟩ := X60.virtualBack hx (y := ym5) (z := ym5) hown (mvT hZ (ww hw 35 rfl)) (mvT hZ (ww hw 36 rfl)) (notFace_of_selects (args := #[]) (mvT hZ (ww hw 38 rfl))) (mvT hZ (ww hw 38 rfl)) (mvT hZ (ww hw 37 rfl)) (by decide) (backOf (W := 0) (rmM21 l Z av0 hw [] b57 st_MESSAGE b52 k52 ((p2 &&& (127 : Int32)).toInt8.toInt32) T58.heap n0 SZ58 QE58_0 QF58_0 QF58_1 QF58_2 g_b57 f58_Vb52 ne_b52_b57) hZ (ww hw 39 rfl) (ww hw 4 rfl) (by decide) (by decide)) q61a q61c (g := (mkF m 179 #[.val (.int p0), .val (.int p1), .val (.int p2), .val (.int p3), .val (.int p4), .val (.int p5), .val (.int (2 : Int32)), .val (.int (1 : Int32)), .val (.int rr), .val (.int (1 : Int32)), .val (.ref b52), .val (.ref b57), .val (.int (1 : Int32)), .val (.ref b57), .val (.int (2 : Int32)), .val (.int (0 : Int32)), .unset, .val (.int (1 : Int32))] [(.ref st_MESSAGE), (.ref b57)])) rfl (by rw [hml]; rfl) (Steps.refl _) (argsL := [(.ref st_MESSAGE)]) (rest := []) (lenOf pd_5 rfl) rfl (Nat.le_refl _) (dd at_179) (fun _ _ => ⟨rfl, e60, (by decide : 2 + 1 ≤ _), (by decide : 6 + 4 ≤ _)⟩)
        dsimp only [Pt.U, Pt.locs, Pt.cells, Pt.slots, Q_rmM21] at X61 l61 y61 z61 st61 hQ61
        subst l61 y61 z61
        obtain ⟨rd61, rfl, N61q, K61q, QE61, QB61, QP61, QN61, gr61, szr61, RE61, RB61, RP61, RN61⟩ := hQ61
        have N61 := Fr.app N59 N61q
        have ne_b52_rd61 : b52 ≠ rd61 := Nat.ne_of_lt (Nat.lt_of_lt_of_le (f58_Vb52).lt szr61)
        have ne_b57_rd61 : b57 ≠ rd61 := Nat.ne_of_lt (Nat.lt_of_lt_of_le (QF58_3).lt szr61)
        have f61_S_st_MESSAGE := own_staK f58_S_st_MESSAGE K61q (allS (nst_of QE58_0) all0)
        have f61_Eb52 := Exa.keep f58_Eb52 K61q
        have f61_Vb52 := Arv.keep f58_Vb52 K61q (ninS ne_b52_b57 nin0)
        have f61_E_b57 := Exa.keep QE58_0 K61q
        have SZ61 := Nat.le_trans SZ58 K61q.1
        refine Gz.tr st61 ?_
        refine Gz.astore 184 #[.val (.int p0), .val (.int p1), .val (.int p2), .val (.int p3), .val (.int p4), .val (.int p5), .val (.int (2 : Int32)), .val (.int (1 : Int32)), .val (.int rr), .val (.int (1 : Int32)), .val (.ref b52), .val (.ref b57), .val (.int (1 : Int32)), .val (.ref rd61), .val (.int (2 : Int32)), .val (.int (0 : Int32)), .unset, .val (.int (1 : Int32))] X61 hx (dd at_182) rfl rfl rfl ?_
        refine Gz.iload 186 X61 hx (dd at_184) rfl rfl ?_
        refine Gz.ifNo 189 X61 hx (dd at_186) ((if0 _ _).trans (feq (by decide : ¬ ((1 : Int32) = (0 : Int32)))).1) rfl ?_
        refine Gz.aload 191 X61 hx (dd at_189) rfl rfl rfl ?_
        obtain ⟨cq62, kq62, q62a, q62b, q62c⟩ := isOf hZ rfl QE61
        obtain ⟨_, _, ⟨T62, L62, k62, n62⟩, -, X62, ⟨Lc62, hQ62, l62, y62, z62⟩, st62⟩ := X61.virtualBack hx (y := ym3) (z := ym3) hown (mvT hZ (ww hw 22 rfl)) (mvT hZ (ww hw 23 rfl)) (notFace_of_selects (args := #[]) (mvT hZ (ww hw 25 rfl))) (mvT hZ (ww hw 25 rfl)) (mvT hZ (ww hw 24 rfl)) (by decide) (backOf (W := 0) (rm4 l Z av0 hw [] b57 (2 : Int32) (2 : Int32) T61.heap n0 SZ61 QP61 QN61) hZ (ww hw 26 rfl) (ww hw 4 rfl) (by decide) (by decide)) q62a q62c (g := (mkF m 191 #[.val (.int p0), .val (.int p1), .val (.int p2), .val (.int p3), .val (.int p4), .val (.int p5), .val (.int (2 : Int32)), .val (.int (1 : Int32)), .val (.int rr), .val (.int (1 : Int32)), .val (.ref b52), .val (.ref b57), .val (.int (1 : Int32)), .val (.ref rd61), .val (.int (2 : Int32)), .val (.int (0 : Int32)), .unset, .val (.int (1 : Int32))] [(.ref b57)])) rfl (by rw [hml]; rfl) (Steps.refl _) (argsL := []) (rest := []) (lenOf pd_3 rfl) rfl (Nat.le_refl _) (dd at_191) (fun _ _ => ⟨rfl, rfl, (by decide : 3 + 0 ≤ _), (by decide : 10 + 0 ≤ _)⟩)
        dsimp only [Pt.U, Pt.locs, Pt.cells, Pt.slots, Q_rm4] at X62 l62 y62 z62 st62 hQ62
        subst l62 y62 z62
        rw [show (fHM b57 (2 : Int32) (2 : Int32)) = (0 : Int32) from (by unfold fHM; rw [if_neg (by decide : ¬ ((2 : Int32) < (2 : Int32)))]; try decide)] at hQ62
        obtain ⟨rfl, N62q, e62⟩ := hQ62
        have N62 := Fr.app N61 N62q
        refine Gz.tr st62 ?_
        refine Gz.iconst 195 (1 : Int32) X62 hx (dd at_194) rfl rfl ?_
        refine Gz.iload 197 X62 hx (dd at_195) rfl rfl ?_
        refine Gz.iaddV 198 (2 : Int32) X62 hx (dd at_197) rfl rfl ?_
        refine Gz.iload 200 X62 hx (dd at_198) rfl rfl ?_
        refine Gz.icmpYes 207 X62 hx (dd at_200) (flt (by decide : ¬ ((2 : Int32) < (2 : Int32)))).2.1 (by decide) (by decide) ?_
        refine Gz.iconst 208 (0 : Int32) X62 hx (dd at_207) rfl rfl ?_
        refine Gz.icmpNo 211 X62 hx (dd at_208) (teq (by decide : (0 : Int32) = (0 : Int32))).2 rfl ?_
        refine Gz.iconst 212 (1 : Int32) X62 hx (dd at_211) rfl rfl ?_
        refine Gz.goto 216 X62 hx (dd at_212) (by decide) (by decide) ?_
        refine Gz.istore 218 #[.val (.int p0), .val (.int p1), .val (.int p2), .val (.int p3), .val (.int p4), .val (.int p5), .val (.int (2 : Int32)), .val (.int (1 : Int32)), .val (.int rr), .val (.int (1 : Int32)), .val (.ref b52), .val (.ref b57), .val (.int (1 : Int32)), .val (.ref rd61), .val (.int (2 : Int32)), .val (.int (0 : Int32)), .unset, .val (.int (1 : Int32))] X62 hx (dd at_216) rfl rfl ?_
        refine Gz.iload 220 X62 hx (dd at_218) rfl rfl ?_
        refine Gz.istore 222 #[.val (.int p0), .val (.int p1), .val (.int p2), .val (.int p3), .val (.int p4), .val (.int p5), .val (.int (2 : Int32)), .val (.int (1 : Int32)), .val (.int rr), .val (.int (1 : Int32)), .val (.ref b52), .val (.ref b57), .val (.int (1 : Int32)), .val (.ref rd61), .val (.int (1 : Int32)), .val (.int (0 : Int32)), .unset, .val (.int (1 : Int32))] X62 hx (dd at_220) rfl rfl ?_
        refine Gz.iconst 223 (1 : Int32) X62 hx (dd at_222) rfl rfl ?_
        refine Gz.istore 225 #[.val (.int p0), .val (.int p1), .val (.int p2), .val (.int p3), .val (.int p4), .val (.int p5), .val (.int (2 : Int32)), .val (.int (1 : Int32)), .val (.int rr), .val (.int (1 : Int32)), .val (.ref b52), .val (.ref b57), .val (.int (1 : Int32)), .val (.ref rd61), .val (.int (1 : Int32)), .val (.int (0 : Int32)), .val (.int (1 : Int32)), .val (.int (1 : Int32))] X62 hx (dd at_223) rfl rfl ?_
        refine Gz.goto 240 X62 hx (dd at_225) (by decide) (by decide) ?_
        exact sg_2_1_1 (.val (.int p0)) (.val (.int p1)) (.val (.int p2)) (.val (.int p3)) (.val (.int p4)) (.val (.int p5)) (.val (.int (2 : Int32))) (.val (.int (1 : Int32))) rr (.val (.int (1 : Int32))) (.val (.ref b52)) (.val (.ref b57)) rd61 (.val (.int (1 : Int32))) b52 k52 ((p2 &&& (127 : Int32)).toInt8.toInt32) n0 X62 hx hZ hw hby hml hown hret hlk e62 N62 SZ61 RE61 RB61 RP61 RN61 gr61 f61_Vb52 ne_b52_rd61 ((own_7 _) : ¬ (((p2 &&& (127 : Int32)).toInt8.toInt32) < (0 : Int32)))
  · rw [hs1]
    refine Gz.istore 8 #[.val (.int p0), .val (.int p1), .val (.int p2), .val (.int p3), .val (.int p4), .val (.int p5), .val (.int (3 : Int32)), .unset, .unset, .unset, .unset, .unset, .unset, .unset, .unset, .unset, .unset, .unset] X0 hx (dd at_6) rfl rfl ?_
    refine Gz.iload 10 X0 hx (dd at_8) rfl rfl ?_
    refine Gz.iconst 11 (2 : Int32) X0 hx (dd at_10) rfl rfl ?_
    refine Gz.iushr 12 X0 hx (dd at_11) rfl ?_
    refine Gz.iconst 13 (1 : Int32) X0 hx (dd at_12) rfl rfl ?_
    refine Gz.iand 14 X0 hx (dd at_13) rfl ?_
    by_cases hc63 : (((p5.toUInt32 >>> ((2 : Int32) &&& 31).toUInt32).toInt32) &&& (1 : Int32)) = (0 : Int32)
    · refine Gz.ifYes 26 X0 hx (dd at_14) ((if0 _ _).trans (teq hc63).1) (by decide) (by decide) ?_
      refine Gz.iconst 27 (0 : Int32) X0 hx (dd at_26) rfl rfl ?_
      refine Gz.istore 29 #[.val (.int p0), .val (.int p1), .val (.int p2), .val (.int p3), .val (.int p4), .val (.int p5), .val (.int (3 : Int32)), .val (.int (0 : Int32)), .unset, .unset, .unset, .unset, .unset, .unset, .unset, .unset, .unset, .unset] X0 hx (dd at_27) rfl rfl ?_
      refine Gz.iload 31 X0 hx (dd at_29) rfl rfl ?_
      refine Gz.iconst 32 (3 : Int32) X0 hx (dd at_31) rfl rfl ?_
      refine Gz.iand 33 X0 hx (dd at_32) rfl ?_
      show Gz p e below s _ _ _ (s₁.setTop (mkF m 33 #[.val (.int p0), .val (.int p1), .val (.int p2), .val (.int p3), .val (.int p4), .val (.int p5), .val (.int (3 : Int32)), .val (.int (0 : Int32)), .unset, .unset, .unset, .unset, .unset, .unset, .unset, .unset, .unset, .unset] [(.int (p5 &&& (3 : Int32)))]))
      obtain ⟨rr, q_rr⟩ : ∃ z, (p5 &&& (3 : Int32)) = z := ⟨_, rfl⟩
      rw [q_rr]
      show Gz p e below s _ _ _ (s₁.setTop (mkF m 33 #[.val (.int p0), .val (.int p1), .val (.int p2), .val (.int p3), .val (.int p4), .val (.int p5), .val (.int (3 : Int32)), .val (.int (0 : Int32)), .unset, .unset, .unset, .unset, .unset, .unset, .unset, .unset, .unset, .unset] [(.int rr)]))
      refine Gz.istore 35 #[.val (.int p0), .val (.int p1), .val (.int p2), .val (.int p3), .val (.int p4), .val (.int p5), .val (.int (3 : Int32)), .val (.int (0 : Int32)), .val (.int rr), .unset, .unset, .unset, .unset, .unset, .unset, .unset, .unset, .unset] X0 hx (dd at_33) rfl rfl ?_
      refine Gz.iload 37 X0 hx (dd at_35) rfl rfl ?_
      refine Gz.ifYes 51 X0 hx (dd at_37) ((if0 _ _).trans (teq (by decide : (0 : Int32) = (0 : Int32))).1) (by decide) (by decide) ?_
      refine Gz.iloadN 52 X0 hx (dd at_51) rfl rfl ?_
      refine Gz.i2b 53 X0 hx (dd at_52) rfl ?_
      refine Gz.istore 55 #[.val (.int p0), .val (.int p1), .val (.int p2), .val (.int p3), .val (.int p4), .val (.int p5), .val (.int (3 : Int32)), .val (.int (0 : Int32)), .val (.int rr), .val (.int (p1.toInt8.toInt32)), .unset, .unset, .unset, .unset, .unset, .unset, .unset, .unset] X0 hx (dd at_53) rfl rfl ?_
      refine Gz.iload 57 X0 hx (dd at_55) rfl rfl ?_
      obtain ⟨T64, h64, k64, X64, e64, E64, A64, Q64, st64⟩ := newPE X0 hx hZ (ww hw 1 rfl) e0 (g := (mkF m 57 #[.val (.int p0), .val (.int p1), .val (.int p2), .val (.int p3), .val (.int p4), .val (.int p5), .val (.int (3 : Int32)), .val (.int (0 : Int32)), .val (.int rr), .val (.int (p1.toInt8.toInt32)), .unset, .unset, .unset, .unset, .unset, .unset, .unset, .unset] [(.int (3 : Int32))])) rfl (dd at_57) rfl (by decide) (cap := 3) (by decide) (by decide) (by decide) (by decide) (ad := "[B") rfl
      obtain ⟨b64, g64⟩ : ∃ z, z = h0.size := ⟨_, rfl⟩
      rw [← g64] at A64 Q64 st64
      have g_b64 : n0 ≤ b64 := Nat.le_trans Z0 (Nat.le_of_eq g64.symm)
      have SZ64 : n0 ≤ h64.size := Nat.le_trans Z0 E64.1
      have f64_S_st_MESSAGE := Sta.ext E64 S_st_MESSAGE
      have V64 : Arv Z h64 b64 k64 .byte (3 : Int32) [(.int (0 : Int32)), (.int (0 : Int32)), (.int (0 : Int32))] (.int (0 : Int32)) := (Arv.new A64 (by decide)).pad (pad_rep [] (.int (0 : Int32)) 3)
      refine Gz.st st64 ?_
      refine Gz.astore 61 #[.val (.int p0), .val (.int p1), .val (.int p2), .val (.int p3), .val (.int p4), .val (.int p5), .val (.int (3 : Int32)), .val (.int (0 : Int32)), .val (.int rr), .val (.int (p1.toInt8.toInt32)), .val (.ref b64), .unset, .unset, .unset, .unset, .unset, .unset, .unset] X64 hx (dd at_59) rfl rfl rfl ?_
      refine Gz.iload 63 X64 hx (dd at_61) rfl rfl ?_
      refine Gz.ifNo 66 X64 hx (dd at_63) ((if0 _ _).trans (tlt (by decide : (0 : Int32) < (3 : Int32))).2.2.2) rfl ?_
      refine Gz.aload 68 X64 hx (dd at_66) rfl rfl rfl ?_
      refine Gz.iconst 69 (0 : Int32) X64 hx (dd at_68) rfl rfl ?_
      refine Gz.iload 71 X64 hx (dd at_69) rfl rfl ?_
      obtain ⟨c65, A65, q65, S65, N65, H65, G65⟩ := id V64
      have hin65 : ¬ ((0 : Int32) < 0 ∨ c65.slots.size ≤ ((0 : Int32)).toNatClampNeg) := inb_of S65 ⟨by decide, by decide⟩
      refine Gz.stB 72 X64 hx hZ (dd at_71) e64 A65 hin65 rfl fun T66 h66 X66 e66 W66 => ?_
      rw [own_nb] at W66
      have V66 := Arv.set A65 q65 S65 N65 H65 G65 (fits_nar_byte _) W66 0 rfl (Nat.le_of_ble_eq_true rfl)
      replace V66 : Arv Z h66 b64 k64 .byte (3 : Int32) [(.int (p1.toInt8.toInt32)), (.int (0 : Int32)), (.int (0 : Int32))] (.int (0 : Int32)) := V66
      have f66_S_st_MESSAGE := Sta.wr W66 f64_S_st_MESSAGE
      have f66_Eb64 := Exa.wr W66 Q64
      have N66 := Fr.snoc X66 N0 g_b64
      have SZ66 : n0 ≤ h66.size := Nat.le_trans SZ64 (Keep.of_wr W66).1
      refine Gz.iload 74 X66 hx (dd at_72) rfl rfl ?_
      refine Gz.iconst 75 (1 : Int32) X66 hx (dd at_74) rfl rfl ?_
      refine Gz.icmpNo 78 X66 hx (dd at_75) (tlt (by decide : (1 : Int32) < (3 : Int32))).2.2.2 rfl ?_
      refine Gz.aload 80 X66 hx (dd at_78) rfl rfl rfl ?_
      refine Gz.iconst 81 (1 : Int32) X66 hx (dd at_80) rfl rfl ?_
      refine Gz.iloadN 82 X66 hx (dd at_81) rfl rfl ?_
      refine Gz.bipush 84 (127 : Int32) X66 hx (dd at_82) rfl rfl ?_
      refine Gz.iand 85 X66 hx (dd at_84) rfl ?_
      refine Gz.i2b 86 X66 hx (dd at_85) rfl ?_
      obtain ⟨c67, A67, q67, S67, N67, H67, G67⟩ := id V66
      have hin67 : ¬ ((1 : Int32) < 0 ∨ c67.slots.size ≤ ((1 : Int32)).toNatClampNeg) := inb_of S67 ⟨by decide, by decide⟩
      refine Gz.stB 87 X66 hx hZ (dd at_86) e66 A67 hin67 rfl fun T68 h68 X68 e68 W68 => ?_
      rw [own_nb] at W68
      have V68 := Arv.set A67 q67 S67 N67 H67 G67 (fits_nar_byte _) W68 1 rfl (Nat.le_of_ble_eq_true rfl)
      replace V68 : Arv Z h68 b64 k64 .byte (3 : Int32) [(.int (p1.toInt8.toInt32)), (.int ((p2 &&& (127 : Int32)).toInt8.toInt32)), (.int (0 : Int32))] (.int (0 : Int32)) := V68
      have f68_S_st_MESSAGE := Sta.wr W68 f66_S_st_MESSAGE
      have f68_Eb64 := Exa.wr W68 f66_Eb64
      have N68 := Fr.snoc X68 N66 g_b64
      have SZ68 : n0 ≤ h68.size := Nat.le_trans SZ66 (Keep.of_wr W68).1
      refine Gz.iload 89 X68 hx (dd at_87) rfl rfl ?_
      refine Gz.iconst 90 (2 : Int32) X68 hx (dd at_89) rfl rfl ?_
      refine Gz.icmpNo 93 X68 hx (dd at_90) (tlt (by decide : (2 : Int32) < (3 : Int32))).2.2.2 rfl ?_
      refine Gz.aload 95 X68 hx (dd at_93) rfl rfl rfl ?_
      refine Gz.iconst 96 (2 : Int32) X68 hx (dd at_95) rfl rfl ?_
      refine Gz.iloadN 97 X68 hx (dd at_96) rfl rfl ?_
      refine Gz.bipush 99 (127 : Int32) X68 hx (dd at_97) rfl rfl ?_
      refine Gz.iand 100 X68 hx (dd at_99) rfl ?_
      refine Gz.i2b 101 X68 hx (dd at_100) rfl ?_
      obtain ⟨c69, A69, q69, S69, N69, H69, G69⟩ := id V68
      have hin69 : ¬ ((2 : Int32) < 0 ∨ c69.slots.size ≤ ((2 : Int32)).toNatClampNeg) := inb_of S69 ⟨by decide, by decide⟩
      refine Gz.stB 102 X68 hx hZ (dd at_101) e68 A69 hin69 rfl fun T70 h70 X70 e70 W70 => ?_
      rw [own_nb] at W70
      have V70 := Arv.set A69 q69 S69 N69 H69 G69 (fits_nar_byte _) W70 2 rfl (Nat.le_of_ble_eq_true rfl)
      replace V70 : Arv Z h70 b64 k64 .byte (3 : Int32) [(.int (p1.toInt8.toInt32)), (.int ((p2 &&& (127 : Int32)).toInt8.toInt32)), (.int ((p3 &&& (127 : Int32)).toInt8.toInt32))] (.int (0 : Int32)) := V70
      have f70_S_st_MESSAGE := Sta.wr W70 f68_S_st_MESSAGE
      have f70_Eb64 := Exa.wr W70 f68_Eb64
      have N70 := Fr.snoc X70 N68 g_b64
      have SZ70 : n0 ≤ h70.size := Nat.le_trans SZ68 (Keep.of_wr W70).1
      refine Gz.iload 104 X70 hx (dd at_102) rfl rfl ?_
      refine Gz.iconst 105 (3 : Int32) X70 hx (dd at_104) rfl rfl ?_
      refine Gz.icmpYes 118 X70 hx (dd at_105) (flt (by decide : ¬ ((3 : Int32) < (3 : Int32)))).2.2.2 (by decide) (by decide) ?_
      obtain ⟨T71, h71, X71, e71, E71, A71, D71, -, st71⟩ := newO X70 hx hZ hown (ww hw 2 rfl) (ww hw 3 rfl) (ww hw 4 rfl) e70 (g := (mkF m 118 #[.val (.int p0), .val (.int p1), .val (.int p2), .val (.int p3), .val (.int p4), .val (.int p5), .val (.int (3 : Int32)), .val (.int (0 : Int32)), .val (.int rr), .val (.int (p1.toInt8.toInt32)), .val (.ref b64), .unset, .unset, .unset, .unset, .unset, .unset, .unset] [])) rfl (dd at_118) (by decide) (by decide)
      obtain ⟨b71, g71⟩ : ∃ z, z = h70.size := ⟨_, rfl⟩
      rw [← g71] at A71 D71 st71
      have ne_b64_b71 : b64 ≠ b71 := Nat.ne_of_lt (Nat.lt_of_lt_of_le (f70_Eb64).lt (Nat.le_of_eq g71.symm))
      have g_b71 : n0 ≤ b71 := Nat.le_trans SZ70 (Nat.le_of_eq g71.symm)
      have SZ71 : n0 ≤ h71.size := Nat.le_trans SZ70 E71.1
      have f71_S_st_MESSAGE := Sta.ext E71 f70_S_st_MESSAGE
      have f71_Eb64 := Exa.ext E71 f70_Eb64
      have f71_Vb64 := Arv.ext V70 E71
      have F_bytes_b71 : Fld Z h71 b71 "com/example/bad_status/badstatus/model/ProtoReader" "bytes" "[B" .null := D71 (Or.inr (ww hw 15 rfl)) (ty := (.array .byte)) (by decide)
      have F_position_b71 : Fld Z h71 b71 "com/example/bad_status/badstatus/model/ProtoReader" "position" "I" (.int (0 : Int32)) := D71 (Or.inl (ww hw 17 rfl)) (ty := .int) (by decide)
      have F_end_b71 : Fld Z h71 b71 "com/example/bad_status/badstatus/model/ProtoReader" "end" "I" (.int (0 : Int32)) := D71 (Or.inr (ww hw 19 rfl)) (ty := .int) (by decide)
      have F_place_b71 : Fld Z h71 b71 "com/example/bad_status/badstatus/model/ProtoReader" "place" "Lcom/example/bad_status/badstatus/model/Place;" .null := D71 (Or.inr (ww hw 21 rfl)) (ty := (.object "com/example/bad_status/badstatus/model/Place")) (by decide)
      refine Gz.st st71 ?_
      refine Gz.dup 122 X71 hx (dd at_121) rfl rfl ?_
      refine Gz.aload 124 X71 hx (dd at_122) rfl rfl rfl ?_
      obtain ⟨_, _, ⟨T72, L72, k72, n72⟩, -, X72, ⟨Lc72, hQ72, l72, y72, z72⟩, st72⟩ := X71.specialBack hx (y := ym4) rfl hown (mvT hZ (ww hw 5 rfl)) (mvT hZ (ww hw 6 rfl)) (mvT hZ (ww hw 7 rfl)) (by decide) (backOf (W := 1) (rmI1_3 l Z av0 hw [] b71 b64 k64 (p1.toInt8.toInt32) ((p2 &&& (127 : Int32)).toInt8.toInt32) ((p3 &&& (127 : Int32)).toInt8.toInt32) h71 n0 SZ71 A71 F_bytes_b71 F_position_b71 F_end_b71 F_place_b71 g_b71 f71_Vb64 ne_b64_b71) hZ (ww hw 7 rfl) (ww hw 4 rfl) (by decide) (by decide)) (g := (mkF m 124 #[.val (.int p0), .val (.int p1), .val (.int p2), .val (.int p3), .val (.int p4), .val (.int p5), .val (.int (3 : Int32)), .val (.int (0 : Int32)), .val (.int rr), .val (.int (p1.toInt8.toInt32)), .val (.ref b64), .unset, .unset, .unset, .unset, .unset, .unset, .unset] [(.ref b64), (.ref b71), (.ref b71)])) rfl (by rw [hml]; rfl) (Steps.refl _) (a := b71) (argsL := [(.ref b64)]) (rest := [(.ref b71)]) (lenOf pd_4 rfl) rfl (Nat.le_refl _) (dd at_124) (fun _ _ => ⟨rfl, e71, (by decide : 2 + 0 ≤ _), (by decide : 7 + 0 ≤ _)⟩)
      dsimp only [Pt.U, Pt.locs, Pt.cells, Pt.slots, Q_rmI1_3] at X72 l72 y72 z72 st72 hQ72
      subst l72 y72 z72
      obtain ⟨rfl, N72q, K72q, QE72_0, QF72_0, QF72_1, QF72_2, QF72_3⟩ := hQ72
      have N72 := Fr.app N70 N72q
      have f72_S_st_MESSAGE := own_staK f71_S_st_MESSAGE K72q (allS (nst_of A71) all0)
      have f72_Eb64 := Exa.keep f71_Eb64 K72q
      have f72_Vb64 := Arv.keep f71_Vb64 K72q (ninS ne_b64_b71 nin0)
      have f72_Eb71 := Exa.keep A71 K72q
      have SZ72 := Nat.le_trans SZ71 K72q.1
      refine Gz.tr st72 ?_
      refine Gz.astore 129 #[.val (.int p0), .val (.int p1), .val (.int p2), .val (.int p3), .val (.int p4), .val (.int p5), .val (.int (3 : Int32)), .val (.int (0 : Int32)), .val (.int rr), .val (.int (p1.toInt8.toInt32)), .val (.ref b64), .val (.ref b71), .unset, .unset, .unset, .unset, .unset, .unset] X72 hx (dd at_127) rfl rfl rfl ?_
      refine Gz.aload 131 X72 hx (dd at_129) rfl rfl rfl ?_
      obtain ⟨cq73, kq73, q73a, q73b, q73c⟩ := isOf hZ rfl QE72_0
      obtain ⟨_, _, ⟨T73, L73, k73, n73⟩, -, X73, ⟨Lc73, hQ73, l73, y73, z73⟩, st73⟩ := X72.virtualBack hx (y := ym3) (z := ym3) hown (mvT hZ (ww hw 22 rfl)) (mvT hZ (ww hw 23 rfl)) (notFace_of_selects (args := #[]) (mvT hZ (ww hw 25 rfl))) (mvT hZ (ww hw 25 rfl)) (mvT hZ (ww hw 24 rfl)) (by decide) (backOf (W := 0) (rm4 l Z av0 hw [] b71 (0 : Int32) (3 : Int32) T72.heap n0 SZ72 QF72_1 QF72_2) hZ (ww hw 26 rfl) (ww hw 4 rfl) (by decide) (by decide)) q73a q73c (g := (mkF m 131 #[.val (.int p0), .val (.int p1), .val (.int p2), .val (.int p3), .val (.int p4), .val (.int p5), .val (.int (3 : Int32)), .val (.int (0 : Int32)), .val (.int rr), .val (.int (p1.toInt8.toInt32)), .val (.ref b64), .val (.ref b71), .unset, .unset, .unset, .unset, .unset, .unset] [(.ref b71)])) rfl (by rw [hml]; rfl) (Steps.refl _) (argsL := []) (rest := []) (lenOf pd_3 rfl) rfl (Nat.le_refl _) (dd at_131) (fun _ _ => ⟨rfl, rfl, (by decide : 2 + 0 ≤ _), (by decide : 7 + 0 ≤ _)⟩)
      dsimp only [Pt.U, Pt.locs, Pt.cells, Pt.slots, Q_rm4] at X73 l73 y73 z73 st73 hQ73
      subst l73 y73 z73
      rw [show (fHM b71 (0 : Int32) (3 : Int32)) = (1 : Int32) from (by unfold fHM; rw [if_pos (by decide : (0 : Int32) < (3 : Int32))]; try decide)] at hQ73
      obtain ⟨rfl, N73q, e73⟩ := hQ73
      have N73 := Fr.app N72 N73q
      refine Gz.tr st73 ?_
      refine Gz.iload 136 X73 hx (dd at_134) rfl rfl ?_
      refine Gz.ifNo 139 X73 hx (dd at_136) ((if0 _ _).trans (tlt (by decide : (0 : Int32) < (3 : Int32))).2.2.2) rfl ?_
      refine Gz.iconst 140 (1 : Int32) X73 hx (dd at_139) rfl rfl ?_
      refine Gz.goto 144 X73 hx (dd at_140) (by decide) (by decide) ?_
      refine Gz.icmpNo 147 X73 hx (dd at_144) (teq (by decide : (1 : Int32) = (1 : Int32))).2 rfl ?_
      refine Gz.iconst 148 (1 : Int32) X73 hx (dd at_147) rfl rfl ?_
      refine Gz.goto 152 X73 hx (dd at_148) (by decide) (by decide) ?_
      refine Gz.istore 154 #[.val (.int p0), .val (.int p1), .val (.int p2), .val (.int p3), .val (.int p4), .val (.int p5), .val (.int (3 : Int32)), .val (.int (0 : Int32)), .val (.int rr), .val (.int (p1.toInt8.toInt32)), .val (.ref b64), .val (.ref b71), .val (.int (1 : Int32)), .unset, .unset, .unset, .unset, .unset] X73 hx (dd at_152) rfl rfl ?_
      refine Gz.aload 156 X73 hx (dd at_154) rfl rfl rfl ?_
      refine Gz.astore 158 #[.val (.int p0), .val (.int p1), .val (.int p2), .val (.int p3), .val (.int p4), .val (.int p5), .val (.int (3 : Int32)), .val (.int (0 : Int32)), .val (.int rr), .val (.int (p1.toInt8.toInt32)), .val (.ref b64), .val (.ref b71), .val (.int (1 : Int32)), .val (.ref b71), .unset, .unset, .unset, .unset] X73 hx (dd at_156) rfl rfl rfl ?_
      refine Gz.iload 160 X73 hx (dd at_158) rfl rfl ?_
      refine Gz.istore 162 #[.val (.int p0), .val (.int p1), .val (.int p2), .val (.int p3), .val (.int p4), .val (.int p5), .val (.int (3 : Int32)), .val (.int (0 : Int32)), .val (.int rr), .val (.int (p1.toInt8.toInt32)), .val (.ref b64), .val (.ref b71), .val (.int (1 : Int32)), .val (.ref b71), .val (.int (3 : Int32)), .unset, .unset, .unset] X73 hx (dd at_160) rfl rfl ?_
      refine Gz.iconst 163 (0 : Int32) X73 hx (dd at_162) rfl rfl ?_
      refine Gz.istore 165 #[.val (.int p0), .val (.int p1), .val (.int p2), .val (.int p3), .val (.int p4), .val (.int p5), .val (.int (3 : Int32)), .val (.int (0 : Int32)), .val (.int rr), .val (.int (p1.toInt8.toInt32)), .val (.ref b64), .val (.ref b71), .val (.int (1 : Int32)), .val (.ref b71), .val (.int (3 : Int32)), .val (.int (0 : Int32)), .unset, .unset] X73 hx (dd at_163) rfl rfl ?_
      refine Gz.iload 167 X73 hx (dd at_165) rfl rfl ?_
      refine Gz.ifYes 228 X73 hx (dd at_167) ((if0 _ _).trans (teq (by decide : (0 : Int32) = (0 : Int32))).1) (by decide) (by decide) ?_
      refine Gz.iload 230 X73 hx (dd at_228) rfl rfl ?_
      by_cases hc74 : (p1.toInt8.toInt32) < (0 : Int32)
      · refine Gz.ifYes 237 X73 hx (dd at_230) ((if0 _ _).trans (tlt hc74).1) (by decide) (by decide) ?_
        refine Gz.iconst 238 (2 : Int32) X73 hx (dd at_237) rfl rfl ?_
        refine Gz.istore 240 #[.val (.int p0), .val (.int p1), .val (.int p2), .val (.int p3), .val (.int p4), .val (.int p5), .val (.int (3 : Int32)), .val (.int (0 : Int32)), .val (.int rr), .val (.int (p1.toInt8.toInt32)), .val (.ref b64), .val (.ref b71), .val (.int (1 : Int32)), .val (.ref b71), .val (.int (3 : Int32)), .val (.int (0 : Int32)), .val (.int (2 : Int32)), .unset] X73 hx (dd at_238) rfl rfl ?_
        exact sg_3_x_2 (.val (.int p0)) (.val (.int p1)) (.val (.int p2)) (.val (.int p3)) (.val (.int p4)) (.val (.int p5)) (.val (.int (3 : Int32))) (.val (.int (0 : Int32))) rr (.val (.int (p1.toInt8.toInt32))) (.val (.ref b64)) (.val (.ref b71)) b71 (.unset) b64 k64 (p1.toInt8.toInt32) ((p2 &&& (127 : Int32)).toInt8.toInt32) ((p3 &&& (127 : Int32)).toInt8.toInt32) n0 X73 hx hZ hw hby hml hown hret hlk e73 N73 SZ72 QE72_0 QF72_0 QF72_1 QF72_2 g_b71 f72_Vb64 ne_b64_b71 ((own_7 _) : ¬ (((p2 &&& (127 : Int32)).toInt8.toInt32) < (0 : Int32))) ((own_7 _) : ¬ (((p3 &&& (127 : Int32)).toInt8.toInt32) < (0 : Int32))) hc74
      · refine Gz.ifNo 233 X73 hx (dd at_230) ((if0 _ _).trans (flt hc74).1) rfl ?_
        refine Gz.iconst 234 (1 : Int32) X73 hx (dd at_233) rfl rfl ?_
        refine Gz.goto 238 X73 hx (dd at_234) (by decide) (by decide) ?_
        refine Gz.istore 240 #[.val (.int p0), .val (.int p1), .val (.int p2), .val (.int p3), .val (.int p4), .val (.int p5), .val (.int (3 : Int32)), .val (.int (0 : Int32)), .val (.int rr), .val (.int (p1.toInt8.toInt32)), .val (.ref b64), .val (.ref b71), .val (.int (1 : Int32)), .val (.ref b71), .val (.int (3 : Int32)), .val (.int (0 : Int32)), .val (.int (1 : Int32)), .unset] X73 hx (dd at_238) rfl rfl ?_
        exact sg_3_x_1 (.val (.int p0)) (.val (.int p1)) (.val (.int p2)) (.val (.int p3)) (.val (.int p4)) (.val (.int p5)) (.val (.int (3 : Int32))) (.val (.int (0 : Int32))) rr (.val (.int (p1.toInt8.toInt32))) (.val (.ref b64)) (.val (.ref b71)) b71 (.unset) b64 k64 (p1.toInt8.toInt32) ((p2 &&& (127 : Int32)).toInt8.toInt32) ((p3 &&& (127 : Int32)).toInt8.toInt32) n0 X73 hx hZ hw hby hml hown hret hlk e73 N73 SZ72 QE72_0 QF72_0 QF72_1 QF72_2 g_b71 f72_Vb64 ne_b64_b71 ((own_7 _) : ¬ (((p2 &&& (127 : Int32)).toInt8.toInt32) < (0 : Int32))) ((own_7 _) : ¬ (((p3 &&& (127 : Int32)).toInt8.toInt32) < (0 : Int32))) hc74
    · refine Gz.ifNo 17 X0 hx (dd at_14) ((if0 _ _).trans (feq hc63).1) rfl ?_
      refine Gz.iload 19 X0 hx (dd at_17) rfl rfl ?_
      refine Gz.ifNo 22 X0 hx (dd at_19) ((if0 _ _).trans (tlt (by decide : (0 : Int32) < (3 : Int32))).2.2.2) rfl ?_
      refine Gz.iconst 23 (1 : Int32) X0 hx (dd at_22) rfl rfl ?_
      refine Gz.goto 27 X0 hx (dd at_23) (by decide) (by decide) ?_
      refine Gz.istore 29 #[.val (.int p0), .val (.int p1), .val (.int p2), .val (.int p3), .val (.int p4), .val (.int p5), .val (.int (3 : Int32)), .val (.int (1 : Int32)), .unset, .unset, .unset, .unset, .unset, .unset, .unset, .unset, .unset, .unset] X0 hx (dd at_27) rfl rfl ?_
      refine Gz.iload 31 X0 hx (dd at_29) rfl rfl ?_
      refine Gz.iconst 32 (3 : Int32) X0 hx (dd at_31) rfl rfl ?_
      refine Gz.iand 33 X0 hx (dd at_32) rfl ?_
      show Gz p e below s _ _ _ (s₁.setTop (mkF m 33 #[.val (.int p0), .val (.int p1), .val (.int p2), .val (.int p3), .val (.int p4), .val (.int p5), .val (.int (3 : Int32)), .val (.int (1 : Int32)), .unset, .unset, .unset, .unset, .unset, .unset, .unset, .unset, .unset, .unset] [(.int (p5 &&& (3 : Int32)))]))
      obtain ⟨rr, q_rr⟩ : ∃ z, (p5 &&& (3 : Int32)) = z := ⟨_, rfl⟩
      rw [q_rr]
      show Gz p e below s _ _ _ (s₁.setTop (mkF m 33 #[.val (.int p0), .val (.int p1), .val (.int p2), .val (.int p3), .val (.int p4), .val (.int p5), .val (.int (3 : Int32)), .val (.int (1 : Int32)), .unset, .unset, .unset, .unset, .unset, .unset, .unset, .unset, .unset, .unset] [(.int rr)]))
      refine Gz.istore 35 #[.val (.int p0), .val (.int p1), .val (.int p2), .val (.int p3), .val (.int p4), .val (.int p5), .val (.int (3 : Int32)), .val (.int (1 : Int32)), .val (.int rr), .unset, .unset, .unset, .unset, .unset, .unset, .unset, .unset, .unset] X0 hx (dd at_33) rfl rfl ?_
      refine Gz.iload 37 X0 hx (dd at_35) rfl rfl ?_
      refine Gz.ifNo 40 X0 hx (dd at_37) ((if0 _ _).trans (feq (by decide : ¬ ((1 : Int32) = (0 : Int32)))).1) rfl ?_
      refine Gz.iloadN 41 X0 hx (dd at_40) rfl rfl ?_
      refine Gz.ldcI 43 X0 hx (dd at_41) hown (mvT hZ (ww hw 0 rfl)) rfl ?_
      refine Gz.iand 44 X0 hx (dd at_43) rfl ?_
      refine Gz.iload 46 X0 hx (dd at_44) rfl rfl ?_
      refine Gz.irem 47 X0 hx (dd at_46) (by decide) rfl ?_
      show Gz p e below s _ _ _ (s₁.setTop (mkF m 47 #[.val (.int p0), .val (.int p1), .val (.int p2), .val (.int p3), .val (.int p4), .val (.int p5), .val (.int (3 : Int32)), .val (.int (1 : Int32)), .val (.int rr), .unset, .unset, .unset, .unset, .unset, .unset, .unset, .unset, .unset] [(.int ((p1 &&& (2147483647 : Int32)) % (3 : Int32)))]))
      rcases own_r3 p1 with hs75 | hs75 | hs75
      · rw [hs75]
        refine Gz.i2bV 48 (0 : Int32) X0 hx (dd at_47) rfl rfl ?_
        refine Gz.goto 53 X0 hx (dd at_48) (by decide) (by decide) ?_
        refine Gz.istore 55 #[.val (.int p0), .val (.int p1), .val (.int p2), .val (.int p3), .val (.int p4), .val (.int p5), .val (.int (3 : Int32)), .val (.int (1 : Int32)), .val (.int rr), .val (.int (0 : Int32)), .unset, .unset, .unset, .unset, .unset, .unset, .unset, .unset] X0 hx (dd at_53) rfl rfl ?_
        refine Gz.iload 57 X0 hx (dd at_55) rfl rfl ?_
        obtain ⟨T76, h76, k76, X76, e76, E76, A76, Q76, st76⟩ := newPE X0 hx hZ (ww hw 1 rfl) e0 (g := (mkF m 57 #[.val (.int p0), .val (.int p1), .val (.int p2), .val (.int p3), .val (.int p4), .val (.int p5), .val (.int (3 : Int32)), .val (.int (1 : Int32)), .val (.int rr), .val (.int (0 : Int32)), .unset, .unset, .unset, .unset, .unset, .unset, .unset, .unset] [(.int (3 : Int32))])) rfl (dd at_57) rfl (by decide) (cap := 3) (by decide) (by decide) (by decide) (by decide) (ad := "[B") rfl
        obtain ⟨b76, g76⟩ : ∃ z, z = h0.size := ⟨_, rfl⟩
        rw [← g76] at A76 Q76 st76
        have g_b76 : n0 ≤ b76 := Nat.le_trans Z0 (Nat.le_of_eq g76.symm)
        have SZ76 : n0 ≤ h76.size := Nat.le_trans Z0 E76.1
        have f76_S_st_MESSAGE := Sta.ext E76 S_st_MESSAGE
        have V76 : Arv Z h76 b76 k76 .byte (3 : Int32) [(.int (0 : Int32)), (.int (0 : Int32)), (.int (0 : Int32))] (.int (0 : Int32)) := (Arv.new A76 (by decide)).pad (pad_rep [] (.int (0 : Int32)) 3)
        refine Gz.st st76 ?_
        refine Gz.astore 61 #[.val (.int p0), .val (.int p1), .val (.int p2), .val (.int p3), .val (.int p4), .val (.int p5), .val (.int (3 : Int32)), .val (.int (1 : Int32)), .val (.int rr), .val (.int (0 : Int32)), .val (.ref b76), .unset, .unset, .unset, .unset, .unset, .unset, .unset] X76 hx (dd at_59) rfl rfl rfl ?_
        refine Gz.iload 63 X76 hx (dd at_61) rfl rfl ?_
        refine Gz.ifNo 66 X76 hx (dd at_63) ((if0 _ _).trans (tlt (by decide : (0 : Int32) < (3 : Int32))).2.2.2) rfl ?_
        refine Gz.aload 68 X76 hx (dd at_66) rfl rfl rfl ?_
        refine Gz.iconst 69 (0 : Int32) X76 hx (dd at_68) rfl rfl ?_
        refine Gz.iload 71 X76 hx (dd at_69) rfl rfl ?_
        obtain ⟨c77, A77, q77, S77, N77, H77, G77⟩ := id V76
        have hin77 : ¬ ((0 : Int32) < 0 ∨ c77.slots.size ≤ ((0 : Int32)).toNatClampNeg) := inb_of S77 ⟨by decide, by decide⟩
        refine Gz.stB 72 X76 hx hZ (dd at_71) e76 A77 hin77 rfl fun T78 h78 X78 e78 W78 => ?_
        have V78 := Arv.set A77 q77 S77 N77 H77 G77 (fits_nar_byte _) W78 0 rfl (Nat.le_of_ble_eq_true rfl)
        replace V78 : Arv Z h78 b76 k76 .byte (3 : Int32) [(.int (0 : Int32)), (.int (0 : Int32)), (.int (0 : Int32))] (.int (0 : Int32)) := V78
        have f78_S_st_MESSAGE := Sta.wr W78 f76_S_st_MESSAGE
        have f78_Eb76 := Exa.wr W78 Q76
        have N78 := Fr.snoc X78 N0 g_b76
        have SZ78 : n0 ≤ h78.size := Nat.le_trans SZ76 (Keep.of_wr W78).1
        refine Gz.iload 74 X78 hx (dd at_72) rfl rfl ?_
        refine Gz.iconst 75 (1 : Int32) X78 hx (dd at_74) rfl rfl ?_
        refine Gz.icmpNo 78 X78 hx (dd at_75) (tlt (by decide : (1 : Int32) < (3 : Int32))).2.2.2 rfl ?_
        refine Gz.aload 80 X78 hx (dd at_78) rfl rfl rfl ?_
        refine Gz.iconst 81 (1 : Int32) X78 hx (dd at_80) rfl rfl ?_
        refine Gz.iloadN 82 X78 hx (dd at_81) rfl rfl ?_
        refine Gz.bipush 84 (127 : Int32) X78 hx (dd at_82) rfl rfl ?_
        refine Gz.iand 85 X78 hx (dd at_84) rfl ?_
        refine Gz.i2b 86 X78 hx (dd at_85) rfl ?_
        obtain ⟨c79, A79, q79, S79, N79, H79, G79⟩ := id V78
        have hin79 : ¬ ((1 : Int32) < 0 ∨ c79.slots.size ≤ ((1 : Int32)).toNatClampNeg) := inb_of S79 ⟨by decide, by decide⟩
        refine Gz.stB 87 X78 hx hZ (dd at_86) e78 A79 hin79 rfl fun T80 h80 X80 e80 W80 => ?_
        rw [own_nb] at W80
        have V80 := Arv.set A79 q79 S79 N79 H79 G79 (fits_nar_byte _) W80 1 rfl (Nat.le_of_ble_eq_true rfl)
        replace V80 : Arv Z h80 b76 k76 .byte (3 : Int32) [(.int (0 : Int32)), (.int ((p2 &&& (127 : Int32)).toInt8.toInt32)), (.int (0 : Int32))] (.int (0 : Int32)) := V80
        have f80_S_st_MESSAGE := Sta.wr W80 f78_S_st_MESSAGE
        have f80_Eb76 := Exa.wr W80 f78_Eb76
        have N80 := Fr.snoc X80 N78 g_b76
        have SZ80 : n0 ≤ h80.size := Nat.le_trans SZ78 (Keep.of_wr W80).1
        refine Gz.iload 89 X80 hx (dd at_87) rfl rfl ?_
        refine Gz.iconst 90 (2 : Int32) X80 hx (dd at_89) rfl rfl ?_
        refine Gz.icmpNo 93 X80 hx (dd at_90) (tlt (by decide : (2 : Int32) < (3 : Int32))).2.2.2 rfl ?_
        refine Gz.aload 95 X80 hx (dd at_93) rfl rfl rfl ?_
        refine Gz.iconst 96 (2 : Int32) X80 hx (dd at_95) rfl rfl ?_
        refine Gz.iloadN 97 X80 hx (dd at_96) rfl rfl ?_
        refine Gz.bipush 99 (127 : Int32) X80 hx (dd at_97) rfl rfl ?_
        refine Gz.iand 100 X80 hx (dd at_99) rfl ?_
        refine Gz.i2b 101 X80 hx (dd at_100) rfl ?_
        obtain ⟨c81, A81, q81, S81, N81, H81, G81⟩ := id V80
        have hin81 : ¬ ((2 : Int32) < 0 ∨ c81.slots.size ≤ ((2 : Int32)).toNatClampNeg) := inb_of S81 ⟨by decide, by decide⟩
        refine Gz.stB 102 X80 hx hZ (dd at_101) e80 A81 hin81 rfl fun T82 h82 X82 e82 W82 => ?_
        rw [own_nb] at W82
        have V82 := Arv.set A81 q81 S81 N81 H81 G81 (fits_nar_byte _) W82 2 rfl (Nat.le_of_ble_eq_true rfl)
        replace V82 : Arv Z h82 b76 k76 .byte (3 : Int32) [(.int (0 : Int32)), (.int ((p2 &&& (127 : Int32)).toInt8.toInt32)), (.int ((p3 &&& (127 : Int32)).toInt8.toInt32))] (.int (0 : Int32)) := V82
        have f82_S_st_MESSAGE := Sta.wr W82 f80_S_st_MESSAGE
        have f82_Eb76 := Exa.wr W82 f80_Eb76
        have N82 := Fr.snoc X82 N80 g_b76
        have SZ82 : n0 ≤ h82.size := Nat.le_trans SZ80 (Keep.of_wr W82).1
        refine Gz.iload 104 X82 hx (dd at_102) rfl rfl ?_
        refine Gz.iconst 105 (3 : Int32) X82 hx (dd at_104) rfl rfl ?_
        refine Gz.icmpYes 118 X82 hx (dd at_105) (flt (by decide : ¬ ((3 : Int32) < (3 : Int32)))).2.2.2 (by decide) (by decide) ?_
        obtain ⟨T83, h83, X83, e83, E83, A83, D83, -, st83⟩ := newO X82 hx hZ hown (ww hw 2 rfl) (ww hw 3 rfl) (ww hw 4 rfl) e82 (g := (mkF m 118 #[.val (.int p0), .val (.int p1), .val (.int p2), .val (.int p3), .val (.int p4), .val (.int p5), .val (.int (3 : Int32)), .val (.int (1 : Int32)), .val (.int rr), .val (.int (0 : Int32)), .val (.ref b76), .unset, .unset, .unset, .unset, .unset, .unset, .unset] [])) rfl (dd at_118) (by decide) (by decide)
        obtain ⟨b83, g83⟩ : ∃ z, z = h82.size := ⟨_, rfl⟩
        rw [← g83] at A83 D83 st83
        have ne_b76_b83 : b76 ≠ b83 := Nat.ne_of_lt (Nat.lt_of_lt_of_le (f82_Eb76).lt (Nat.le_of_eq g83.symm))
        have g_b83 : n0 ≤ b83 := Nat.le_trans SZ82 (Nat.le_of_eq g83.symm)
        have SZ83 : n0 ≤ h83.size := Nat.le_trans SZ82 E83.1
        have f83_S_st_MESSAGE := Sta.ext E83 f82_S_st_MESSAGE
        have f83_Eb76 := Exa.ext E83 f82_Eb76
        have f83_Vb76 := Arv.ext V82 E83
        have F_bytes_b83 : Fld Z h83 b83 "com/example/bad_status/badstatus/model/ProtoReader" "bytes" "[B" .null := D83 (Or.inr (ww hw 15 rfl)) (ty := (.array .byte)) (by decide)
        have F_position_b83 : Fld Z h83 b83 "com/example/bad_status/badstatus/model/ProtoReader" "position" "I" (.int (0 : Int32)) := D83 (Or.inl (ww hw 17 rfl)) (ty := .int) (by decide)
        have F_end_b83 : Fld Z h83 b83 "com/example/bad_status/badstatus/model/ProtoReader" "end" "I" (.int (0 : Int32)) := D83 (Or.inr (ww hw 19 rfl)) (ty := .int) (by decide)
        have F_place_b83 : Fld Z h83 b83 "com/example/bad_status/badstatus/model/ProtoReader" "place" "Lcom/example/bad_status/badstatus/model/Place;" .null := D83 (Or.inr (ww hw 21 rfl)) (ty := (.object "com/example/bad_status/badstatus/model/Place")) (by decide)
        refine Gz.st st83 ?_
        refine Gz.dup 122 X83 hx (dd at_121) rfl rfl ?_
        refine Gz.aload 124 X83 hx (dd at_122) rfl rfl rfl ?_
        obtain ⟨_, _, ⟨T84, L84, k84, n84⟩, -, X84, ⟨Lc84, hQ84, l84, y84, z84⟩, st84⟩ := X83.specialBack hx (y := ym4) rfl hown (mvT hZ (ww hw 5 rfl)) (mvT hZ (ww hw 6 rfl)) (mvT hZ (ww hw 7 rfl)) (by decide) (backOf (W := 1) (rmI1_3 l Z av0 hw [] b83 b76 k76 (0 : Int32) ((p2 &&& (127 : Int32)).toInt8.toInt32) ((p3 &&& (127 : Int32)).toInt8.toInt32) h83 n0 SZ83 A83 F_bytes_b83 F_position_b83 F_end_b83 F_place_b83 g_b83 f83_Vb76 ne_b76_b83) hZ (ww hw 7 rfl) (ww hw 4 rfl) (by decide) (by decide)) (g := (mkF m 124 #[.val (.int p0), .val (.int p1), .val (.int p2), .val (.int p3), .val (.int p4), .val (.int p5), .val (.int (3 : Int32)), .val (.int (1 : Int32)), .val (.int rr), .val (.int (0 : Int32)), .val (.ref b76), .unset, .unset, .unset, .unset, .unset, .unset, .unset] [(.ref b76), (.ref b83), (.ref b83)])) rfl (by rw [hml]; rfl) (Steps.refl _) (a := b83) (argsL := [(.ref b76)]) (rest := [(.ref b83)]) (lenOf pd_4 rfl) rfl (Nat.le_refl _) (dd at_124) (fun _ _ => ⟨rfl, e83, (by decide : 2 + 0 ≤ _), (by decide : 7 + 0 ≤ _)⟩)
        dsimp only [Pt.U, Pt.locs, Pt.cells, Pt.slots, Q_rmI1_3] at X84 l84 y84 z84 st84 hQ84
        subst l84 y84 z84
        obtain ⟨rfl, N84q, K84q, QE84_0, QF84_0, QF84_1, QF84_2, QF84_3⟩ := hQ84
        have N84 := Fr.app N82 N84q
        have f84_S_st_MESSAGE := own_staK f83_S_st_MESSAGE K84q (allS (nst_of A83) all0)
        have f84_Eb76 := Exa.keep f83_Eb76 K84q
        have f84_Vb76 := Arv.keep f83_Vb76 K84q (ninS ne_b76_b83 nin0)
        have f84_Eb83 := Exa.keep A83 K84q
        have SZ84 := Nat.le_trans SZ83 K84q.1
        refine Gz.tr st84 ?_
        refine Gz.astore 129 #[.val (.int p0), .val (.int p1), .val (.int p2), .val (.int p3), .val (.int p4), .val (.int p5), .val (.int (3 : Int32)), .val (.int (1 : Int32)), .val (.int rr), .val (.int (0 : Int32)), .val (.ref b76), .val (.ref b83), .unset, .unset, .unset, .unset, .unset, .unset] X84 hx (dd at_127) rfl rfl rfl ?_
        refine Gz.aload 131 X84 hx (dd at_129) rfl rfl rfl ?_
        obtain ⟨cq85, kq85, q85a, q85b, q85c⟩ := isOf hZ rfl QE84_0
        obtain ⟨_, _, ⟨T85, L85, k85, n85⟩, -, X85, ⟨Lc85, hQ85, l85, y85, z85⟩, st85⟩ := X84.virtualBack hx (y := ym3) (z := ym3) hown (mvT hZ (ww hw 22 rfl)) (mvT hZ (ww hw 23 rfl)) (notFace_of_selects (args := #[]) (mvT hZ (ww hw 25 rfl))) (mvT hZ (ww hw 25 rfl)) (mvT hZ (ww hw 24 rfl)) (by decide) (backOf (W := 0) (rm4 l Z av0 hw [] b83 (0 : Int32) (3 : Int32) T84.heap n0 SZ84 QF84_1 QF84_2) hZ (ww hw 26 rfl) (ww hw 4 rfl) (by decide) (by decide)) q85a q85c (g := (mkF m 131 #[.val (.int p0), .val (.int p1), .val (.int p2), .val (.int p3), .val (.int p4), .val (.int p5), .val (.int (3 : Int32)), .val (.int (1 : Int32)), .val (.int rr), .val (.int (0 : Int32)), .val (.ref b76), .val (.ref b83), .unset, .unset, .unset, .unset, .unset, .unset] [(.ref b83)])) rfl (by rw [hml]; rfl) (Steps.refl _) (argsL := []) (rest := []) (lenOf pd_3 rfl) rfl (Nat.le_refl _) (dd at_131) (fun _ _ => ⟨rfl, rfl, (by decide : 2 + 0 ≤ _), (by decide : 7 + 0 ≤ _)⟩)
        dsimp only [Pt.U, Pt.locs, Pt.cells, Pt.slots, Q_rm4] at X85 l85 y85 z85 st85 hQ85
        subst l85 y85 z85
        rw [show (fHM b83 (0 : Int32) (3 : Int32)) = (1 : Int32) from (by unfold fHM; rw [if_pos (by decide : (0 : Int32) < (3 : Int32))]; try decide)] at hQ85
        obtain ⟨rfl, N85q, e85⟩ := hQ85
        have N85 := Fr.app N84 N85q
        refine Gz.tr st85 ?_
        refine Gz.iload 136 X85 hx (dd at_134) rfl rfl ?_
        refine Gz.ifNo 139 X85 hx (dd at_136) ((if0 _ _).trans (tlt (by decide : (0 : Int32) < (3 : Int32))).2.2.2) rfl ?_
        refine Gz.iconst 140 (1 : Int32) X85 hx (dd at_139) rfl rfl ?_
        refine Gz.goto 144 X85 hx (dd at_140) (by decide) (by decide) ?_
        refine Gz.icmpNo 147 X85 hx (dd at_144) (teq (by decide : (1 : Int32) = (1 : Int32))).2 rfl ?_
        refine Gz.iconst 148 (1 : Int32) X85 hx (dd at_147) rfl rfl ?_
        refine Gz.goto 152 X85 hx (dd at_148) (by decide) (by decide) ?_
        refine Gz.istore 154 #[.val (.int p0), .val (.int p1), .val (.int p2), .val (.int p3), .val (.int p4), .val (.int p5), .val (.int (3 : Int32)), .val (.int (1 : Int32)), .val (.int rr), .val (.int (0 : Int32)), .val (.ref b76), .val (.ref b83), .val (.int (1 : Int32)), .unset, .unset, .unset, .unset, .unset] X85 hx (dd at_152) rfl rfl ?_
        refine Gz.aload 156 X85 hx (dd at_154) rfl rfl rfl ?_
        refine Gz.astore 158 #[.val (.int p0), .val (.int p1), .val (.int p2), .val (.int p3), .val (.int p4), .val (.int p5), .val (.int (3 : Int32)), .val (.int (1 : Int32)), .val (.int rr), .val (.int (0 : Int32)), .val (.ref b76), .val (.ref b83), .val (.int (1 : Int32)), .val (.ref b83), .unset, .unset, .unset, .unset] X85 hx (dd at_156) rfl rfl rfl ?_
        refine Gz.iload 160 X85 hx (dd at_158) rfl rfl ?_
        refine Gz.istore 162 #[.val (.int p0), .val (.int p1), .val (.int p2), .val (.int p3), .val (.int p4), .val (.int p5), .val (.int (3 : Int32)), .val (.int (1 : Int32)), .val (.int rr), .val (.int (0 : Int32)), .val (.ref b76), .val (.ref b83), .val (.int (1 : Int32)), .val (.ref b83), .val (.int (3 : Int32)), .unset, .unset, .unset] X85 hx (dd at_160) rfl rfl ?_
        refine Gz.iconst 163 (0 : Int32) X85 hx (dd at_162) rfl rfl ?_
        refine Gz.istore 165 #[.val (.int p0), .val (.int p1), .val (.int p2), .val (.int p3), .val (.int p4), .val (.int p5), .val (.int (3 : Int32)), .val (.int (1 : Int32)), .val (.int rr), .val (.int (0 : Int32)), .val (.ref b76), .val (.ref b83), .val (.int (1 : Int32)), .val (.ref b83), .val (.int (3 : Int32)), .val (.int (0 : Int32)), .unset, .unset] X85 hx (dd at_163) rfl rfl ?_
        refine Gz.iload 167 X85 hx (dd at_165) rfl rfl ?_
        refine Gz.ifNo 170 X85 hx (dd at_167) ((if0 _ _).trans (feq (by decide : ¬ ((1 : Int32) = (0 : Int32)))).1) rfl ?_
        refine Gz.iload 172 X85 hx (dd at_170) rfl rfl ?_
        refine Gz.istore 174 #[.val (.int p0), .val (.int p1), .val (.int p2), .val (.int p3), .val (.int p4), .val (.int p5), .val (.int (3 : Int32)), .val (.int (1 : Int32)), .val (.int rr), .val (.int (0 : Int32)), .val (.ref b76), .val (.ref b83), .val (.int (1 : Int32)), .val (.ref b83), .val (.int (3 : Int32)), .val (.int (0 : Int32)), .unset, .val (.int (0 : Int32))] X85 hx (dd at_172) rfl rfl ?_
        refine Gz.aload 176 X85 hx (dd at_174) rfl rfl rfl ?_
        refine Gz.getS 179 X85 hx hZ hown (dd at_176) (host := "") (Or.inl (ww hw 32 rfl)) Via.refl e85 f84_S_st_MESSAGE rfl fun T86 X86 e86 => ?_
        obtain ⟨cq87, kq87, q87a, q87b, q87c⟩ := isOf hZ e86 QE84_0
        obtain ⟨_, _, ⟨T87, L87, k87, n87⟩, -, X87, ⟨Lc87, hQ87, l87, y87, z87⟩, st87⟩ := X86.virtualBack hx (y := ym5) (z := ym5) hown (mvT hZ (ww hw 35 rfl)) (mvT hZ (ww hw 36 rfl)) (notFace_of_selects (args := #[]) (mvT hZ (ww hw 38 rfl))) (mvT hZ (ww hw 38 rfl)) (mvT hZ (ww hw 37 rfl)) (by decide) (backOf (W := 0) (rmM30 l Z av0 hw [] b83 st_MESSAGE b76 k76 ((p2 &&& (127 : Int32)).toInt8.toInt32) ((p3 &&& (127 : Int32)).toInt8.toInt32) T84.heap n0 SZ84 QE84_0 QF84_0 QF84_1 QF84_2 g_b83 f84_Vb76 ne_b76_b83) hZ (ww hw 39 rfl) (ww hw 4 rfl) (by decide) (by decide)) q87a q87c (g := (mkF m 179 #[.val (.int p0), .val (.int p1), .val (.int p2), .val (.int p3), .val (.int p4), .val (.int p5), .val (.int (3 : Int32)), .val (.int (1 : Int32)), .val (.int rr), .val (.int (0 : Int32)), .val (.ref b76), .val (.ref b83), .val (.int (1 : Int32)), .val (.ref b83), .val (.int (3 : Int32)), .val (.int (0 : Int32)), .unset, .val (.int (0 : Int32))] [(.ref st_MESSAGE), (.ref b83)])) rfl (by rw [hml]; rfl) (Steps.refl _) (argsL := [(.ref st_MESSAGE)]) (rest := []) (lenOf pd_5 rfl) rfl (Nat.le_refl _) (dd at_179) (fun _ _ => ⟨rfl, e86, (by decide : 2 + 1 ≤ _), (by decide : 7 + 4 ≤ _)⟩)
        dsimp only [Pt.U, Pt.locs, Pt.cells, Pt.slots, Q_rmM30] at X87 l87 y87 z87 st87 hQ87
        subst l87 y87 z87
        obtain ⟨rd87, rfl, N87q, K87q, QE87, QB87, QP87, QN87, gr87, szr87, RE87, RB87, RP87, RN87⟩ := hQ87
        have N87 := Fr.app N85 N87q
        have ne_b76_rd87 : b76 ≠ rd87 := Nat.ne_of_lt (Nat.lt_of_lt_of_le (f84_Vb76).lt szr87)
        have ne_b83_rd87 : b83 ≠ rd87 := Nat.ne_of_lt (Nat.lt_of_lt_of_le (QF84_3).lt szr87)
        have f87_S_st_MESSAGE := own_staK f84_S_st_MESSAGE K87q (allS (nst_of QE84_0) all0)
        have f87_Eb76 := Exa.keep f84_Eb76 K87q
        have f87_Vb76 := Arv.keep f84_Vb76 K87q (ninS ne_b76_b83 nin0)
        have f87_E_b83 := Exa.keep QE84_0 K87q
        have SZ87 := Nat.le_trans SZ84 K87q.1
        refine Gz.tr st87 ?_
        refine Gz.astore 184 #[.val (.int p0), .val (.int p1), .val (.int p2), .val (.int p3), .val (.int p4), .val (.int p5), .val (.int (3 : Int32)), .val (.int (1 : Int32)), .val (.int rr), .val (.int (0 : Int32)), .val (.ref b76), .val (.ref b83), .val (.int (1 : Int32)), .val (.ref rd87), .val (.int (3 : Int32)), .val (.int (0 : Int32)), .unset, .val (.int (0 : Int32))] X87 hx (dd at_182) rfl rfl rfl ?_
        refine Gz.iload 186 X87 hx (dd at_184) rfl rfl ?_
        refine Gz.ifNo 189 X87 hx (dd at_186) ((if0 _ _).trans (feq (by decide : ¬ ((1 : Int32) = (0 : Int32)))).1) rfl ?_
        refine Gz.aload 191 X87 hx (dd at_189) rfl rfl rfl ?_
        obtain ⟨cq88, kq88, q88a, q88b, q88c⟩ := isOf hZ rfl QE87
        obtain ⟨_, _, ⟨T88, L88, k88, n88⟩, -, X88, ⟨Lc88, hQ88, l88, y88, z88⟩, st88⟩ := X87.virtualBack hx (y := ym3) (z := ym3) hown (mvT hZ (ww hw 22 rfl)) (mvT hZ (ww hw 23 rfl)) (notFace_of_selects (args := #[]) (mvT hZ (ww hw 25 rfl))) (mvT hZ (ww hw 25 rfl)) (mvT hZ (ww hw 24 rfl)) (by decide) (backOf (W := 0) (rm4 l Z av0 hw [] b83 (1 : Int32) (3 : Int32) T87.heap n0 SZ87 QP87 QN87) hZ (ww hw 26 rfl) (ww hw 4 rfl) (by decide) (by decide)) q88a q88c (g := (mkF m 191 #[.val (.int p0), .val (.int p1), .val (.int p2), .val (.int p3), .val (.int p4), .val (.int p5), .val (.int (3 : Int32)), .val (.int (1 : Int32)), .val (.int rr), .val (.int (0 : Int32)), .val (.ref b76), .val (.ref b83), .val (.int (1 : Int32)), .val (.ref rd87), .val (.int (3 : Int32)), .val (.int (0 : Int32)), .unset, .val (.int (0 : Int32))] [(.ref b83)])) rfl (by rw [hml]; rfl) (Steps.refl _) (argsL := []) (rest := []) (lenOf pd_3 rfl) rfl (Nat.le_refl _) (dd at_191) (fun _ _ => ⟨rfl, rfl, (by decide : 3 + 0 ≤ _), (by decide : 11 + 0 ≤ _)⟩)
        dsimp only [Pt.U, Pt.locs, Pt.cells, Pt.slots, Q_rm4] at X88 l88 y88 z88 st88 hQ88
        subst l88 y88 z88
        rw [show (fHM b83 (1 : Int32) (3 : Int32)) = (1 : Int32) from (by unfold fHM; rw [if_pos (by decide : (1 : Int32) < (3 : Int32))]; try decide)] at hQ88
        obtain ⟨rfl, N88q, e88⟩ := hQ88
        have N88 := Fr.app N87 N88q
        refine Gz.tr st88 ?_
        refine Gz.iconst 195 (1 : Int32) X88 hx (dd at_194) rfl rfl ?_
        refine Gz.iload 197 X88 hx (dd at_195) rfl rfl ?_
        refine Gz.iaddV 198 (1 : Int32) X88 hx (dd at_197) rfl rfl ?_
        refine Gz.iload 200 X88 hx (dd at_198) rfl rfl ?_
        refine Gz.icmpNo 203 X88 hx (dd at_200) (tlt (by decide : (1 : Int32) < (3 : Int32))).2.1 rfl ?_
        refine Gz.iconst 204 (1 : Int32) X88 hx (dd at_203) rfl rfl ?_
        refine Gz.goto 208 X88 hx (dd at_204) (by decide) (by decide) ?_
        refine Gz.icmpNo 211 X88 hx (dd at_208) (teq (by decide : (1 : Int32) = (1 : Int32))).2 rfl ?_
        refine Gz.iconst 212 (1 : Int32) X88 hx (dd at_211) rfl rfl ?_
        refine Gz.goto 216 X88 hx (dd at_212) (by decide) (by decide) ?_
        refine Gz.istore 218 #[.val (.int p0), .val (.int p1), .val (.int p2), .val (.int p3), .val (.int p4), .val (.int p5), .val (.int (3 : Int32)), .val (.int (1 : Int32)), .val (.int rr), .val (.int (0 : Int32)), .val (.ref b76), .val (.ref b83), .val (.int (1 : Int32)), .val (.ref rd87), .val (.int (3 : Int32)), .val (.int (0 : Int32)), .unset, .val (.int (0 : Int32))] X88 hx (dd at_216) rfl rfl ?_
        refine Gz.iload 220 X88 hx (dd at_218) rfl rfl ?_
        refine Gz.istore 222 #[.val (.int p0), .val (.int p1), .val (.int p2), .val (.int p3), .val (.int p4), .val (.int p5), .val (.int (3 : Int32)), .val (.int (1 : Int32)), .val (.int rr), .val (.int (0 : Int32)), .val (.ref b76), .val (.ref b83), .val (.int (1 : Int32)), .val (.ref rd87), .val (.int (0 : Int32)), .val (.int (0 : Int32)), .unset, .val (.int (0 : Int32))] X88 hx (dd at_220) rfl rfl ?_
        refine Gz.iconst 223 (1 : Int32) X88 hx (dd at_222) rfl rfl ?_
        refine Gz.istore 225 #[.val (.int p0), .val (.int p1), .val (.int p2), .val (.int p3), .val (.int p4), .val (.int p5), .val (.int (3 : Int32)), .val (.int (1 : Int32)), .val (.int rr), .val (.int (0 : Int32)), .val (.ref b76), .val (.ref b83), .val (.int (1 : Int32)), .val (.ref rd87), .val (.int (0 : Int32)), .val (.int (0 : Int32)), .val (.int (1 : Int32)), .val (.int (0 : Int32))] X88 hx (dd at_223) rfl rfl ?_
        refine Gz.goto 240 X88 hx (dd at_225) (by decide) (by decide) ?_
        exact sg_3_0_1 (.val (.int p0)) (.val (.int p1)) (.val (.int p2)) (.val (.int p3)) (.val (.int p4)) (.val (.int p5)) (.val (.int (3 : Int32))) (.val (.int (1 : Int32))) rr (.val (.int (0 : Int32))) (.val (.ref b76)) (.val (.ref b83)) rd87 (.val (.int (0 : Int32))) b76 k76 ((p2 &&& (127 : Int32)).toInt8.toInt32) ((p3 &&& (127 : Int32)).toInt8.toInt32) n0 X88 hx hZ hw hby hml hown hret hlk e88 N88 SZ87 RE87 RB87 RP87 RN87 gr87 f87_Vb76 ne_b76_rd87 ((own_7 _) : ¬ (((p2 &&& (127 : Int32)).toInt8.toInt32) < (0 : Int32))) ((own_7 _) : ¬ (((p3 &&& (127 : Int32)).toInt8.toInt32) < (0 : Int32)))
      · rw [hs75]
        refine Gz.i2bV 48 (1 : Int32) X0 hx (dd at_47) rfl rfl ?_
        refine Gz.goto 53 X0 hx (dd at_48) (by decide) (by decide) ?_
        refine Gz.istore 55 #[.val (.int p0), .val (.int p1), .val (.int p2), .val (.int p3), .val (.int p4), .val (.int p5), .val (.int (3 : Int32)), .val (.int (1 : Int32)), .val (.int rr), .val (.int (1 : Int32)), .unset, .unset, .unset, .unset, .unset, .unset, .unset, .unset] X0 hx (dd at_53) rfl rfl ?_
        refine Gz.iload 57 X0 hx (dd at_55) rfl rfl ?_
        obtain ⟨T89, h89, k89, X89, e89, E89, A89, Q89, st89⟩ := newPE X0 hx hZ (ww hw 1 rfl) e0 (g := (mkF m 57 #[.val (.int p0), .val (.int p1), .val (.int p2), .val (.int p3), .val (.int p4), .val (.int p5), .val (.int (3 : Int32)), .val (.int (1 : Int32)), .val (.int rr), .val (.int (1 : Int32)), .unset, .unset, .unset, .unset, .unset, .unset, .unset, .unset] [(.int (3 : Int32))])) rfl (dd at_57) rfl (by decide) (cap := 3) (by decide) (by decide) (by decide) (by decide) (ad := "[B") rfl
        obtain ⟨b89, g89⟩ : ∃ z, z = h0.size := ⟨_, rfl⟩
        rw [← g89] at A89 Q89 st89
        have g_b89 : n0 ≤ b89 := Nat.le_trans Z0 (Nat.le_of_eq g89.symm)
        have SZ89 : n0 ≤ h89.size := Nat.le_trans Z0 E89.1
        have f89_S_st_MESSAGE := Sta.ext E89 S_st_MESSAGE
        have V89 : Arv Z h89 b89 k89 .byte (3 : Int32) [(.int (0 : Int32)), (.int (0 : Int32)), (.int (0 : Int32))] (.int (0 : Int32)) := (Arv.new A89 (by decide)).pad (pad_rep [] (.int (0 : Int32)) 3)
        refine Gz.st st89 ?_
        refine Gz.astore 61 #[.val (.int p0), .val (.int p1), .val (.int p2), .val (.int p3), .val (.int p4), .val (.int p5), .val (.int (3 : Int32)), .val (.int (1 : Int32)), .val (.int rr), .val (.int (1 : Int32)), .val (.ref b89), .unset, .unset, .unset, .unset, .unset, .unset, .unset] X89 hx (dd at_59) rfl rfl rfl ?_
        refine Gz.iload 63 X89 hx (dd at_61) rfl rfl ?_
        refine Gz.ifNo 66 X89 hx (dd at_63) ((if0 _ _).trans (tlt (by decide : (0 : Int32) < (3 : Int32))).2.2.2) rfl ?_
        refine Gz.aload 68 X89 hx (dd at_66) rfl rfl rfl ?_
        refine Gz.iconst 69 (0 : Int32) X89 hx (dd at_68) rfl rfl ?_
        refine Gz.iload 71 X89 hx (dd at_69) rfl rfl ?_
        obtain ⟨c90, A90, q90, S90, N90, H90, G90⟩ := id V89
        have hin90 : ¬ ((0 : Int32) < 0 ∨ c90.slots.size ≤ ((0 : Int32)).toNatClampNeg) := inb_of S90 ⟨by decide, by decide⟩
        refine Gz.stB 72 X89 hx hZ (dd at_71) e89 A90 hin90 rfl fun T91 h91 X91 e91 W91 => ?_
        have V91 := Arv.set A90 q90 S90 N90 H90 G90 (fits_nar_byte _) W91 0 rfl (Nat.le_of_ble_eq_true rfl)
        replace V91 : Arv Z h91 b89 k89 .byte (3 : Int32) [(.int (1 : Int32)), (.int (0 : Int32)), (.int (0 : Int32))] (.int (0 : Int32)) := V91
        have f91_S_st_MESSAGE := Sta.wr W91 f89_S_st_MESSAGE
        have f91_Eb89 := Exa.wr W91 Q89
        have N91 := Fr.snoc X91 N0 g_b89
        have SZ91 : n0 ≤ h91.size := Nat.le_trans SZ89 (Keep.of_wr W91).1
        refine Gz.iload 74 X91 hx (dd at_72) rfl rfl ?_
        refine Gz.iconst 75 (1 : Int32) X91 hx (dd at_74) rfl rfl ?_
        refine Gz.icmpNo 78 X91 hx (dd at_75) (tlt (by decide : (1 : Int32) < (3 : Int32))).2.2.2 rfl ?_
        refine Gz.aload 80 X91 hx (dd at_78) rfl rfl rfl ?_
        refine Gz.iconst 81 (1 : Int32) X91 hx (dd at_80) rfl rfl ?_
        refine Gz.iloadN 82 X91 hx (dd at_81) rfl rfl ?_
        refine Gz.bipush 84 (127 : Int32) X91 hx (dd at_82) rfl rfl ?_
        refine Gz.iand 85 X91 hx (dd at_84) rfl ?_
        refine Gz.i2b 86 X91 hx (dd at_85) rfl ?_
        obtain ⟨c92, A92, q92, S92, N92, H92, G92⟩ := id V91
        have hin92 : ¬ ((1 : Int32) < 0 ∨ c92.slots.size ≤ ((1 : Int32)).toNatClampNeg) := inb_of S92 ⟨by decide, by decide⟩
        refine Gz.stB 87 X91 hx hZ (dd at_86) e91 A92 hin92 rfl fun T93 h93 X93 e93 W93 => ?_
        rw [own_nb] at W93
        have V93 := Arv.set A92 q92 S92 N92 H92 G92 (fits_nar_byte _) W93 1 rfl (Nat.le_of_ble_eq_true rfl)
        replace V93 : Arv Z h93 b89 k89 .byte (3 : Int32) [(.int (1 : Int32)), (.int ((p2 &&& (127 : Int32)).toInt8.toInt32)), (.int (0 : Int32))] (.int (0 : Int32)) := V93
        have f93_S_st_MESSAGE := Sta.wr W93 f91_S_st_MESSAGE
        have f93_Eb89 := Exa.wr W93 f91_Eb89
        have N93 := Fr.snoc X93 N91 g_b89
        have SZ93 : n0 ≤ h93.size := Nat.le_trans SZ91 (Keep.of_wr W93).1
        refine Gz.iload 89 X93 hx (dd at_87) rfl rfl ?_
        refine Gz.iconst 90 (2 : Int32) X93 hx (dd at_89) rfl rfl ?_
        refine Gz.icmpNo 93 X93 hx (dd at_90) (tlt (by decide : (2 : Int32) < (3 : Int32))).2.2.2 rfl ?_
        refine Gz.aload 95 X93 hx (dd at_93) rfl rfl rfl ?_
        refine Gz.iconst 96 (2 : Int32) X93 hx (dd at_95) rfl rfl ?_
        refine Gz.iloadN 97 X93 hx (dd at_96) rfl rfl ?_
        refine Gz.bipush 99 (127 : Int32) X93 hx (dd at_97) rfl rfl ?_
        refine Gz.iand 100 X93 hx (dd at_99) rfl ?_
        refine Gz.i2b 101 X93 hx (dd at_100) rfl ?_
        obtain ⟨c94, A94, q94, S94, N94, H94, G94⟩ := id V93
        have hin94 : ¬ ((2 : Int32) < 0 ∨ c94.slots.size ≤ ((2 : Int32)).toNatClampNeg) := inb_of S94 ⟨by decide, by decide⟩
        refine Gz.stB 102 X93 hx hZ (dd at_101) e93 A94 hin94 rfl fun T95 h95 X95 e95 W95 => ?_
        rw [own_nb] at W95
        have V95 := Arv.set A94 q94 S94 N94 H94 G94 (fits_nar_byte _) W95 2 rfl (Nat.le_of_ble_eq_true rfl)
        replace V95 : Arv Z h95 b89 k89 .byte (3 : Int32) [(.int (1 : Int32)), (.int ((p2 &&& (127 : Int32)).toInt8.toInt32)), (.int ((p3 &&& (127 : Int32)).toInt8.toInt32))] (.int (0 : Int32)) := V95
        have f95_S_st_MESSAGE := Sta.wr W95 f93_S_st_MESSAGE
        have f95_Eb89 := Exa.wr W95 f93_Eb89
        have N95 := Fr.snoc X95 N93 g_b89
        have SZ95 : n0 ≤ h95.size := Nat.le_trans SZ93 (Keep.of_wr W95).1
        refine Gz.iload 104 X95 hx (dd at_102) rfl rfl ?_
        refine Gz.iconst 105 (3 : Int32) X95 hx (dd at_104) rfl rfl ?_
        refine Gz.icmpYes 118 X95 hx (dd at_105) (flt (by decide : ¬ ((3 : Int32) < (3 : Int32)))).2.2.2 (by decide) (by decide) ?_
        obtain ⟨T96, h96, X96, e96, E96, A96, D96, -, st96⟩ := newO X95 hx hZ hown (ww hw 2 rfl) (ww hw 3 rfl) (ww hw 4 rfl) e95 (g := (mkF m 118 #[.val (.int p0), .val (.int p1), .val (.int p2), .val (.int p3), .val (.int p4), .val (.int p5), .val (.int (3 : Int32)), .val (.int (1 : Int32)), .val (.int rr), .val (.int (1 : Int32)), .val (.ref b89), .unset, .unset, .unset, .unset, .unset, .unset, .unset] [])) rfl (dd at_118) (by decide) (by decide)
        obtain ⟨b96, g96⟩ : ∃ z, z = h95.size := ⟨_, rfl⟩
        rw [← g96] at A96 D96 st96
        have ne_b89_b96 : b89 ≠ b96 := Nat.ne_of_lt (Nat.lt_of_lt_of_le (f95_Eb89).lt (Nat.le_of_eq g96.symm))
        have g_b96 : n0 ≤ b96 := Nat.le_trans SZ95 (Nat.le_of_eq g96.symm)
        have SZ96 : n0 ≤ h96.size := Nat.le_trans SZ95 E96.1
        have f96_S_st_MESSAGE := Sta.ext E96 f95_S_st_MESSAGE
        have f96_Eb89 := Exa.ext E96 f95_Eb89
        have f96_Vb89 := Arv.ext V95 E96
        have F_bytes_b96 : Fld Z h96 b96 "com/example/bad_status/badstatus/model/ProtoReader" "bytes" "[B" .null := D96 (Or.inr (ww hw 15 rfl)) (ty := (.array .byte)) (by decide)
        have F_position_b96 : Fld Z h96 b96 "com/example/bad_status/badstatus/model/ProtoReader" "position" "I" (.int (0 : Int32)) := D96 (Or.inl (ww hw 17 rfl)) (ty := .int) (by decide)
        have F_end_b96 : Fld Z h96 b96 "com/example/bad_status/badstatus/model/ProtoReader" "end" "I" (.int (0 : Int32)) := D96 (Or.inr (ww hw 19 rfl)) (ty := .int) (by decide)
        have F_place_b96 : Fld Z h96 b96 "com/example/bad_status/badstatus/model/ProtoReader" "place" "Lcom/example/bad_status/badstatus/model/Place;" .null := D96 (Or.inr (ww hw 21 rfl)) (ty := (.object "com/example/bad_status/badstatus/model/Place")) (by decide)
        refine Gz.st st96 ?_
        refine Gz.dup 122 X96 hx (dd at_121) rfl rfl ?_
        refine Gz.aload 124 X96 hx (dd at_122) rfl rfl rfl ?_
        obtain ⟨_, _, ⟨T97, L97, k97, n97⟩, -, X97, ⟨Lc97, hQ97, l97, y97, z97⟩, st97⟩ := X96.specialBack hx (y := ym4) rfl hown (mvT hZ (ww hw 5 rfl)) (mvT hZ (ww hw 6 rfl)) (mvT hZ (ww hw 7 rfl)) (by decide) (backOf (W := 1) (rmI1_3 l Z av0 hw [] b96 b89 k89 (1 : Int32) ((p2 &&& (127 : Int32)).toInt8.toInt32) ((p3 &&& (127 : Int32)).toInt8.toInt32) h96 n0 SZ96 A96 F_bytes_b96 F_position_b96 F_end_b96 F_place_b96 g_b96 f96_Vb89 ne_b89_b96) hZ (ww hw 7 rfl) (ww hw 4 rfl) (by decide) (by decide)) (g := (mkF m 124 #[.val (.int p0), .val (.int p1), .val (.int p2), .val (.int p3), .val (.int p4), .val (.int p5), .val (.int (3 : Int32)), .val (.int (1 : Int32)), .val (.int rr), .val (.int (1 : Int32)), .val (.ref b89), .unset, .unset, .unset, .unset, .unset, .unset, .unset] [(.ref b89), (.ref b96), (.ref b96)])) rfl (by rw [hml]; rfl) (Steps.refl _) (a := b96) (argsL := [(.ref b89)]) (rest := [(.ref b96)]) (lenOf pd_4 rfl) rfl (Nat.le_refl _) (dd at_124) (fun _ _ => ⟨rfl, e96, (by decide : 2 + 0 ≤ _), (by decide : 7 + 0 ≤ _)⟩)
        dsimp only [Pt.U, Pt.locs, Pt.cells, Pt.slots, Q_rmI1_3] at X97 l97 y97 z97 st97 hQ97
        subst l97 y97 z97
        obtain ⟨rfl, N97q, K97q, QE97_0, QF97_0, QF97_1, QF97_2, QF97_3⟩ := hQ97
        have N97 := Fr.app N95 N97q
        have f97_S_st_MESSAGE := own_staK f96_S_st_MESSAGE K97q (allS (nst_of A96) all0)
        have f97_Eb89 := Exa.keep f96_Eb89 K97q
        have f97_Vb89 := Arv.keep f96_Vb89 K97q (ninS ne_b89_b96 nin0)
        have f97_Eb96 := Exa.keep A96 K97q
        have SZ97 := Nat.le_trans SZ96 K97q.1
        refine Gz.tr st97 ?_
        refine Gz.astore 129 #[.val (.int p0), .val (.int p1), .val (.int p2), .val (.int p3), .val (.int p4), .val (.int p5), .val (.int (3 : Int32)), .val (.int (1 : Int32)), .val (.int rr), .val (.int (1 : Int32)), .val (.ref b89), .val (.ref b96), .unset, .unset, .unset, .unset, .unset, .unset] X97 hx (dd at_127) rfl rfl rfl ?_
        refine Gz.aload 131 X97 hx (dd at_129) rfl rfl rfl ?_
        obtain ⟨cq98, kq98, q98a, q98b, q98c⟩ := isOf hZ rfl QE97_0
        obtain ⟨_, _, ⟨T98, L98, k98, n98⟩, -, X98, ⟨Lc98, hQ98, l98, y98, z98⟩, st98⟩ := X97.virtualBack hx (y := ym3) (z := ym3) hown (mvT hZ (ww hw 22 rfl)) (mvT hZ (ww hw 23 rfl)) (notFace_of_selects (args := #[]) (mvT hZ (ww hw 25 rfl))) (mvT hZ (ww hw 25 rfl)) (mvT hZ (ww hw 24 rfl)) (by decide) (backOf (W := 0) (rm4 l Z av0 hw [] b96 (0 : Int32) (3 : Int32) T97.heap n0 SZ97 QF97_1 QF97_2) hZ (ww hw 26 rfl) (ww hw 4 rfl) (by decide) (by decide)) q98a q98c (g := (mkF m 131 #[.val (.int p0), .val (.int p1), .val (.int p2), .val (.int p3), .val (.int p4), .val (.int p5), .val (.int (3 : Int32)), .val (.int (1 : Int32)), .val (.int rr), .val (.int (1 : Int32)), .val (.ref b89), .val (.ref b96), .unset, .unset, .unset, .unset, .unset, .unset] [(.ref b96)])) rfl (by rw [hml]; rfl) (Steps.refl _) (argsL := []) (rest := []) (lenOf pd_3 rfl) rfl (Nat.le_refl _) (dd at_131) (fun _ _ => ⟨rfl, rfl, (by decide : 2 + 0 ≤ _), (by decide : 7 + 0 ≤ _)⟩)
        dsimp only [Pt.U, Pt.locs, Pt.cells, Pt.slots, Q_rm4] at X98 l98 y98 z98 st98 hQ98
        subst l98 y98 z98
        rw [show (fHM b96 (0 : Int32) (3 : Int32)) = (1 : Int32) from (by unfold fHM; rw [if_pos (by decide : (0 : Int32) < (3 : Int32))]; try decide)] at hQ98
        obtain ⟨rfl, N98q, e98⟩ := hQ98
        have N98 := Fr.app N97 N98q
        refine Gz.tr st98 ?_
        refine Gz.iload 136 X98 hx (dd at_134) rfl rfl ?_
        refine Gz.ifNo 139 X98 hx (dd at_136) ((if0 _ _).trans (tlt (by decide : (0 : Int32) < (3 : Int32))).2.2.2) rfl ?_
        refine Gz.iconst 140 (1 : Int32) X98 hx (dd at_139) rfl rfl ?_
        refine Gz.goto 144 X98 hx (dd at_140) (by decide) (by decide) ?_
        refine Gz.icmpNo 147 X98 hx (dd at_144) (teq (by decide : (1 : Int32) = (1 : Int32))).2 rfl ?_
        refine Gz.iconst 148 (1 : Int32) X98 hx (dd at_147) rfl rfl ?_
        refine Gz.goto 152 X98 hx (dd at_148) (by decide) (by decide) ?_
        refine Gz.istore 154 #[.val (.int p0), .val (.int p1), .val (.int p2), .val (.int p3), .val (.int p4), .val (.int p5), .val (.int (3 : Int32)), .val (.int (1 : Int32)), .val (.int rr), .val (.int (1 : Int32)), .val (.ref b89), .val (.ref b96), .val (.int (1 : Int32)), .unset, .unset, .unset, .unset, .unset] X98 hx (dd at_152) rfl rfl ?_
        refine Gz.aload 156 X98 hx (dd at_154) rfl rfl rfl ?_
        refine Gz.astore 158 #[.val (.int p0), .val (.int p1), .val (.int p2), .val (.int p3), .val (.int p4), .val (.int p5), .val (.int (3 : Int32)), .val (.int (1 : Int32)), .val (.int rr), .val (.int (1 : Int32)), .val (.ref b89), .val (.ref b96), .val (.int (1 : Int32)), .val (.ref b96), .unset, .unset, .unset, .unset] X98 hx (dd at_156) rfl rfl rfl ?_
        refine Gz.iload 160 X98 hx (dd at_158) rfl rfl ?_
        refine Gz.istore 162 #[.val (.int p0), .val (.int p1), .val (.int p2), .val (.int p3), .val (.int p4), .val (.int p5), .val (.int (3 : Int32)), .val (.int (1 : Int32)), .val (.int rr), .val (.int (1 : Int32)), .val (.ref b89), .val (.ref b96), .val (.int (1 : Int32)), .val (.ref b96), .val (.int (3 : Int32)), .unset, .unset, .unset] X98 hx (dd at_160) rfl rfl ?_
        refine Gz.iconst 163 (0 : Int32) X98 hx (dd at_162) rfl rfl ?_
        refine Gz.istore 165 #[.val (.int p0), .val (.int p1), .val (.int p2), .val (.int p3), .val (.int p4), .val (.int p5), .val (.int (3 : Int32)), .val (.int (1 : Int32)), .val (.int rr), .val (.int (1 : Int32)), .val (.ref b89), .val (.ref b96), .val (.int (1 : Int32)), .val (.ref b96), .val (.int (3 : Int32)), .val (.int (0 : Int32)), .unset, .unset] X98 hx (dd at_163) rfl rfl ?_
        refine Gz.iload 167 X98 hx (dd at_165) rfl rfl ?_
        refine Gz.ifNo 170 X98 hx (dd at_167) ((if0 _ _).trans (feq (by decide : ¬ ((1 : Int32) = (0 : Int32)))).1) rfl ?_
        refine Gz.iload 172 X98 hx (dd at_170) rfl rfl ?_
        refine Gz.istore 174 #[.val (.int p0), .val (.int p1), .val (.int p2), .val (.int p3), .val (.int p4), .val (.int p5), .val (.int (3 : Int32)), .val (.int (1 : Int32)), .val (.int rr), .val (.int (1 : Int32)), .val (.ref b89), .val (.ref b96), .val (.int (1 : Int32)), .val (.ref b96), .val (.int (3 : Int32)), .val (.int (0 : Int32)), .unset, .val (.int (1 : Int32))] X98 hx (dd at_172) rfl rfl ?_
        refine Gz.aload 176 X98 hx (dd at_174) rfl rfl rfl ?_
        refine Gz.getS 179 X98 hx hZ hown (dd at_176) (host := "") (Or.inl (ww hw 32 rfl)) Via.refl e98 f97_S_st_MESSAGE rfl fun T99 X99 e99 => ?_
        obtain ⟨cq100, kq100, q100a, q100b, q100c⟩ := isOf hZ e99 QE97_0
        obtain ⟨_, _, ⟨T100, L100, k100, n100⟩, -, X100, ⟨Lc100, hQ100, l100, y100, z100⟩, st100⟩ := X99.virtualBack hx (y := ym5) (z := ym5) hown (mvT hZ (ww hw 35 rfl)) (mvT hZ (ww hw 36 rfl)) (notFace_of_selects (args := #[]) (mvT hZ (ww hw 38 rfl))) (mvT hZ (ww hw 38 rfl)) (mvT hZ (ww hw 37 rfl)) (by decide) (backOf (W := 0) (rmM31 l Z av0 hw [] b96 st_MESSAGE b89 k89 ((p2 &&& (127 : Int32)).toInt8.toInt32) ((p3 &&& (127 : Int32)).toInt8.toInt32) T97.heap n0 SZ97 QE97_0 QF97_0 QF97_1 QF97_2 g_b96 f97_Vb89 ne_b89_b96) hZ (ww hw 39 rfl) (ww hw 4 rfl) (by decide) (by decide)) q100a q100c (g := (mkF m 179 #[.val (.int p0), .val (.int p1), .val (.int p2), .val (.int p3), .val (.int p4), .val (.int p5), .val (.int (3 : Int32)), .val (.int (1 : Int32)), .val (.int rr), .val (.int (1 : Int32)), .val (.ref b89), .val (.ref b96), .val (.int (1 : Int32)), .val (.ref b96), .val (.int (3 : Int32)), .val (.int (0 : Int32)), .unset, .val (.int (1 : Int32))] [(.ref st_MESSAGE), (.ref b96)])) rfl (by rw [hml]; rfl) (Steps.refl _) (argsL := [(.ref st_MESSAGE)]) (rest := []) (lenOf pd_5 rfl) rfl (Nat.le_refl _) (dd at_179) (fun _ _ => ⟨rfl, e99, (by decide : 2 + 1 ≤ _), (by decide : 7 + 4 ≤ _)⟩)
        dsimp only [Pt.U, Pt.locs, Pt.cells, Pt.slots, Q_rmM31] at X100 l100 y100 z100 st100 hQ100
        subst l100 y100 z100
        obtain ⟨rd100, rfl, N100q, K100q, QE100, QB100, QP100, QN100, gr100, szr100, RE100, RB100, RP100, RN100⟩ := hQ100
        have N100 := Fr.app N98 N100q
        have ne_b89_rd100 : b89 ≠ rd100 := Nat.ne_of_lt (Nat.lt_of_lt_of_le (f97_Vb89).lt szr100)
        have ne_b96_rd100 : b96 ≠ rd100 := Nat.ne_of_lt (Nat.lt_of_lt_of_le (QF97_3).lt szr100)
        have f100_S_st_MESSAGE := own_staK f97_S_st_MESSAGE K100q (allS (nst_of QE97_0) all0)
        have f100_Eb89 := Exa.keep f97_Eb89 K100q
        have f100_Vb89 := Arv.keep f97_Vb89 K100q (ninS ne_b89_b96 nin0)
        have f100_E_b96 := Exa.keep QE97_0 K100q
        have SZ100 := Nat.le_trans SZ97 K100q.1
        refine Gz.tr st100 ?_
        refine Gz.astore 184 #[.val (.int p0), .val (.int p1), .val (.int p2), .val (.int p3), .val (.int p4), .val (.int p5), .val (.int (3 : Int32)), .val (.int (1 : Int32)), .val (.int rr), .val (.int (1 : Int32)), .val (.ref b89), .val (.ref b96), .val (.int (1 : Int32)), .val (.ref rd100), .val (.int (3 : Int32)), .val (.int (0 : Int32)), .unset, .val (.int (1 : Int32))] X100 hx (dd at_182) rfl rfl rfl ?_
        refine Gz.iload 186 X100 hx (dd at_184) rfl rfl ?_
        refine Gz.ifNo 189 X100 hx (dd at_186) ((if0 _ _).trans (feq (by decide : ¬ ((1 : Int32) = (0 : Int32)))).1) rfl ?_
        refine Gz.aload 191 X100 hx (dd at_189) rfl rfl rfl ?_
        obtain ⟨cq101, kq101, q101a, q101b, q101c⟩ := isOf hZ rfl QE100
        obtain ⟨_, _, ⟨T101, L101, k101, n101⟩, -, X101, ⟨Lc101, hQ101, l101, y101, z101⟩, st101⟩ := X100.virtualBack hx (y := ym3) (z := ym3) hown (mvT hZ (ww hw 22 rfl)) (mvT hZ (ww hw 23 rfl)) (notFace_of_selects (args := #[]) (mvT hZ (ww hw 25 rfl))) (mvT hZ (ww hw 25 rfl)) (mvT hZ (ww hw 24 rfl)) (by decide) (backOf (W := 0) (rm4 l Z av0 hw [] b96 (2 : Int32) (3 : Int32) T100.heap n0 SZ100 QP100 QN100) hZ (ww hw 26 rfl) (ww hw 4 rfl) (by decide) (by decide)) q101a q101c (g := (mkF m 191 #[.val (.int p0), .val (.int p1), .val (.int p2), .val (.int p3), .val (.int p4), .val (.int p5), .val (.int (3 : Int32)), .val (.int (1 : Int32)), .val (.int rr), .val (.int (1 : Int32)), .val (.ref b89), .val (.ref b96), .val (.int (1 : Int32)), .val (.ref rd100), .val (.int (3 : Int32)), .val (.int (0 : Int32)), .unset, .val (.int (1 : Int32))] [(.ref b96)])) rfl (by rw [hml]; rfl) (Steps.refl _) (argsL := []) (rest := []) (lenOf pd_3 rfl) rfl (Nat.le_refl _) (dd at_191) (fun _ _ => ⟨rfl, rfl, (by decide : 3 + 0 ≤ _), (by decide : 11 + 0 ≤ _)⟩)
        dsimp only [Pt.U, Pt.locs, Pt.cells, Pt.slots, Q_rm4] at X101 l101 y101 z101 st101 hQ101
        subst l101 y101 z101
        rw [show (fHM b96 (2 : Int32) (3 : Int32)) = (1 : Int32) from (by unfold fHM; rw [if_pos (by decide : (2 : Int32) < (3 : Int32))]; try decide)] at hQ101
        obtain ⟨rfl, N101q, e101⟩ := hQ101
        have N101 := Fr.app N100 N101q
        refine Gz.tr st101 ?_
        refine Gz.iconst 195 (1 : Int32) X101 hx (dd at_194) rfl rfl ?_
        refine Gz.iload 197 X101 hx (dd at_195) rfl rfl ?_
        refine Gz.iaddV 198 (2 : Int32) X101 hx (dd at_197) rfl rfl ?_
        refine Gz.iload 200 X101 hx (dd at_198) rfl rfl ?_
        refine Gz.icmpNo 203 X101 hx (dd at_200) (tlt (by decide : (2 : Int32) < (3 : Int32))).2.1 rfl ?_
        refine Gz.iconst 204 (1 : Int32) X101 hx (dd at_203) rfl rfl ?_
        refine Gz.goto 208 X101 hx (dd at_204) (by decide) (by decide) ?_
        refine Gz.icmpNo 211 X101 hx (dd at_208) (teq (by decide : (1 : Int32) = (1 : Int32))).2 rfl ?_
        refine Gz.iconst 212 (1 : Int32) X101 hx (dd at_211) rfl rfl ?_
        refine Gz.goto 216 X101 hx (dd at_212) (by decide) (by decide) ?_
        refine Gz.istore 218 #[.val (.int p0), .val (.int p1), .val (.int p2), .val (.int p3), .val (.int p4), .val (.int p5), .val (.int (3 : Int32)), .val (.int (1 : Int32)), .val (.int rr), .val (.int (1 : Int32)), .val (.ref b89), .val (.ref b96), .val (.int (1 : Int32)), .val (.ref rd100), .val (.int (3 : Int32)), .val (.int (0 : Int32)), .unset, .val (.int (1 : Int32))] X101 hx (dd at_216) rfl rfl ?_
        refine Gz.iload 220 X101 hx (dd at_218) rfl rfl ?_
        refine Gz.istore 222 #[.val (.int p0), .val (.int p1), .val (.int p2), .val (.int p3), .val (.int p4), .val (.int p5), .val (.int (3 : Int32)), .val (.int (1 : Int32)), .val (.int rr), .val (.int (1 : Int32)), .val (.ref b89), .val (.ref b96), .val (.int (1 : Int32)), .val (.ref rd100), .val (.int (1 : Int32)), .val (.int (0 : Int32)), .unset, .val (.int (1 : Int32))] X101 hx (dd at_220) rfl rfl ?_
        refine Gz.iconst 223 (1 : Int32) X101 hx (dd at_222) rfl rfl ?_
        refine Gz.istore 225 #[.val (.int p0), .val (.int p1), .val (.int p2), .val (.int p3), .val (.int p4), .val (.int p5), .val (.int (3 : Int32)), .val (.int (1 : Int32)), .val (.int rr), .val (.int (1 : Int32)), .val (.ref b89), .val (.ref b96), .val (.int (1 : Int32)), .val (.ref rd100), .val (.int (1 : Int32)), .val (.int (0 : Int32)), .val (.int (1 : Int32)), .val (.int (1 : Int32))] X101 hx (dd at_223) rfl rfl ?_
        refine Gz.goto 240 X101 hx (dd at_225) (by decide) (by decide) ?_
        exact sg_3_1_1 (.val (.int p0)) (.val (.int p1)) (.val (.int p2)) (.val (.int p3)) (.val (.int p4)) (.val (.int p5)) (.val (.int (3 : Int32))) (.val (.int (1 : Int32))) rr (.val (.int (1 : Int32))) (.val (.ref b89)) (.val (.ref b96)) rd100 (.val (.int (1 : Int32))) b89 k89 ((p2 &&& (127 : Int32)).toInt8.toInt32) ((p3 &&& (127 : Int32)).toInt8.toInt32) n0 X101 hx hZ hw hby hml hown hret hlk e101 N101 SZ100 RE100 RB100 RP100 RN100 gr100 f100_Vb89 ne_b89_rd100 ((own_7 _) : ¬ (((p2 &&& (127 : Int32)).toInt8.toInt32) < (0 : Int32))) ((own_7 _) : ¬ (((p3 &&& (127 : Int32)).toInt8.toInt32) < (0 : Int32)))
      · rw [hs75]
        refine Gz.i2bV 48 (2 : Int32) X0 hx (dd at_47) rfl rfl ?_
        refine Gz.goto 53 X0 hx (dd at_48) (by decide) (by decide) ?_
        refine Gz.istore 55 #[.val (.int p0), .val (.int p1), .val (.int p2), .val (.int p3), .val (.int p4), .val (.int p5), .val (.int (3 : Int32)), .val (.int (1 : Int32)), .val (.int rr), .val (.int (2 : Int32)), .unset, .unset, .unset, .unset, .unset, .unset, .unset, .unset] X0 hx (dd at_53) rfl rfl ?_
        refine Gz.iload 57 X0 hx (dd at_55) rfl rfl ?_
        obtain ⟨T102, h102, k102, X102, e102, E102, A102, Q102, st102⟩ := newPE X0 hx hZ (ww hw 1 rfl) e0 (g := (mkF m 57 #[.val (.int p0), .val (.int p1), .val (.int p2), .val (.int p3), .val (.int p4), .val (.int p5), .val (.int (3 : Int32)), .val (.int (1 : Int32)), .val (.int rr), .val (.int (2 : Int32)), .unset, .unset, .unset, .unset, .unset, .unset, .unset, .unset] [(.int (3 : Int32))])) rfl (dd at_57) rfl (by decide) (cap := 3) (by decide) (by decide) (by decide) (by decide) (ad := "[B") rfl
        obtain ⟨b102, g102⟩ : ∃ z, z = h0.size := ⟨_, rfl⟩
        rw [← g102] at A102 Q102 st102
        have g_b102 : n0 ≤ b102 := Nat.le_trans Z0 (Nat.le_of_eq g102.symm)
        have SZ102 : n0 ≤ h102.size := Nat.le_trans Z0 E102.1
        have f102_S_st_MESSAGE := Sta.ext E102 S_st_MESSAGE
        have V102 : Arv Z h102 b102 k102 .byte (3 : Int32) [(.int (0 : Int32)), (.int (0 : Int32)), (.int (0 : Int32))] (.int (0 : Int32)) := (Arv.new A102 (by decide)).pad (pad_rep [] (.int (0 : Int32)) 3)
        refine Gz.st st102 ?_
        refine Gz.astore 61 #[.val (.int p0), .val (.int p1), .val (.int p2), .val (.int p3), .val (.int p4), .val (.int p5), .val (.int (3 : Int32)), .val (.int (1 : Int32)), .val (.int rr), .val (.int (2 : Int32)), .val (.ref b102), .unset, .unset, .unset, .unset, .unset, .unset, .unset] X102 hx (dd at_59) rfl rfl rfl ?_
        refine Gz.iload 63 X102 hx (dd at_61) rfl rfl ?_
        refine Gz.ifNo 66 X102 hx (dd at_63) ((if0 _ _).trans (tlt (by decide : (0 : Int32) < (3 : Int32))).2.2.2) rfl ?_
        refine Gz.aload 68 X102 hx (dd at_66) rfl rfl rfl ?_
        refine Gz.iconst 69 (0 : Int32) X102 hx (dd at_68) rfl rfl ?_
        refine Gz.iload 71 X102 hx (dd at_69) rfl rfl ?_
        obtain ⟨c103, A103, q103, S103, N103, H103, G103⟩ := id V102
        have hin103 : ¬ ((0 : Int32) < 0 ∨ c103.slots.size ≤ ((0 : Int32)).toNatClampNeg) := inb_of S103 ⟨by decide, by decide⟩
        refine Gz.stB 72 X102 hx hZ (dd at_71) e102 A103 hin103 rfl fun T104 h104 X104 e104 W104 => ?_
        have V104 := Arv.set A103 q103 S103 N103 H103 G103 (fits_nar_byte _) W104 0 rfl (Nat.le_of_ble_eq_true rfl)
        replace V104 : Arv Z h104 b102 k102 .byte (3 : Int32) [(.int (2 : Int32)), (.int (0 : Int32)), (.int (0 : Int32))] (.int (0 : Int32)) := V104
        have f104_S_st_MESSAGE := Sta.wr W104 f102_S_st_MESSAGE
        have f104_Eb102 := Exa.wr W104 Q102
        have N104 := Fr.snoc X104 N0 g_b102
        have SZ104 : n0 ≤ h104.size := Nat.le_trans SZ102 (Keep.of_wr W104).1
        refine Gz.iload 74 X104 hx (dd at_72) rfl rfl ?_
        refine Gz.iconst 75 (1 : Int32) X104 hx (dd at_74) rfl rfl ?_
        refine Gz.icmpNo 78 X104 hx (dd at_75) (tlt (by decide : (1 : Int32) < (3 : Int32))).2.2.2 rfl ?_
        refine Gz.aload 80 X104 hx (dd at_78) rfl rfl rfl ?_
        refine Gz.iconst 81 (1 : Int32) X104 hx (dd at_80) rfl rfl ?_
        refine Gz.iloadN 82 X104 hx (dd at_81) rfl rfl ?_
        refine Gz.bipush 84 (127 : Int32) X104 hx (dd at_82) rfl rfl ?_
        refine Gz.iand 85 X104 hx (dd at_84) rfl ?_
        refine Gz.i2b 86 X104 hx (dd at_85) rfl ?_
        obtain ⟨c105, A105, q105, S105, N105, H105, G105⟩ := id V104
        have hin105 : ¬ ((1 : Int32) < 0 ∨ c105.slots.size ≤ ((1 : Int32)).toNatClampNeg) := inb_of S105 ⟨by decide, by decide⟩
        refine Gz.stB 87 X104 hx hZ (dd at_86) e104 A105 hin105 rfl fun T106 h106 X106 e106 W106 => ?_
        rw [own_nb] at W106
        have V106 := Arv.set A105 q105 S105 N105 H105 G105 (fits_nar_byte _) W106 1 rfl (Nat.le_of_ble_eq_true rfl)
        replace V106 : Arv Z h106 b102 k102 .byte (3 : Int32) [(.int (2 : Int32)), (.int ((p2 &&& (127 : Int32)).toInt8.toInt32)), (.int (0 : Int32))] (.int (0 : Int32)) := V106
        have f106_S_st_MESSAGE := Sta.wr W106 f104_S_st_MESSAGE
        have f106_Eb102 := Exa.wr W106 f104_Eb102
        have N106 := Fr.snoc X106 N104 g_b102
        have SZ106 : n0 ≤ h106.size := Nat.le_trans SZ104 (Keep.of_wr W106).1
        refine Gz.iload 89 X106 hx (dd at_87) rfl rfl ?_
        refine Gz.iconst 90 (2 : Int32) X106 hx (dd at_89) rfl rfl ?_
        refine Gz.icmpNo 93 X106 hx (dd at_90) (tlt (by decide : (2 : Int32) < (3 : Int32))).2.2.2 rfl ?_
        refine Gz.aload 95 X106 hx (dd at_93) rfl rfl rfl ?_
        refine Gz.iconst 96 (2 : Int32) X106 hx (dd at_95) rfl rfl ?_
        refine Gz.iloadN 97 X106 hx (dd at_96) rfl rfl ?_
        refine Gz.bipush 99 (127 : Int32) X106 hx (dd at_97) rfl rfl ?_
        refine Gz.iand 100 X106 hx (dd at_99) rfl ?_
        refine Gz.i2b 101 X106 hx (dd at_100) rfl ?_
        obtain ⟨c107, A107, q107, S107, N107, H107, G107⟩ := id V106
        have hin107 : ¬ ((2 : Int32) < 0 ∨ c107.slots.size ≤ ((2 : Int32)).toNatClampNeg) := inb_of S107 ⟨by decide, by decide⟩
        refine Gz.stB 102 X106 hx hZ (dd at_101) e106 A107 hin107 rfl fun T108 h108 X108 e108 W108 => ?_
        rw [own_nb] at W108
        have V108 := Arv.set A107 q107 S107 N107 H107 G107 (fits_nar_byte _) W108 2 rfl (Nat.le_of_ble_eq_true rfl)
        replace V108 : Arv Z h108 b102 k102 .byte (3 : Int32) [(.int (2 : Int32)), (.int ((p2 &&& (127 : Int32)).toInt8.toInt32)), (.int ((p3 &&& (127 : Int32)).toInt8.toInt32))] (.int (0 : Int32)) := V108
        have f108_S_st_MESSAGE := Sta.wr W108 f106_S_st_MESSAGE
        have f108_Eb102 := Exa.wr W108 f106_Eb102
        have N108 := Fr.snoc X108 N106 g_b102
        have SZ108 : n0 ≤ h108.size := Nat.le_trans SZ106 (Keep.of_wr W108).1
        refine Gz.iload 104 X108 hx (dd at_102) rfl rfl ?_
        refine Gz.iconst 105 (3 : Int32) X108 hx (dd at_104) rfl rfl ?_
        refine Gz.icmpYes 118 X108 hx (dd at_105) (flt (by decide : ¬ ((3 : Int32) < (3 : Int32)))).2.2.2 (by decide) (by decide) ?_
        obtain ⟨T109, h109, X109, e109, E109, A109, D109, -, st109⟩ := newO X108 hx hZ hown (ww hw 2 rfl) (ww hw 3 rfl) (ww hw 4 rfl) e108 (g := (mkF m 118 #[.val (.int p0), .val (.int p1), .val (.int p2), .val (.int p3), .val (.int p4), .val (.int p5), .val (.int (3 : Int32)), .val (.int (1 : Int32)), .val (.int rr), .val (.int (2 : Int32)), .val (.ref b102), .unset, .unset, .unset, .unset, .unset, .unset, .unset] [])) rfl (dd at_118) (by decide) (by decide)
        obtain ⟨b109, g109⟩ : ∃ z, z = h108.size := ⟨_, rfl⟩
        rw [← g109] at A109 D109 st109
        have ne_b102_b109 : b102 ≠ b109 := Nat.ne_of_lt (Nat.lt_of_lt_of_le (f108_Eb102).lt (Nat.le_of_eq g109.symm))
        have g_b109 : n0 ≤ b109 := Nat.le_trans SZ108 (Nat.le_of_eq g109.symm)
        have SZ109 : n0 ≤ h109.size := Nat.le_trans SZ108 E109.1
        have f109_S_st_MESSAGE := Sta.ext E109 f108_S_st_MESSAGE
        have f109_Eb102 := Exa.ext E109 f108_Eb102
        have f109_Vb102 := Arv.ext V108 E109
        have F_bytes_b109 : Fld Z h109 b109 "com/example/bad_status/badstatus/model/ProtoReader" "bytes" "[B" .null := D109 (Or.inr (ww hw 15 rfl)) (ty := (.array .byte)) (by decide)
        have F_position_b109 : Fld Z h109 b109 "com/example/bad_status/badstatus/model/ProtoReader" "position" "I" (.int (0 : Int32)) := D109 (Or.inl (ww hw 17 rfl)) (ty := .int) (by decide)
        have F_end_b109 : Fld Z h109 b109 "com/example/bad_status/badstatus/model/ProtoReader" "end" "I" (.int (0 : Int32)) := D109 (Or.inr (ww hw 19 rfl)) (ty := .int) (by decide)
        have F_place_b109 : Fld Z h109 b109 "com/example/bad_status/badstatus/model/ProtoReader" "place" "Lcom/example/bad_status/badstatus/model/Place;" .null := D109 (Or.inr (ww hw 21 rfl)) (ty := (.object "com/example/bad_status/badstatus/model/Place")) (by decide)
        refine Gz.st st109 ?_
        refine Gz.dup 122 X109 hx (dd at_121) rfl rfl ?_
        refine Gz.aload 124 X109 hx (dd at_122) rfl rfl rfl ?_
        obtain ⟨_, _, ⟨T110, L110, k110, n110⟩, -, X110, ⟨Lc110, hQ110, l110, y110, z110⟩, st110⟩ := X109.specialBack hx (y := ym4) rfl hown (mvT hZ (ww hw 5 rfl)) (mvT hZ (ww hw 6 rfl)) (mvT hZ (ww hw 7 rfl)) (by decide) (backOf (W := 1) (rmI1_3 l Z av0 hw [] b109 b102 k102 (2 : Int32) ((p2 &&& (127 : Int32)).toInt8.toInt32) ((p3 &&& (127 : Int32)).toInt8.toInt32) h109 n0 SZ109 A109 F_bytes_b109 F_position_b109 F_end_b109 F_place_b109 g_b109 f109_Vb102 ne_b102_b109) hZ (ww hw 7 rfl) (ww hw 4 rfl) (by decide) (by decide)) (g := (mkF m 124 #[.val (.int p0), .val (.int p1), .val (.int p2), .val (.int p3), .val (.int p4), .val (.int p5), .val (.int (3 : Int32)), .val (.int (1 : Int32)), .val (.int rr), .val (.int (2 : Int32)), .val (.ref b102), .unset, .unset, .unset, .unset, .unset, .unset, .unset] [(.ref b102), (.ref b109), (.ref b109)])) rfl (by rw [hml]; rfl) (Steps.refl _) (a := b109) (argsL := [(.ref b102)]) (rest := [(.ref b109)]) (lenOf pd_4 rfl) rfl (Nat.le_refl _) (dd at_124) (fun _ _ => ⟨rfl, e109, (by decide : 2 + 0 ≤ _), (by decide : 7 + 0 ≤ _)⟩)
        dsimp only [Pt.U, Pt.locs, Pt.cells, Pt.slots, Q_rmI1_3] at X110 l110 y110 z110 st110 hQ110
        subst l110 y110 z110
        obtain ⟨rfl, N110q, K110q, QE110_0, QF110_0, QF110_1, QF110_2, QF110_3⟩ := hQ110
        have N110 := Fr.app N108 N110q
        have f110_S_st_MESSAGE := own_staK f109_S_st_MESSAGE K110q (allS (nst_of A109) all0)
        have f110_Eb102 := Exa.keep f109_Eb102 K110q
        have f110_Vb102 := Arv.keep f109_Vb102 K110q (ninS ne_b102_b109 nin0)
        have f110_Eb109 := Exa.keep A109 K110q
        have SZ110 := Nat.le_trans SZ109 K110q.1
        refine Gz.tr st110 ?_
        refine Gz.astore 129 #[.val (.int p0), .val (.int p1), .val (.int p2), .val (.int p3), .val (.int p4), .val (.int p5), .val (.int (3 : Int32)), .val (.int (1 : Int32)), .val (.int rr), .val (.int (2 : Int32)), .val (.ref b102), .val (.ref b109), .unset, .unset, .unset, .unset, .unset, .unset] X110 hx (dd at_127) rfl rfl rfl ?_
        refine Gz.aload 131 X110 hx (dd at_129) rfl rfl rfl ?_
        obtain ⟨cq111, kq111, q111a, q111b, q111c⟩ := isOf hZ rfl QE110_0
        obtain ⟨_, _, ⟨T111, L111, k111, n111⟩, -, X111, ⟨Lc111, hQ111, l111, y111, z111⟩, st111⟩ := X110.virtualBack hx (y := ym3) (z := ym3) hown (mvT hZ (ww hw 22 rfl)) (mvT hZ (ww hw 23 rfl)) (notFace_of_selects (args := #[]) (mvT hZ (ww hw 25 rfl))) (mvT hZ (ww hw 25 rfl)) (mvT hZ (ww hw 24 rfl)) (by decide) (backOf (W := 0) (rm4 l Z av0 hw [] b109 (0 : Int32) (3 : Int32) T110.heap n0 SZ110 QF110_1 QF110_2) hZ (ww hw 26 rfl) (ww hw 4 rfl) (by decide) (by decide)) q111a q111c (g := (mkF m 131 #[.val (.int p0), .val (.int p1), .val (.int p2), .val (.int p3), .val (.int p4), .val (.int p5), .val (.int (3 : Int32)), .val (.int (1 : Int32)), .val (.int rr), .val (.int (2 : Int32)), .val (.ref b102), .val (.ref b109), .unset, .unset, .unset, .unset, .unset, .unset] [(.ref b109)])) rfl (by rw [hml]; rfl) (Steps.refl _) (argsL := []) (rest := []) (lenOf pd_3 rfl) rfl (Nat.le_refl _) (dd at_131) (fun _ _ => ⟨rfl, rfl, (by decide : 2 + 0 ≤ _), (by decide : 7 + 0 ≤ _)⟩)
        dsimp only [Pt.U, Pt.locs, Pt.cells, Pt.slots, Q_rm4] at X111 l111 y111 z111 st111 hQ111
        subst l111 y111 z111
        rw [show (fHM b109 (0 : Int32) (3 : Int32)) = (1 : Int32) from (by unfold fHM; rw [if_pos (by decide : (0 : Int32) < (3 : Int32))]; try decide)] at hQ111
        obtain ⟨rfl, N111q, e111⟩ := hQ111
        have N111 := Fr.app N110 N111q
        refine Gz.tr st111 ?_
        refine Gz.iload 136 X111 hx (dd at_134) rfl rfl ?_
        refine Gz.ifNo 139 X111 hx (dd at_136) ((if0 _ _).trans (tlt (by decide : (0 : Int32) < (3 : Int32))).2.2.2) rfl ?_
        refine Gz.iconst 140 (1 : Int32) X111 hx (dd at_139) rfl rfl ?_
        refine Gz.goto 144 X111 hx (dd at_140) (by decide) (by decide) ?_
        refine Gz.icmpNo 147 X111 hx (dd at_144) (teq (by decide : (1 : Int32) = (1 : Int32))).2 rfl ?_
        refine Gz.iconst 148 (1 : Int32) X111 hx (dd at_147) rfl rfl ?_
        refine Gz.goto 152 X111 hx (dd at_148) (by decide) (by decide) ?_
        refine Gz.istore 154 #[.val (.int p0), .val (.int p1), .val (.int p2), .val (.int p3), .val (.int p4), .val (.int p5), .val (.int (3 : Int32)), .val (.int (1 : Int32)), .val (.int rr), .val (.int (2 : Int32)), .val (.ref b102), .val (.ref b109), .val (.int (1 : Int32)), .unset, .unset, .unset, .unset, .unset] X111 hx (dd at_152) rfl rfl ?_
        refine Gz.aload 156 X111 hx (dd at_154) rfl rfl rfl ?_
        refine Gz.astore 158 #[.val (.int p0), .val (.int p1), .val (.int p2), .val (.int p3), .val (.int p4), .val (.int p5), .val (.int (3 : Int32)), .val (.int (1 : Int32)), .val (.int rr), .val (.int (2 : Int32)), .val (.ref b102), .val (.ref b109), .val (.int (1 : Int32)), .val (.ref b109), .unset, .unset, .unset, .unset] X111 hx (dd at_156) rfl rfl rfl ?_
        refine Gz.iload 160 X111 hx (dd at_158) rfl rfl ?_
        refine Gz.istore 162 #[.val (.int p0), .val (.int p1), .val (.int p2), .val (.int p3), .val (.int p4), .val (.int p5), .val (.int (3 : Int32)), .val (.int (1 : Int32)), .val (.int rr), .val (.int (2 : Int32)), .val (.ref b102), .val (.ref b109), .val (.int (1 : Int32)), .val (.ref b109), .val (.int (3 : Int32)), .unset, .unset, .unset] X111 hx (dd at_160) rfl rfl ?_
        refine Gz.iconst 163 (0 : Int32) X111 hx (dd at_162) rfl rfl ?_
        refine Gz.istore 165 #[.val (.int p0), .val (.int p1), .val (.int p2), .val (.int p3), .val (.int p4), .val (.int p5), .val (.int (3 : Int32)), .val (.int (1 : Int32)), .val (.int rr), .val (.int (2 : Int32)), .val (.ref b102), .val (.ref b109), .val (.int (1 : Int32)), .val (.ref b109), .val (.int (3 : Int32)), .val (.int (0 : Int32)), .unset, .unset] X111 hx (dd at_163) rfl rfl ?_
        refine Gz.iload 167 X111 hx (dd at_165) rfl rfl ?_
        refine Gz.ifNo 170 X111 hx (dd at_167) ((if0 _ _).trans (feq (by decide : ¬ ((1 : Int32) = (0 : Int32)))).1) rfl ?_
        refine Gz.iload 172 X111 hx (dd at_170) rfl rfl ?_
        refine Gz.istore 174 #[.val (.int p0), .val (.int p1), .val (.int p2), .val (.int p3), .val (.int p4), .val (.int p5), .val (.int (3 : Int32)), .val (.int (1 : Int32)), .val (.int rr), .val (.int (2 : Int32)), .val (.ref b102), .val (.ref b109), .val (.int (1 : Int32)), .val (.ref b109), .val (.int (3 : Int32)), .val (.int (0 : Int32)), .unset, .val (.int (2 : Int32))] X111 hx (dd at_172) rfl rfl ?_
        refine Gz.aload 176 X111 hx (dd at_174) rfl rfl rfl ?_
        refine Gz.getS 179 X111 hx hZ hown (dd at_176) (host := "") (Or.inl (ww hw 32 rfl)) Via.refl e111 f110_S_st_MESSAGE rfl fun T112 X112 e112 => ?_
        obtain ⟨cq113, kq113, q113a, q113b, q113c⟩ := isOf hZ e112 QE110_0
        obtain ⟨_, _, ⟨T113, L113, k113, n113⟩, -, X113, ⟨Lc113, hQ113, l113, y113, z113⟩, st113⟩ := X112.virtualBack hx (y := ym5) (z := ym5) hown (mvT hZ (ww hw 35 rfl)) (mvT hZ (ww hw 36 rfl)) (notFace_of_selects (args := #[]) (mvT hZ (ww hw 38 rfl))) (mvT hZ (ww hw 38 rfl)) (mvT hZ (ww hw 37 rfl)) (by decide) (backOf (W := 0) (rmM32 l Z av0 hw [] b109 st_MESSAGE b102 k102 ((p2 &&& (127 : Int32)).toInt8.toInt32) ((p3 &&& (127 : Int32)).toInt8.toInt32) T110.heap n0 SZ110 QE110_0 QF110_0 QF110_1 QF110_2 g_b109 f110_Vb102 ne_b102_b109) hZ (ww hw 39 rfl) (ww hw 4 rfl) (by decide) (by decide)) q113a q113c (g := (mkF m 179 #[.val (.int p0), .val (.int p1), .val (.int p2), .val (.int p3), .val (.int p4), .val (.int p5), .val (.int (3 : Int32)), .val (.int (1 : Int32)), .val (.int rr), .val (.int (2 : Int32)), .val (.ref b102), .val (.ref b109), .val (.int (1 : Int32)), .val (.ref b109), .val (.int (3 : Int32)), .val (.int (0 : Int32)), .unset, .val (.int (2 : Int32))] [(.ref st_MESSAGE), (.ref b109)])) rfl (by rw [hml]; rfl) (Steps.refl _) (argsL := [(.ref st_MESSAGE)]) (rest := []) (lenOf pd_5 rfl) rfl (Nat.le_refl _) (dd at_179) (fun _ _ => ⟨rfl, e112, (by decide : 2 + 1 ≤ _), (by decide : 7 + 4 ≤ _)⟩)
        dsimp only [Pt.U, Pt.locs, Pt.cells, Pt.slots, Q_rmM32] at X113 l113 y113 z113 st113 hQ113
        subst l113 y113 z113
        obtain ⟨rd113, rfl, N113q, K113q, QE113, QB113, QP113, QN113, gr113, szr113, RE113, RB113, RP113, RN113⟩ := hQ113
        have N113 := Fr.app N111 N113q
        have ne_b102_rd113 : b102 ≠ rd113 := Nat.ne_of_lt (Nat.lt_of_lt_of_le (f110_Vb102).lt szr113)
        have ne_b109_rd113 : b109 ≠ rd113 := Nat.ne_of_lt (Nat.lt_of_lt_of_le (QF110_3).lt szr113)
        have f113_S_st_MESSAGE := own_staK f110_S_st_MESSAGE K113q (allS (nst_of QE110_0) all0)
        have f113_Eb102 := Exa.keep f110_Eb102 K113q
        have f113_Vb102 := Arv.keep f110_Vb102 K113q (ninS ne_b102_b109 nin0)
        have f113_E_b109 := Exa.keep QE110_0 K113q
        have SZ113 := Nat.le_trans SZ110 K113q.1
        refine Gz.tr st113 ?_
        refine Gz.astore 184 #[.val (.int p0), .val (.int p1), .val (.int p2), .val (.int p3), .val (.int p4), .val (.int p5), .val (.int (3 : Int32)), .val (.int (1 : Int32)), .val (.int rr), .val (.int (2 : Int32)), .val (.ref b102), .val (.ref b109), .val (.int (1 : Int32)), .val (.ref rd113), .val (.int (3 : Int32)), .val (.int (0 : Int32)), .unset, .val (.int (2 : Int32))] X113 hx (dd at_182) rfl rfl rfl ?_
        refine Gz.iload 186 X113 hx (dd at_184) rfl rfl ?_
        refine Gz.ifNo 189 X113 hx (dd at_186) ((if0 _ _).trans (feq (by decide : ¬ ((1 : Int32) = (0 : Int32)))).1) rfl ?_
        refine Gz.aload 191 X113 hx (dd at_189) rfl rfl rfl ?_
        obtain ⟨cq114, kq114, q114a, q114b, q114c⟩ := isOf hZ rfl QE113
        obtain ⟨_, _, ⟨T114, L114, k114, n114⟩, -, X114, ⟨Lc114, hQ114, l114, y114, z114⟩, st114⟩ := X113.virtualBack hx (y := ym3) (z := ym3) hown (mvT hZ (ww hw 22 rfl)) (mvT hZ (ww hw 23 rfl)) (notFace_of_selects (args := #[]) (mvT hZ (ww hw 25 rfl))) (mvT hZ (ww hw 25 rfl)) (mvT hZ (ww hw 24 rfl)) (by decide) (backOf (W := 0) (rm4 l Z av0 hw [] b109 (3 : Int32) (3 : Int32) T113.heap n0 SZ113 QP113 QN113) hZ (ww hw 26 rfl) (ww hw 4 rfl) (by decide) (by decide)) q114a q114c (g := (mkF m 191 #[.val (.int p0), .val (.int p1), .val (.int p2), .val (.int p3), .val (.int p4), .val (.int p5), .val (.int (3 : Int32)), .val (.int (1 : Int32)), .val (.int rr), .val (.int (2 : Int32)), .val (.ref b102), .val (.ref b109), .val (.int (1 : Int32)), .val (.ref rd113), .val (.int (3 : Int32)), .val (.int (0 : Int32)), .unset, .val (.int (2 : Int32))] [(.ref b109)])) rfl (by rw [hml]; rfl) (Steps.refl _) (argsL := []) (rest := []) (lenOf pd_3 rfl) rfl (Nat.le_refl _) (dd at_191) (fun _ _ => ⟨rfl, rfl, (by decide : 3 + 0 ≤ _), (by decide : 11 + 0 ≤ _)⟩)
        dsimp only [Pt.U, Pt.locs, Pt.cells, Pt.slots, Q_rm4] at X114 l114 y114 z114 st114 hQ114
        subst l114 y114 z114
        rw [show (fHM b109 (3 : Int32) (3 : Int32)) = (0 : Int32) from (by unfold fHM; rw [if_neg (by decide : ¬ ((3 : Int32) < (3 : Int32)))]; try decide)] at hQ114
        obtain ⟨rfl, N114q, e114⟩ := hQ114
        have N114 := Fr.app N113 N114q
        refine Gz.tr st114 ?_
        refine Gz.iconst 195 (1 : Int32) X114 hx (dd at_194) rfl rfl ?_
        refine Gz.iload 197 X114 hx (dd at_195) rfl rfl ?_
        refine Gz.iaddV 198 (3 : Int32) X114 hx (dd at_197) rfl rfl ?_
        refine Gz.iload 200 X114 hx (dd at_198) rfl rfl ?_
        refine Gz.icmpYes 207 X114 hx (dd at_200) (flt (by decide : ¬ ((3 : Int32) < (3 : Int32)))).2.1 (by decide) (by decide) ?_
        refine Gz.iconst 208 (0 : Int32) X114 hx (dd at_207) rfl rfl ?_
        refine Gz.icmpNo 211 X114 hx (dd at_208) (teq (by decide : (0 : Int32) = (0 : Int32))).2 rfl ?_
        refine Gz.iconst 212 (1 : Int32) X114 hx (dd at_211) rfl rfl ?_
        refine Gz.goto 216 X114 hx (dd at_212) (by decide) (by decide) ?_
        refine Gz.istore 218 #[.val (.int p0), .val (.int p1), .val (.int p2), .val (.int p3), .val (.int p4), .val (.int p5), .val (.int (3 : Int32)), .val (.int (1 : Int32)), .val (.int rr), .val (.int (2 : Int32)), .val (.ref b102), .val (.ref b109), .val (.int (1 : Int32)), .val (.ref rd113), .val (.int (3 : Int32)), .val (.int (0 : Int32)), .unset, .val (.int (2 : Int32))] X114 hx (dd at_216) rfl rfl ?_
        refine Gz.iload 220 X114 hx (dd at_218) rfl rfl ?_
        refine Gz.istore 222 #[.val (.int p0), .val (.int p1), .val (.int p2), .val (.int p3), .val (.int p4), .val (.int p5), .val (.int (3 : Int32)), .val (.int (1 : Int32)), .val (.int rr), .val (.int (2 : Int32)), .val (.ref b102), .val (.ref b109), .val (.int (1 : Int32)), .val (.ref rd113), .val (.int (2 : Int32)), .val (.int (0 : Int32)), .unset, .val (.int (2 : Int32))] X114 hx (dd at_220) rfl rfl ?_
        refine Gz.iconst 223 (1 : Int32) X114 hx (dd at_222) rfl rfl ?_
        refine Gz.istore 225 #[.val (.int p0), .val (.int p1), .val (.int p2), .val (.int p3), .val (.int p4), .val (.int p5), .val (.int (3 : Int32)), .val (.int (1 : Int32)), .val (.int rr), .val (.int (2 : Int32)), .val (.ref b102), .val (.ref b109), .val (.int (1 : Int32)), .val (.ref rd113), .val (.int (2 : Int32)), .val (.int (0 : Int32)), .val (.int (1 : Int32)), .val (.int (2 : Int32))] X114 hx (dd at_223) rfl rfl ?_
        refine Gz.goto 240 X114 hx (dd at_225) (by decide) (by decide) ?_
        exact sg_3_2_1 (.val (.int p0)) (.val (.int p1)) (.val (.int p2)) (.val (.int p3)) (.val (.int p4)) (.val (.int p5)) (.val (.int (3 : Int32))) (.val (.int (1 : Int32))) rr (.val (.int (2 : Int32))) (.val (.ref b102)) (.val (.ref b109)) rd113 (.val (.int (2 : Int32))) b102 k102 ((p2 &&& (127 : Int32)).toInt8.toInt32) ((p3 &&& (127 : Int32)).toInt8.toInt32) n0 X114 hx hZ hw hby hml hown hret hlk e114 N114 SZ113 RE113 RB113 RP113 RN113 gr113 f113_Vb102 ne_b102_rd113 ((own_7 _) : ¬ (((p2 &&& (127 : Int32)).toInt8.toInt32) < (0 : Int32))) ((own_7 _) : ¬ (((p3 &&& (127 : Int32)).toInt8.toInt32) < (0 : Int32)))
  · rw [hs1]
    refine Gz.istore 8 #[.val (.int p0), .val (.int p1), .val (.int p2), .val (.int p3), .val (.int p4), .val (.int p5), .val (.int (4 : Int32)), .unset, .unset, .unset, .unset, .unset, .unset, .unset, .unset, .unset, .unset, .unset] X0 hx (dd at_6) rfl rfl ?_
    refine Gz.iload 10 X0 hx (dd at_8) rfl rfl ?_
    refine Gz.iconst 11 (2 : Int32) X0 hx (dd at_10) rfl rfl ?_
    refine Gz.iushr 12 X0 hx (dd at_11) rfl ?_
    refine Gz.iconst 13 (1 : Int32) X0 hx (dd at_12) rfl rfl ?_
    refine Gz.iand 14 X0 hx (dd at_13) rfl ?_
    by_cases hc115 : (((p5.toUInt32 >>> ((2 : Int32) &&& 31).toUInt32).toInt32) &&& (1 : Int32)) = (0 : Int32)
    · refine Gz.ifYes 26 X0 hx (dd at_14) ((if0 _ _).trans (teq hc115).1) (by decide) (by decide) ?_
      refine Gz.iconst 27 (0 : Int32) X0 hx (dd at_26) rfl rfl ?_
      refine Gz.istore 29 #[.val (.int p0), .val (.int p1), .val (.int p2), .val (.int p3), .val (.int p4), .val (.int p5), .val (.int (4 : Int32)), .val (.int (0 : Int32)), .unset, .unset, .unset, .unset, .unset, .unset, .unset, .unset, .unset, .unset] X0 hx (dd at_27) rfl rfl ?_
      refine Gz.iload 31 X0 hx (dd at_29) rfl rfl ?_
      refine Gz.iconst 32 (3 : Int32) X0 hx (dd at_31) rfl rfl ?_
      refine Gz.iand 33 X0 hx (dd at_32) rfl ?_
      show Gz p e below s _ _ _ (s₁.setTop (mkF m 33 #[.val (.int p0), .val (.int p1), .val (.int p2), .val (.int p3), .val (.int p4), .val (.int p5), .val (.int (4 : Int32)), .val (.int (0 : Int32)), .unset, .unset, .unset, .unset, .unset, .unset, .unset, .unset, .unset, .unset] [(.int (p5 &&& (3 : Int32)))]))
      obtain ⟨rr, q_rr⟩ : ∃ z, (p5 &&& (3 : Int32)) = z := ⟨_, rfl⟩
      rw [q_rr]
      show Gz p e below s _ _ _ (s₁.setTop (mkF m 33 #[.val (.int p0), .val (.int p1), .val (.int p2), .val (.int p3), .val (.int p4), .val (.int p5), .val (.int (4 : Int32)), .val (.int (0 : Int32)), .unset, .unset, .unset, .unset, .unset, .unset, .unset, .unset, .unset, .unset] [(.int rr)]))
      refine Gz.istore 35 #[.val (.int p0), .val (.int p1), .val (.int p2), .val (.int p3), .val (.int p4), .val (.int p5), .val (.int (4 : Int32)), .val (.int (0 : Int32)), .val (.int rr), .unset, .unset, .unset, .unset, .unset, .unset, .unset, .unset, .unset] X0 hx (dd at_33) rfl rfl ?_
      refine Gz.iload 37 X0 hx (dd at_35) rfl rfl ?_
      refine Gz.ifYes 51 X0 hx (dd at_37) ((if0 _ _).trans (teq (by decide : (0 : Int32) = (0 : Int32))).1) (by decide) (by decide) ?_
      refine Gz.iloadN 52 X0 hx (dd at_51) rfl rfl ?_
      refine Gz.i2b 53 X0 hx (dd at_52) rfl ?_
      refine Gz.istore 55 #[.val (.int p0), .val (.int p1), .val (.int p2), .val (.int p3), .val (.int p4), .val (.int p5), .val (.int (4 : Int32)), .val (.int (0 : Int32)), .val (.int rr), .val (.int (p1.toInt8.toInt32)), .unset, .unset, .unset, .unset, .unset, .unset, .unset, .unset] X0 hx (dd at_53) rfl rfl ?_
      refine Gz.iload 57 X0 hx (dd at_55) rfl rfl ?_
      obtain ⟨T116, h116, k116, X116, e116, E116, A116, Q116, st116⟩ := newPE X0 hx hZ (ww hw 1 rfl) e0 (g := (mkF m 57 #[.val (.int p0), .val (.int p1), .val (.int p2), .val (.int p3), .val (.int p4), .val (.int p5), .val (.int (4 : Int32)), .val (.int (0 : Int32)), .val (.int rr), .val (.int (p1.toInt8.toInt32)), .unset, .unset, .unset, .unset, .unset, .unset, .unset, .unset] [(.int (4 : Int32))])) rfl (dd at_57) rfl (by decide) (cap := 4) (by decide) (by decide) (by decide) (by decide) (ad := "[B") rfl
      obtain ⟨b116, g116⟩ : ∃ z, z = h0.size := ⟨_, rfl⟩
      rw [← g116] at A116 Q116 st116
      have g_b116 : n0 ≤ b116 := Nat.le_trans Z0 (Nat.le_of_eq g116.symm)
      have SZ116 : n0 ≤ h116.size := Nat.le_trans Z0 E116.1
      have f116_S_st_MESSAGE := Sta.ext E116 S_st_MESSAGE
      have V116 : Arv Z h116 b116 k116 .byte (4 : Int32) [(.int (0 : Int32)), (.int (0 : Int32)), (.int (0 : Int32)), (.int (0 : Int32))] (.int (0 : Int32)) := (Arv.new A116 (by decide)).pad (pad_rep [] (.int (0 : Int32)) 4)
      refine Gz.st st116 ?_
      refine Gz.astore 61 #[.val (.int p0), .val (.int p1), .val (.int p2), .val (.int p3), .val (.int p4), .val (.int p5), .val (.int (4 : Int32)), .val (.int (0 : Int32)), .val (.int rr), .val (.int (p1.toInt8.toInt32)), .val (.ref b116), .unset, .unset, .unset, .unset, .unset, .unset, .unset] X116 hx (dd at_59) rfl rfl rfl ?_
      refine Gz.iload 63 X116 hx (dd at_61) rfl rfl ?_
      refine Gz.ifNo 66 X116 hx (dd at_63) ((if0 _ _).trans (tlt (by decide : (0 : Int32) < (4 : Int32))).2.2.2) rfl ?_
      refine Gz.aload 68 X116 hx (dd at_66) rfl rfl rfl ?_
      refine Gz.iconst 69 (0 : Int32) X116 hx (dd at_68) rfl rfl ?_
      refine Gz.iload 71 X116 hx (dd at_69) rfl rfl ?_
      obtain ⟨c117, A117, q117, S117, N117, H117, G117⟩ := id V116
      have hin117 : ¬ ((0 : Int32) < 0 ∨ c117.slots.size ≤ ((0 : Int32)).toNatClampNeg) := inb_of S117 ⟨by decide, by decide⟩
      refine Gz.stB 72 X116 hx hZ (dd at_71) e116 A117 hin117 rfl fun T118 h118 X118 e118 W118 => ?_
      rw [own_nb] at W118
      have V118 := Arv.set A117 q117 S117 N117 H117 G117 (fits_nar_byte _) W118 0 rfl (Nat.le_of_ble_eq_true rfl)
      replace V118 : Arv Z h118 b116 k116 .byte (4 : Int32) [(.int (p1.toInt8.toInt32)), (.int (0 : Int32)), (.int (0 : Int32)), (.int (0 : Int32))] (.int (0 : Int32)) := V118
      have f118_S_st_MESSAGE := Sta.wr W118 f116_S_st_MESSAGE
      have f118_Eb116 := Exa.wr W118 Q116
      have N118 := Fr.snoc X118 N0 g_b116
      have SZ118 : n0 ≤ h118.size := Nat.le_trans SZ116 (Keep.of_wr W118).1
      refine Gz.iload 74 X118 hx (dd at_72) rfl rfl ?_
      refine Gz.iconst 75 (1 : Int32) X118 hx (dd at_74) rfl rfl ?_
      refine Gz.icmpNo 78 X118 hx (dd at_75) (tlt (by decide : (1 : Int32) < (4 : Int32))).2.2.2 rfl ?_
      refine Gz.aload 80 X118 hx (dd at_78) rfl rfl rfl ?_
      refine Gz.iconst 81 (1 : Int32) X118 hx (dd at_80) rfl rfl ?_
      refine Gz.iloadN 82 X118 hx (dd at_81) rfl rfl ?_
      refine Gz.bipush 84 (127 : Int32) X118 hx (dd at_82) rfl rfl ?_
      refine Gz.iand 85 X118 hx (dd at_84) rfl ?_
      refine Gz.i2b 86 X118 hx (dd at_85) rfl ?_
      obtain ⟨c119, A119, q119, S119, N119, H119, G119⟩ := id V118
      have hin119 : ¬ ((1 : Int32) < 0 ∨ c119.slots.size ≤ ((1 : Int32)).toNatClampNeg) := inb_of S119 ⟨by decide, by decide⟩
      refine Gz.stB 87 X118 hx hZ (dd at_86) e118 A119 hin119 rfl fun T120 h120 X120 e120 W120 => ?_
      rw [own_nb] at W120
      have V120 := Arv.set A119 q119 S119 N119 H119 G119 (fits_nar_byte _) W120 1 rfl (Nat.le_of_ble_eq_true rfl)
      replace V120 : Arv Z h120 b116 k116 .byte (4 : Int32) [(.int (p1.toInt8.toInt32)), (.int ((p2 &&& (127 : Int32)).toInt8.toInt32)), (.int (0 : Int32)), (.int (0 : Int32))] (.int (0 : Int32)) := V120
      have f120_S_st_MESSAGE := Sta.wr W120 f118_S_st_MESSAGE
      have f120_Eb116 := Exa.wr W120 f118_Eb116
      have N120 := Fr.snoc X120 N118 g_b116
      have SZ120 : n0 ≤ h120.size := Nat.le_trans SZ118 (Keep.of_wr W120).1
      refine Gz.iload 89 X120 hx (dd at_87) rfl rfl ?_
      refine Gz.iconst 90 (2 : Int32) X120 hx (dd at_89) rfl rfl ?_
      refine Gz.icmpNo 93 X120 hx (dd at_90) (tlt (by decide : (2 : Int32) < (4 : Int32))).2.2.2 rfl ?_
      refine Gz.aload 95 X120 hx (dd at_93) rfl rfl rfl ?_
      refine Gz.iconst 96 (2 : Int32) X120 hx (dd at_95) rfl rfl ?_
      refine Gz.iloadN 97 X120 hx (dd at_96) rfl rfl ?_
      refine Gz.bipush 99 (127 : Int32) X120 hx (dd at_97) rfl rfl ?_
      refine Gz.iand 100 X120 hx (dd at_99) rfl ?_
      refine Gz.i2b 101 X120 hx (dd at_100) rfl ?_
      obtain ⟨c121, A121, q121, S121, N121, H121, G121⟩ := id V120
      have hin121 : ¬ ((2 : Int32) < 0 ∨ c121.slots.size ≤ ((2 : Int32)).toNatClampNeg) := inb_of S121 ⟨by decide, by decide⟩
      refine Gz.stB 102 X120 hx hZ (dd at_101) e120 A121 hin121 rfl fun T122 h122 X122 e122 W122 => ?_
      rw [own_nb] at W122
      have V122 := Arv.set A121 q121 S121 N121 H121 G121 (fits_nar_byte _) W122 2 rfl (Nat.le_of_ble_eq_true rfl)
      replace V122 : Arv Z h122 b116 k116 .byte (4 : Int32) [(.int (p1.toInt8.toInt32)), (.int ((p2 &&& (127 : Int32)).toInt8.toInt32)), (.int ((p3 &&& (127 : Int32)).toInt8.toInt32)), (.int (0 : Int32))] (.int (0 : Int32)) := V122
      have f122_S_st_MESSAGE := Sta.wr W122 f120_S_st_MESSAGE
      have f122_Eb116 := Exa.wr W122 f120_Eb116
      have N122 := Fr.snoc X122 N120 g_b116
      have SZ122 : n0 ≤ h122.size := Nat.le_trans SZ120 (Keep.of_wr W122).1
      refine Gz.iload 104 X122 hx (dd at_102) rfl rfl ?_
      refine Gz.iconst 105 (3 : Int32) X122 hx (dd at_104) rfl rfl ?_
      refine Gz.icmpNo 108 X122 hx (dd at_105) (tlt (by decide : (3 : Int32) < (4 : Int32))).2.2.2 rfl ?_
      refine Gz.aload 110 X122 hx (dd at_108) rfl rfl rfl ?_
      refine Gz.iconst 111 (3 : Int32) X122 hx (dd at_110) rfl rfl ?_
      refine Gz.iload 113 X122 hx (dd at_111) rfl rfl ?_
      refine Gz.bipush 115 (127 : Int32) X122 hx (dd at_113) rfl rfl ?_
      refine Gz.iand 116 X122 hx (dd at_115) rfl ?_
      refine Gz.i2b 117 X122 hx (dd at_116) rfl ?_
      obtain ⟨c123, A123, q123, S123, N123, H123, G123⟩ := id V122
      have hin123 : ¬ ((3 : Int32) < 0 ∨ c123.slots.size ≤ ((3 : Int32)).toNatClampNeg) := inb_of S123 ⟨by decide, by decide⟩
      refine Gz.stB 118 X122 hx hZ (dd at_117) e122 A123 hin123 rfl fun T124 h124 X124 e124 W124 => ?_
      rw [own_nb] at W124
      have V124 := Arv.set A123 q123 S123 N123 H123 G123 (fits_nar_byte _) W124 3 rfl (Nat.le_of_ble_eq_true rfl)
      replace V124 : Arv Z h124 b116 k116 .byte (4 : Int32) [(.int (p1.toInt8.toInt32)), (.int ((p2 &&& (127 : Int32)).toInt8.toInt32)), (.int ((p3 &&& (127 : Int32)).toInt8.toInt32)), (.int ((p4 &&& (127 : Int32)).toInt8.toInt32))] (.int (0 : Int32)) := V124
      have f124_S_st_MESSAGE := Sta.wr W124 f122_S_st_MESSAGE
      have f124_Eb116 := Exa.wr W124 f122_Eb116
      have N124 := Fr.snoc X124 N122 g_b116
      have SZ124 : n0 ≤ h124.size := Nat.le_trans SZ122 (Keep.of_wr W124).1
      obtain ⟨T125, h125, X125, e125, E125, A125, D125, -, st125⟩ := newO X124 hx hZ hown (ww hw 2 rfl) (ww hw 3 rfl) (ww hw 4 rfl) e124 (g := (mkF m 118 #[.val (.int p0), .val (.int p1), .val (.int p2), .val (.int p3), .val (.int p4), .val (.int p5), .val (.int (4 : Int32)), .val (.int (0 : Int32)), .val (.int rr), .val (.int (p1.toInt8.toInt32)), .val (.ref b116), .unset, .unset, .unset, .unset, .unset, .unset, .unset] [])) rfl (dd at_118) (by decide) (by decide)
      obtain ⟨b125, g125⟩ : ∃ z, z = h124.size := ⟨_, rfl⟩
      rw [← g125] at A125 D125 st125
      have ne_b116_b125 : b116 ≠ b125 := Nat.ne_of_lt (Nat.lt_of_lt_of_le (f124_Eb116).lt (Nat.le_of_eq g125.symm))
      have g_b125 : n0 ≤ b125 := Nat.le_trans SZ124 (Nat.le_of_eq g125.symm)
      have SZ125 : n0 ≤ h125.size := Nat.le_trans SZ124 E125.1
      have f125_S_st_MESSAGE := Sta.ext E125 f124_S_st_MESSAGE
      have f125_Eb116 := Exa.ext E125 f124_Eb116
      have f125_Vb116 := Arv.ext V124 E125
      have F_bytes_b125 : Fld Z h125 b125 "com/example/bad_status/badstatus/model/ProtoReader" "bytes" "[B" .null := D125 (Or.inr (ww hw 15 rfl)) (ty := (.array .byte)) (by decide)
      have F_position_b125 : Fld Z h125 b125 "com/example/bad_status/badstatus/model/ProtoReader" "position" "I" (.int (0 : Int32)) := D125 (Or.inl (ww hw 17 rfl)) (ty := .int) (by decide)
      have F_end_b125 : Fld Z h125 b125 "com/example/bad_status/badstatus/model/ProtoReader" "end" "I" (.int (0 : Int32)) := D125 (Or.inr (ww hw 19 rfl)) (ty := .int) (by decide)
      have F_place_b125 : Fld Z h125 b125 "com/example/bad_status/badstatus/model/ProtoReader" "place" "Lcom/example/bad_status/badstatus/model/Place;" .null := D125 (Or.inr (ww hw 21 rfl)) (ty := (.object "com/example/bad_status/badstatus/model/Place")) (by decide)
      refine Gz.st st125 ?_
      refine Gz.dup 122 X125 hx (dd at_121) rfl rfl ?_
      refine Gz.aload 124 X125 hx (dd at_122) rfl rfl rfl ?_
      obtain ⟨_, _, ⟨T126, L126, k126, n126⟩, -, X126, ⟨Lc126, hQ126, l126, y126, z126⟩, st126⟩ := X125.specialBack hx (y := ym4) rfl hown (mvT hZ (ww hw 5 rfl)) (mvT hZ (ww hw 6 rfl)) (mvT hZ (ww hw 7 rfl)) (by decide) (backOf (W := 1) (rmI1_4 l Z av0 hw [] b125 b116 k116 (p1.toInt8.toInt32) ((p2 &&& (127 : Int32)).toInt8.toInt32) ((p3 &&& (127 : Int32)).toInt8.toInt32) ((p4 &&& (127 : Int32)).toInt8.toInt32) h125 n0 SZ125 A125 F_bytes_b125 F_position_b125 F_end_b125 F_place_b125 g_b125 f125_Vb116 ne_b116_b125) hZ (ww hw 7 rfl) (ww hw 4 rfl) (by decide) (by decide)) (g := (mkF m 124 #[.val (.int p0), .val (.int p1), .val (.int p2), .val (.int p3), .val (.int p4), .val (.int p5), .val (.int (4 : Int32)), .val (.int (0 : Int32)), .val (.int rr), .val (.int (p1.toInt8.toInt32)), .val (.ref b116), .unset, .unset, .unset, .unset, .unset, .unset, .unset] [(.ref b116), (.ref b125), (.ref b125)])) rfl (by rw [hml]; rfl) (Steps.refl _) (a := b125) (argsL := [(.ref b116)]) (rest := [(.ref b125)]) (lenOf pd_4 rfl) rfl (Nat.le_refl _) (dd at_124) (fun _ _ => ⟨rfl, e125, (by decide : 2 + 0 ≤ _), (by decide : 8 + 0 ≤ _)⟩)
      dsimp only [Pt.U, Pt.locs, Pt.cells, Pt.slots, Q_rmI1_4] at X126 l126 y126 z126 st126 hQ126
      subst l126 y126 z126
      obtain ⟨rfl, N126q, K126q, QE126_0, QF126_0, QF126_1, QF126_2, QF126_3⟩ := hQ126
      have N126 := Fr.app N124 N126q
      have f126_S_st_MESSAGE := own_staK f125_S_st_MESSAGE K126q (allS (nst_of A125) all0)
      have f126_Eb116 := Exa.keep f125_Eb116 K126q
      have f126_Vb116 := Arv.keep f125_Vb116 K126q (ninS ne_b116_b125 nin0)
      have f126_Eb125 := Exa.keep A125 K126q
      have SZ126 := Nat.le_trans SZ125 K126q.1
      refine Gz.tr st126 ?_
      refine Gz.astore 129 #[.val (.int p0), .val (.int p1), .val (.int p2), .val (.int p3), .val (.int p4), .val (.int p5), .val (.int (4 : Int32)), .val (.int (0 : Int32)), .val (.int rr), .val (.int (p1.toInt8.toInt32)), .val (.ref b116), .val (.ref b125), .unset, .unset, .unset, .unset, .unset, .unset] X126 hx (dd at_127) rfl rfl rfl ?_
      refine Gz.aload 131 X126 hx (dd at_129) rfl rfl rfl ?_
      obtain ⟨cq127, kq127, q127a, q127b, q127c⟩ := isOf hZ rfl QE126_0
      obtain ⟨_, _, ⟨T127, L127, k127, n127⟩, -, X127, ⟨Lc127, hQ127, l127, y127, z127⟩, st127⟩ := X126.virtualBack hx (y := ym3) (z := ym3) hown (mvT hZ (ww hw 22 rfl)) (mvT hZ (ww hw 23 rfl)) (notFace_of_selects (args := #[]) (mvT hZ (ww hw 25 rfl))) (mvT hZ (ww hw 25 rfl)) (mvT hZ (ww hw 24 rfl)) (by decide) (backOf (W := 0) (rm4 l Z av0 hw [] b125 (0 : Int32) (4 : Int32) T126.heap n0 SZ126 QF126_1 QF126_2) hZ (ww hw 26 rfl) (ww hw 4 rfl) (by decide) (by decide)) q127a q127c (g := (mkF m 131 #[.val (.int p0), .val (.int p1), .val (.int p2), .val (.int p3), .val (.int p4), .val (.int p5), .val (.int (4 : Int32)), .val (.int (0 : Int32)), .val (.int rr), .val (.int (p1.toInt8.toInt32)), .val (.ref b116), .val (.ref b125), .unset, .unset, .unset, .unset, .unset, .unset] [(.ref b125)])) rfl (by rw [hml]; rfl) (Steps.refl _) (argsL := []) (rest := []) (lenOf pd_3 rfl) rfl (Nat.le_refl _) (dd at_131) (fun _ _ => ⟨rfl, rfl, (by decide : 2 + 0 ≤ _), (by decide : 8 + 0 ≤ _)⟩)
      dsimp only [Pt.U, Pt.locs, Pt.cells, Pt.slots, Q_rm4] at X127 l127 y127 z127 st127 hQ127
      subst l127 y127 z127
      rw [show (fHM b125 (0 : Int32) (4 : Int32)) = (1 : Int32) from (by unfold fHM; rw [if_pos (by decide : (0 : Int32) < (4 : Int32))]; try decide)] at hQ127
      obtain ⟨rfl, N127q, e127⟩ := hQ127
      have N127 := Fr.app N126 N127q
      refine Gz.tr st127 ?_
      refine Gz.iload 136 X127 hx (dd at_134) rfl rfl ?_
      refine Gz.ifNo 139 X127 hx (dd at_136) ((if0 _ _).trans (tlt (by decide : (0 : Int32) < (4 : Int32))).2.2.2) rfl ?_
      refine Gz.iconst 140 (1 : Int32) X127 hx (dd at_139) rfl rfl ?_
      refine Gz.goto 144 X127 hx (dd at_140) (by decide) (by decide) ?_
      refine Gz.icmpNo 147 X127 hx (dd at_144) (teq (by decide : (1 : Int32) = (1 : Int32))).2 rfl ?_
      refine Gz.iconst 148 (1 : Int32) X127 hx (dd at_147) rfl rfl ?_
      refine Gz.goto 152 X127 hx (dd at_148) (by decide) (by decide) ?_
      refine Gz.istore 154 #[.val (.int p0), .val (.int p1), .val (.int p2), .val (.int p3), .val (.int p4), .val (.int p5), .val (.int (4 : Int32)), .val (.int (0 : Int32)), .val (.int rr), .val (.int (p1.toInt8.toInt32)), .val (.ref b116), .val (.ref b125), .val (.int (1 : Int32)), .unset, .unset, .unset, .unset, .unset] X127 hx (dd at_152) rfl rfl ?_
      refine Gz.aload 156 X127 hx (dd at_154) rfl rfl rfl ?_
      refine Gz.astore 158 #[.val (.int p0), .val (.int p1), .val (.int p2), .val (.int p3), .val (.int p4), .val (.int p5), .val (.int (4 : Int32)), .val (.int (0 : Int32)), .val (.int rr), .val (.int (p1.toInt8.toInt32)), .val (.ref b116), .val (.ref b125), .val (.int (1 : Int32)), .val (.ref b125), .unset, .unset, .unset, .unset] X127 hx (dd at_156) rfl rfl rfl ?_
      refine Gz.iload 160 X127 hx (dd at_158) rfl rfl ?_
      refine Gz.istore 162 #[.val (.int p0), .val (.int p1), .val (.int p2), .val (.int p3), .val (.int p4), .val (.int p5), .val (.int (4 : Int32)), .val (.int (0 : Int32)), .val (.int rr), .val (.int (p1.toInt8.toInt32)), .val (.ref b116), .val (.ref b125), .val (.int (1 : Int32)), .val (.ref b125), .val (.int (4 : Int32)), .unset, .unset, .unset] X127 hx (dd at_160) rfl rfl ?_
      refine Gz.iconst 163 (0 : Int32) X127 hx (dd at_162) rfl rfl ?_
      refine Gz.istore 165 #[.val (.int p0), .val (.int p1), .val (.int p2), .val (.int p3), .val (.int p4), .val (.int p5), .val (.int (4 : Int32)), .val (.int (0 : Int32)), .val (.int rr), .val (.int (p1.toInt8.toInt32)), .val (.ref b116), .val (.ref b125), .val (.int (1 : Int32)), .val (.ref b125), .val (.int (4 : Int32)), .val (.int (0 : Int32)), .unset, .unset] X127 hx (dd at_163) rfl rfl ?_
      refine Gz.iload 167 X127 hx (dd at_165) rfl rfl ?_
      refine Gz.ifYes 228 X127 hx (dd at_167) ((if0 _ _).trans (teq (by decide : (0 : Int32) = (0 : Int32))).1) (by decide) (by decide) ?_
      refine Gz.iload 230 X127 hx (dd at_228) rfl rfl ?_
      by_cases hc128 : (p1.toInt8.toInt32) < (0 : Int32)
      · refine Gz.ifYes 237 X127 hx (dd at_230) ((if0 _ _).trans (tlt hc128).1) (by decide) (by decide) ?_
        refine Gz.iconst 238 (2 : Int32) X127 hx (dd at_237) rfl rfl ?_
        refine Gz.istore 240 #[.val (.int p0), .val (.int p1), .val (.int p2), .val (.int p3), .val (.int p4), .val (.int p5), .val (.int (4 : Int32)), .val (.int (0 : Int32)), .val (.int rr), .val (.int (p1.toInt8.toInt32)), .val (.ref b116), .val (.ref b125), .val (.int (1 : Int32)), .val (.ref b125), .val (.int (4 : Int32)), .val (.int (0 : Int32)), .val (.int (2 : Int32)), .unset] X127 hx (dd at_238) rfl rfl ?_
        exact sg_4_x_2 (.val (.int p0)) (.val (.int p1)) (.val (.int p2)) (.val (.int p3)) (.val (.int p4)) (.val (.int p5)) (.val (.int (4 : Int32))) (.val (.int (0 : Int32))) rr (.val (.int (p1.toInt8.toInt32))) (.val (.ref b116)) (.val (.ref b125)) b125 (.unset) b116 k116 (p1.toInt8.toInt32) ((p2 &&& (127 : Int32)).toInt8.toInt32) ((p3 &&& (127 : Int32)).toInt8.toInt32) ((p4 &&& (127 : Int32)).toInt8.toInt32) n0 X127 hx hZ hw hby hml hown hret hlk e127 N127 SZ126 QE126_0 QF126_0 QF126_1 QF126_2 g_b125 f126_Vb116 ne_b116_b125 ((own_7 _) : ¬ (((p2 &&& (127 : Int32)).toInt8.toInt32) < (0 : Int32))) ((own_7 _) : ¬ (((p3 &&& (127 : Int32)).toInt8.toInt32) < (0 : Int32))) ((own_7 _) : ¬ (((p4 &&& (127 : Int32)).toInt8.toInt32) < (0 : Int32))) hc128
      · refine Gz.ifNo 233 X127 hx (dd at_230) ((if0 _ _).trans (flt hc128).1) rfl ?_
        refine Gz.iconst 234 (1 : Int32) X127 hx (dd at_233) rfl rfl ?_
        refine Gz.goto 238 X127 hx (dd at_234) (by decide) (by decide) ?_
        refine Gz.istore 240 #[.val (.int p0), .val (.int p1), .val (.int p2), .val (.int p3), .val (.int p4), .val (.int p5), .val (.int (4 : Int32)), .val (.int (0 : Int32)), .val (.int rr), .val (.int (p1.toInt8.toInt32)), .val (.ref b116), .val (.ref b125), .val (.int (1 : Int32)), .val (.ref b125), .val (.int (4 : Int32)), .val (.int (0 : Int32)), .val (.int (1 : Int32)), .unset] X127 hx (dd at_238) rfl rfl ?_
        exact sg_4_x_1 (.val (.int p0)) (.val (.int p1)) (.val (.int p2)) (.val (.int p3)) (.val (.int p4)) (.val (.int p5)) (.val (.int (4 : Int32))) (.val (.int (0 : Int32))) rr (.val (.int (p1.toInt8.toInt32))) (.val (.ref b116)) (.val (.ref b125)) b125 (.unset) b116 k116 (p1.toInt8.toInt32) ((p2 &&& (127 : Int32)).toInt8.toInt32) ((p3 &&& (127 : Int32)).toInt8.toInt32) ((p4 &&& (127 : Int32)).toInt8.toInt32) n0 X127 hx hZ hw hby hml hown hret hlk e127 N127 SZ126 QE126_0 QF126_0 QF126_1 QF126_2 g_b125 f126_Vb116 ne_b116_b125 ((own_7 _) : ¬ (((p2 &&& (127 : Int32)).toInt8.toInt32) < (0 : Int32))) ((own_7 _) : ¬ (((p3 &&& (127 : Int32)).toInt8.toInt32) < (0 : Int32))) ((own_7 _) : ¬ (((p4 &&& (127 : Int32)).toInt8.toInt32) < (0 : Int32))) hc128
    · refine Gz.ifNo 17 X0 hx (dd at_14) ((if0 _ _).trans (feq hc115).1) rfl ?_
      refine Gz.iload 19 X0 hx (dd at_17) rfl rfl ?_
      refine Gz.ifNo 22 X0 hx (dd at_19) ((if0 _ _).trans (tlt (by decide : (0 : Int32) < (4 : Int32))).2.2.2) rfl ?_
      refine Gz.iconst 23 (1 : Int32) X0 hx (dd at_22) rfl rfl ?_
      refine Gz.goto 27 X0 hx (dd at_23) (by decide) (by decide) ?_
      refine Gz.istore 29 #[.val (.int p0), .val (.int p1), .val (.int p2), .val (.int p3), .val (.int p4), .val (.int p5), .val (.int (4 : Int32)), .val (.int (1 : Int32)), .unset, .unset, .unset, .unset, .unset, .unset, .unset, .unset, .unset, .unset] X0 hx (dd at_27) rfl rfl ?_
      refine Gz.iload 31 X0 hx (dd at_29) rfl rfl ?_
      refine Gz.iconst 32 (3 : Int32) X0 hx (dd at_31) rfl rfl ?_
      refine Gz.iand 33 X0 hx (dd at_32) rfl ?_
      show Gz p e below s _ _ _ (s₁.setTop (mkF m 33 #[.val (.int p0), .val (.int p1), .val (.int p2), .val (.int p3), .val (.int p4), .val (.int p5), .val (.int (4 : Int32)), .val (.int (1 : Int32)), .unset, .unset, .unset, .unset, .unset, .unset, .unset, .unset, .unset, .unset] [(.int (p5 &&& (3 : Int32)))]))
      obtain ⟨rr, q_rr⟩ : ∃ z, (p5 &&& (3 : Int32)) = z := ⟨_, rfl⟩
      rw [q_rr]
      show Gz p e below s _ _ _ (s₁.setTop (mkF m 33 #[.val (.int p0), .val (.int p1), .val (.int p2), .val (.int p3), .val (.int p4), .val (.int p5), .val (.int (4 : Int32)), .val (.int (1 : Int32)), .unset, .unset, .unset, .unset, .unset, .unset, .unset, .unset, .unset, .unset] [(.int rr)]))
      refine Gz.istore 35 #[.val (.int p0), .val (.int p1), .val (.int p2), .val (.int p3), .val (.int p4), .val (.int p5), .val (.int (4 : Int32)), .val (.int (1 : Int32)), .val (.int rr), .unset, .unset, .unset, .unset, .unset, .unset, .unset, .unset, .unset] X0 hx (dd at_33) rfl rfl ?_
      refine Gz.iload 37 X0 hx (dd at_35) rfl rfl ?_
      refine Gz.ifNo 40 X0 hx (dd at_37) ((if0 _ _).trans (feq (by decide : ¬ ((1 : Int32) = (0 : Int32)))).1) rfl ?_
      refine Gz.iloadN 41 X0 hx (dd at_40) rfl rfl ?_
      refine Gz.ldcI 43 X0 hx (dd at_41) hown (mvT hZ (ww hw 0 rfl)) rfl ?_
      refine Gz.iand 44 X0 hx (dd at_43) rfl ?_
      refine Gz.iload 46 X0 hx (dd at_44) rfl rfl ?_
      refine Gz.irem 47 X0 hx (dd at_46) (by decide) rfl ?_
      show Gz p e below s _ _ _ (s₁.setTop (mkF m 47 #[.val (.int p0), .val (.int p1), .val (.int p2), .val (.int p3), .val (.int p4), .val (.int p5), .val (.int (4 : Int32)), .val (.int (1 : Int32)), .val (.int rr), .unset, .unset, .unset, .unset, .unset, .unset, .unset, .unset, .unset] [(.int ((p1 &&& (2147483647 : Int32)) % (4 : Int32)))]))
      rcases own_r4 p1 with hs129 | hs129 | hs129 | hs129
      · rw [hs129]
        refine Gz.i2bV 48 (0 : Int32) X0 hx (dd at_47) rfl rfl ?_
        refine Gz.goto 53 X0 hx (dd at_48) (by decide) (by decide) ?_
        refine Gz.istore 55 #[.val (.int p0), .val (.int p1), .val (.int p2), .val (.int p3), .val (.int p4), .val (.int p5), .val (.int (4 : Int32)), .val (.int (1 : Int32)), .val (.int rr), .val (.int (0 : Int32)), .unset, .unset, .unset, .unset, .unset, .unset, .unset, .unset] X0 hx (dd at_53) rfl rfl ?_
        refine Gz.iload 57 X0 hx (dd at_55) rfl rfl ?_
        obtain ⟨T130, h130, k130, X130, e130, E130, A130, Q130, st130⟩ := newPE X0 hx hZ (ww hw 1 rfl) e0 (g := (mkF m 57 #[.val (.int p0), .val (.int p1), .val (.int p2), .val (.int p3), .val (.int p4), .val (.int p5), .val (.int (4 : Int32)), .val (.int (1 : Int32)), .val (.int rr), .val (.int (0 : Int32)), .unset, .unset, .unset, .unset, .unset, .unset, .unset, .unset] [(.int (4 : Int32))])) rfl (dd at_57) rfl (by decide) (cap := 4) (by decide) (by decide) (by decide) (by decide) (ad := "[B") rfl
        obtain ⟨b130, g130⟩ : ∃ z, z = h0.size := ⟨_, rfl⟩
        rw [← g130] at A130 Q130 st130
        have g_b130 : n0 ≤ b130 := Nat.le_trans Z0 (Nat.le_of_eq g130.symm)
        have SZ130 : n0 ≤ h130.size := Nat.le_trans Z0 E130.1
        have f130_S_st_MESSAGE := Sta.ext E130 S_st_MESSAGE
        have V130 : Arv Z h130 b130 k130 .byte (4 : Int32) [(.int (0 : Int32)), (.int (0 : Int32)), (.int (0 : Int32)), (.int (0 : Int32))] (.int (0 : Int32)) := (Arv.new A130 (by decide)).pad (pad_rep [] (.int (0 : Int32)) 4)
        refine Gz.st st130 ?_
        refine Gz.astore 61 #[.val (.int p0), .val (.int p1), .val (.int p2), .val (.int p3), .val (.int p4), .val (.int p5), .val (.int (4 : Int32)), .val (.int (1 : Int32)), .val (.int rr), .val (.int (0 : Int32)), .val (.ref b130), .unset, .unset, .unset, .unset, .unset, .unset, .unset] X130 hx (dd at_59) rfl rfl rfl ?_
        refine Gz.iload 63 X130 hx (dd at_61) rfl rfl ?_
        refine Gz.ifNo 66 X130 hx (dd at_63) ((if0 _ _).trans (tlt (by decide : (0 : Int32) < (4 : Int32))).2.2.2) rfl ?_
        refine Gz.aload 68 X130 hx (dd at_66) rfl rfl rfl ?_
        refine Gz.iconst 69 (0 : Int32) X130 hx (dd at_68) rfl rfl ?_
        refine Gz.iload 71 X130 hx (dd at_69) rfl rfl ?_
        obtain ⟨c131, A131, q131, S131, N131, H131, G131⟩ := id V130
        have hin131 : ¬ ((0 : Int32) < 0 ∨ c131.slots.size ≤ ((0 : Int32)).toNatClampNeg) := inb_of S131 ⟨by decide, by decide⟩
        refine Gz.stB 72 X130 hx hZ (dd at_71) e130 A131 hin131 rfl fun T132 h132 X132 e132 W132 => ?_
        have V132 := Arv.set A131 q131 S131 N131 H131 G131 (fits_nar_byte _) W132 0 rfl (Nat.le_of_ble_eq_true rfl)
        replace V132 : Arv Z h132 b130 k130 .byte (4 : Int32) [(.int (0 : Int32)), (.int (0 : Int32)), (.int (0 : Int32)), (.int (0 : Int32))] (.int (0 : Int32)) := V132
        have f132_S_st_MESSAGE := Sta.wr W132 f130_S_st_MESSAGE
        have f132_Eb130 := Exa.wr W132 Q130
        have N132 := Fr.snoc X132 N0 g_b130
        have SZ132 : n0 ≤ h132.size := Nat.le_trans SZ130 (Keep.of_wr W132).1
        refine Gz.iload 74 X132 hx (dd at_72) rfl rfl ?_
        refine Gz.iconst 75 (1 : Int32) X132 hx (dd at_74) rfl rfl ?_
        refine Gz.icmpNo 78 X132 hx (dd at_75) (tlt (by decide : (1 : Int32) < (4 : Int32))).2.2.2 rfl ?_
        refine Gz.aload 80 X132 hx (dd at_78) rfl rfl rfl ?_
        refine Gz.iconst 81 (1 : Int32) X132 hx (dd at_80) rfl rfl ?_
        refine Gz.iloadN 82 X132 hx (dd at_81) rfl rfl ?_
        refine Gz.bipush 84 (127 : Int32) X132 hx (dd at_82) rfl rfl ?_
        refine Gz.iand 85 X132 hx (dd at_84) rfl ?_
        refine Gz.i2b 86 X132 hx (dd at_85) rfl ?_
        obtain ⟨c133, A133, q133, S133, N133, H133, G133⟩ := id V132
        have hin133 : ¬ ((1 : Int32) < 0 ∨ c133.slots.size ≤ ((1 : Int32)).toNatClampNeg) := inb_of S133 ⟨by decide, by decide⟩
        refine Gz.stB 87 X132 hx hZ (dd at_86) e132 A133 hin133 rfl fun T134 h134 X134 e134 W134 => ?_
        rw [own_nb] at W134
        have V134 := Arv.set A133 q133 S133 N133 H133 G133 (fits_nar_byte _) W134 1 rfl (Nat.le_of_ble_eq_true rfl)
        replace V134 : Arv Z h134 b130 k130 .byte (4 : Int32) [(.int (0 : Int32)), (.int ((p2 &&& (127 : Int32)).toInt8.toInt32)), (.int (0 : Int32)), (.int (0 : Int32))] (.int (0 : Int32)) := V134
        have f134_S_st_MESSAGE := Sta.wr W134 f132_S_st_MESSAGE
        have f134_Eb130 := Exa.wr W134 f132_Eb130
        have N134 := Fr.snoc X134 N132 g_b130
        have SZ134 : n0 ≤ h134.size := Nat.le_trans SZ132 (Keep.of_wr W134).1
        refine Gz.iload 89 X134 hx (dd at_87) rfl rfl ?_
        refine Gz.iconst 90 (2 : Int32) X134 hx (dd at_89) rfl rfl ?_
        refine Gz.icmpNo 93 X134 hx (dd at_90) (tlt (by decide : (2 : Int32) < (4 : Int32))).2.2.2 rfl ?_
        refine Gz.aload 95 X134 hx (dd at_93) rfl rfl rfl ?_
        refine Gz.iconst 96 (2 : Int32) X134 hx (dd at_95) rfl rfl ?_
        refine Gz.iloadN 97 X134 hx (dd at_96) rfl rfl ?_
        refine Gz.bipush 99 (127 : Int32) X134 hx (dd at_97) rfl rfl ?_
        refine Gz.iand 100 X134 hx (dd at_99) rfl ?_
        refine Gz.i2b 101 X134 hx (dd at_100) rfl ?_
        obtain ⟨c135, A135, q135, S135, N135, H135, G135⟩ := id V134
        have hin135 : ¬ ((2 : Int32) < 0 ∨ c135.slots.size ≤ ((2 : Int32)).toNatClampNeg) := inb_of S135 ⟨by decide, by decide⟩
        refine Gz.stB 102 X134 hx hZ (dd at_101) e134 A135 hin135 rfl fun T136 h136 X136 e136 W136 => ?_
        rw [own_nb] at W136
        have V136 := Arv.set A135 q135 S135 N135 H135 G135 (fits_nar_byte _) W136 2 rfl (Nat.le_of_ble_eq_true rfl)
        replace V136 : Arv Z h136 b130 k130 .byte (4 : Int32) [(.int (0 : Int32)), (.int ((p2 &&& (127 : Int32)).toInt8.toInt32)), (.int ((p3 &&& (127 : Int32)).toInt8.toInt32)), (.int (0 : Int32))] (.int (0 : Int32)) := V136
        have f136_S_st_MESSAGE := Sta.wr W136 f134_S_st_MESSAGE
        have f136_Eb130 := Exa.wr W136 f134_Eb130
        have N136 := Fr.snoc X136 N134 g_b130
        have SZ136 : n0 ≤ h136.size := Nat.le_trans SZ134 (Keep.of_wr W136).1
        refine Gz.iload 104 X136 hx (dd at_102) rfl rfl ?_
        refine Gz.iconst 105 (3 : Int32) X136 hx (dd at_104) rfl rfl ?_
        refine Gz.icmpNo 108 X136 hx (dd at_105) (tlt (by decide : (3 : Int32) < (4 : Int32))).2.2.2 rfl ?_
        refine Gz.aload 110 X136 hx (dd at_108) rfl rfl rfl ?_
        refine Gz.iconst 111 (3 : Int32) X136 hx (dd at_110) rfl rfl ?_
        refine Gz.iload 113 X136 hx (dd at_111) rfl rfl ?_
        refine Gz.bipush 115 (127 : Int32) X136 hx (dd at_113) rfl rfl ?_
        refine Gz.iand 116 X136 hx (dd at_115) rfl ?_
        refine Gz.i2b 117 X136 hx (dd at_116) rfl ?_
        obtain ⟨c137, A137, q137, S137, N137, H137, G137⟩ := id V136
        have hin137 : ¬ ((3 : Int32) < 0 ∨ c137.slots.size ≤ ((3 : Int32)).toNatClampNeg) := inb_of S137 ⟨by decide, by decide⟩
        refine Gz.stB 118 X136 hx hZ (dd at_117) e136 A137 hin137 rfl fun T138 h138 X138 e138 W138 => ?_
        rw [own_nb] at W138
        have V138 := Arv.set A137 q137 S137 N137 H137 G137 (fits_nar_byte _) W138 3 rfl (Nat.le_of_ble_eq_true rfl)
        replace V138 : Arv Z h138 b130 k130 .byte (4 : Int32) [(.int (0 : Int32)), (.int ((p2 &&& (127 : Int32)).toInt8.toInt32)), (.int ((p3 &&& (127 : Int32)).toInt8.toInt32)), (.int ((p4 &&& (127 : Int32)).toInt8.toInt32))] (.int (0 : Int32)) := V138
        have f138_S_st_MESSAGE := Sta.wr W138 f136_S_st_MESSAGE
        have f138_Eb130 := Exa.wr W138 f136_Eb130
        have N138 := Fr.snoc X138 N136 g_b130
        have SZ138 : n0 ≤ h138.size := Nat.le_trans SZ136 (Keep.of_wr W138).1
        obtain ⟨T139, h139, X139, e139, E139, A139, D139, -, st139⟩ := newO X138 hx hZ hown (ww hw 2 rfl) (ww hw 3 rfl) (ww hw 4 rfl) e138 (g := (mkF m 118 #[.val (.int p0), .val (.int p1), .val (.int p2), .val (.int p3), .val (.int p4), .val (.int p5), .val (.int (4 : Int32)), .val (.int (1 : Int32)), .val (.int rr), .val (.int (0 : Int32)), .val (.ref b130), .unset, .unset, .unset, .unset, .unset, .unset, .unset] [])) rfl (dd at_118) (by decide) (by decide)
        obtain ⟨b139, g139⟩ : ∃ z, z = h138.size := ⟨_, rfl⟩
        rw [← g139] at A139 D139 st139
        have ne_b130_b139 : b130 ≠ b139 := Nat.ne_of_lt (Nat.lt_of_lt_of_le (f138_Eb130).lt (Nat.le_of_eq g139.symm))
        have g_b139 : n0 ≤ b139 := Nat.le_trans SZ138 (Nat.le_of_eq g139.symm)
        have SZ139 : n0 ≤ h139.size := Nat.le_trans SZ138 E139.1
        have f139_S_st_MESSAGE := Sta.ext E139 f138_S_st_MESSAGE
        have f139_Eb130 := Exa.ext E139 f138_Eb130
        have f139_Vb130 := Arv.ext V138 E139
        have F_bytes_b139 : Fld Z h139 b139 "com/example/bad_status/badstatus/model/ProtoReader" "bytes" "[B" .null := D139 (Or.inr (ww hw 15 rfl)) (ty := (.array .byte)) (by decide)
        have F_position_b139 : Fld Z h139 b139 "com/example/bad_status/badstatus/model/ProtoReader" "position" "I" (.int (0 : Int32)) := D139 (Or.inl (ww hw 17 rfl)) (ty := .int) (by decide)
        have F_end_b139 : Fld Z h139 b139 "com/example/bad_status/badstatus/model/ProtoReader" "end" "I" (.int (0 : Int32)) := D139 (Or.inr (ww hw 19 rfl)) (ty := .int) (by decide)
        have F_place_b139 : Fld Z h139 b139 "com/example/bad_status/badstatus/model/ProtoReader" "place" "Lcom/example/bad_status/badstatus/model/Place;" .null := D139 (Or.inr (ww hw 21 rfl)) (ty := (.object "com/example/bad_status/badstatus/model/Place")) (by decide)
        refine Gz.st st139 ?_
        refine Gz.dup 122 X139 hx (dd at_121) rfl rfl ?_
        refine Gz.aload 124 X139 hx (dd at_122) rfl rfl rfl ?_
        obtain ⟨_, _, ⟨T140, L140, k140, n140⟩, -, X140, ⟨Lc140, hQ140, l140, y140, z140⟩, st140⟩ := X139.specialBack hx (y := ym4) rfl hown (mvT hZ (ww hw 5 rfl)) (mvT hZ (ww hw 6 rfl)) (mvT hZ (ww hw 7 rfl)) (by decide) (backOf (W := 1) (rmI1_4 l Z av0 hw [] b139 b130 k130 (0 : Int32) ((p2 &&& (127 : Int32)).toInt8.toInt32) ((p3 &&& (127 : Int32)).toInt8.toInt32) ((p4 &&& (127 : Int32)).toInt8.toInt32) h139 n0 SZ139 A139 F_bytes_b139 F_position_b139 F_end_b139 F_place_b139 g_b139 f139_Vb130 ne_b130_b139) hZ (ww hw 7 rfl) (ww hw 4 rfl) (by decide) (by decide)) (g := (mkF m 124 #[.val (.int p0), .val (.int p1), .val (.int p2), .val (.int p3), .val (.int p4), .val (.int p5), .val (.int (4 : Int32)), .val (.int (1 : Int32)), .val (.int rr), .val (.int (0 : Int32)), .val (.ref b130), .unset, .unset, .unset, .unset, .unset, .unset, .unset] [(.ref b130), (.ref b139), (.ref b139)])) rfl (by rw [hml]; rfl) (Steps.refl _) (a := b139) (argsL := [(.ref b130)]) (rest := [(.ref b139)]) (lenOf pd_4 rfl) rfl (Nat.le_refl _) (dd at_124) (fun _ _ => ⟨rfl, e139, (by decide : 2 + 0 ≤ _), (by decide : 8 + 0 ≤ _)⟩)
        dsimp only [Pt.U, Pt.locs, Pt.cells, Pt.slots, Q_rmI1_4] at X140 l140 y140 z140 st140 hQ140
        subst l140 y140 z140
        obtain ⟨rfl, N140q, K140q, QE140_0, QF140_0, QF140_1, QF140_2, QF140_3⟩ := hQ140
        have N140 := Fr.app N138 N140q
        have f140_S_st_MESSAGE := own_staK f139_S_st_MESSAGE K140q (allS (nst_of A139) all0)
        have f140_Eb130 := Exa.keep f139_Eb130 K140q
        have f140_Vb130 := Arv.keep f139_Vb130 K140q (ninS ne_b130_b139 nin0)
        have f140_Eb139 := Exa.keep A139 K140q
        have SZ140 := Nat.le_trans SZ139 K140q.1
        refine Gz.tr st140 ?_
        refine Gz.astore 129 #[.val (.int p0), .val (.int p1), .val (.int p2), .val (.int p3), .val (.int p4), .val (.int p5), .val (.int (4 : Int32)), .val (.int (1 : Int32)), .val (.int rr), .val (.int (0 : Int32)), .val (.ref b130), .val (.ref b139), .unset, .unset, .unset, .unset, .unset, .unset] X140 hx (dd at_127) rfl rfl rfl ?_
        refine Gz.aload 131 X140 hx (dd at_129) rfl rfl rfl ?_
        obtain ⟨cq141, kq141, q141a, q141b, q141c⟩ := isOf hZ rfl QE140_0
        obtain ⟨_, _, ⟨T141, L141, k141, n141⟩, -, X141, ⟨Lc141, hQ141, l141, y141, z141⟩, st141⟩ := X140.virtualBack hx (y := ym3) (z := ym3) hown (mvT hZ (ww hw 22 rfl)) (mvT hZ (ww hw 23 rfl)) (notFace_of_selects (args := #[]) (mvT hZ (ww hw 25 rfl))) (mvT hZ (ww hw 25 rfl)) (mvT hZ (ww hw 24 rfl)) (by decide) (backOf (W := 0) (rm4 l Z av0 hw [] b139 (0 : Int32) (4 : Int32) T140.heap n0 SZ140 QF140_1 QF140_2) hZ (ww hw 26 rfl) (ww hw 4 rfl) (by decide) (by decide)) q141a q141c (g := (mkF m 131 #[.val (.int p0), .val (.int p1), .val (.int p2), .val (.int p3), .val (.int p4), .val (.int p5), .val (.int (4 : Int32)), .val (.int (1 : Int32)), .val (.int rr), .val (.int (0 : Int32)), .val (.ref b130), .val (.ref b139), .unset, .unset, .unset, .unset, .unset, .unset] [(.ref b139)])) rfl (by rw [hml]; rfl) (Steps.refl _) (argsL := []) (rest := []) (lenOf pd_3 rfl) rfl (Nat.le_refl _) (dd at_131) (fun _ _ => ⟨rfl, rfl, (by decide : 2 + 0 ≤ _), (by decide : 8 + 0 ≤ _)⟩)
        dsimp only [Pt.U, Pt.locs, Pt.cells, Pt.slots, Q_rm4] at X141 l141 y141 z141 st141 hQ141
        subst l141 y141 z141
        rw [show (fHM b139 (0 : Int32) (4 : Int32)) = (1 : Int32) from (by unfold fHM; rw [if_pos (by decide : (0 : Int32) < (4 : Int32))]; try decide)] at hQ141
        obtain ⟨rfl, N141q, e141⟩ := hQ141
        have N141 := Fr.app N140 N141q
        refine Gz.tr st141 ?_
        refine Gz.iload 136 X141 hx (dd at_134) rfl rfl ?_
        refine Gz.ifNo 139 X141 hx (dd at_136) ((if0 _ _).trans (tlt (by decide : (0 : Int32) < (4 : Int32))).2.2.2) rfl ?_
        refine Gz.iconst 140 (1 : Int32) X141 hx (dd at_139) rfl rfl ?_
        refine Gz.goto 144 X141 hx (dd at_140) (by decide) (by decide) ?_
        refine Gz.icmpNo 147 X141 hx (dd at_144) (teq (by decide : (1 : Int32) = (1 : Int32))).2 rfl ?_
        refine Gz.iconst 148 (1 : Int32) X141 hx (dd at_147) rfl rfl ?_
        refine Gz.goto 152 X141 hx (dd at_148) (by decide) (by decide) ?_
        refine Gz.istore 154 #[.val (.int p0), .val (.int p1), .val (.int p2), .val (.int p3), .val (.int p4), .val (.int p5), .val (.int (4 : Int32)), .val (.int (1 : Int32)), .val (.int rr), .val (.int (0 : Int32)), .val (.ref b130), .val (.ref b139), .val (.int (1 : Int32)), .unset, .unset, .unset, .unset, .unset] X141 hx (dd at_152) rfl rfl ?_
        refine Gz.aload 156 X141 hx (dd at_154) rfl rfl rfl ?_
        refine Gz.astore 158 #[.val (.int p0), .val (.int p1), .val (.int p2), .val (.int p3), .val (.int p4), .val (.int p5), .val (.int (4 : Int32)), .val (.int (1 : Int32)), .val (.int rr), .val (.int (0 : Int32)), .val (.ref b130), .val (.ref b139), .val (.int (1 : Int32)), .val (.ref b139), .unset, .unset, .unset, .unset] X141 hx (dd at_156) rfl rfl rfl ?_
        refine Gz.iload 160 X141 hx (dd at_158) rfl rfl ?_
        refine Gz.istore 162 #[.val (.int p0), .val (.int p1), .val (.int p2), .val (.int p3), .val (.int p4), .val (.int p5), .val (.int (4 : Int32)), .val (.int (1 : Int32)), .val (.int rr), .val (.int (0 : Int32)), .val (.ref b130), .val (.ref b139), .val (.int (1 : Int32)), .val (.ref b139), .val (.int (4 : Int32)), .unset, .unset, .unset] X141 hx (dd at_160) rfl rfl ?_
        refine Gz.iconst 163 (0 : Int32) X141 hx (dd at_162) rfl rfl ?_
        refine Gz.istore 165 #[.val (.int p0), .val (.int p1), .val (.int p2), .val (.int p3), .val (.int p4), .val (.int p5), .val (.int (4 : Int32)), .val (.int (1 : Int32)), .val (.int rr), .val (.int (0 : Int32)), .val (.ref b130), .val (.ref b139), .val (.int (1 : Int32)), .val (.ref b139), .val (.int (4 : Int32)), .val (.int (0 : Int32)), .unset, .unset] X141 hx (dd at_163) rfl rfl ?_
        refine Gz.iload 167 X141 hx (dd at_165) rfl rfl ?_
        refine Gz.ifNo 170 X141 hx (dd at_167) ((if0 _ _).trans (feq (by decide : ¬ ((1 : Int32) = (0 : Int32)))).1) rfl ?_
        refine Gz.iload 172 X141 hx (dd at_170) rfl rfl ?_
        refine Gz.istore 174 #[.val (.int p0), .val (.int p1), .val (.int p2), .val (.int p3), .val (.int p4), .val (.int p5), .val (.int (4 : Int32)), .val (.int (1 : Int32)), .val (.int rr), .val (.int (0 : Int32)), .val (.ref b130), .val (.ref b139), .val (.int (1 : Int32)), .val (.ref b139), .val (.int (4 : Int32)), .val (.int (0 : Int32)), .unset, .val (.int (0 : Int32))] X141 hx (dd at_172) rfl rfl ?_
        refine Gz.aload 176 X141 hx (dd at_174) rfl rfl rfl ?_
        refine Gz.getS 179 X141 hx hZ hown (dd at_176) (host := "") (Or.inl (ww hw 32 rfl)) Via.refl e141 f140_S_st_MESSAGE rfl fun T142 X142 e142 => ?_
        obtain ⟨cq143, kq143, q143a, q143b, q143c⟩ := isOf hZ e142 QE140_0
        obtain ⟨_, _, ⟨T143, L143, k143, n143⟩, -, X143, ⟨Lc143, hQ143, l143, y143, z143⟩, st143⟩ := X142.virtualBack hx (y := ym5) (z := ym5) hown (mvT hZ (ww hw 35 rfl)) (mvT hZ (ww hw 36 rfl)) (notFace_of_selects (args := #[]) (mvT hZ (ww hw 38 rfl))) (mvT hZ (ww hw 38 rfl)) (mvT hZ (ww hw 37 rfl)) (by decide) (backOf (W := 0) (rmM40 l Z av0 hw [] b139 st_MESSAGE b130 k130 ((p2 &&& (127 : Int32)).toInt8.toInt32) ((p3 &&& (127 : Int32)).toInt8.toInt32) ((p4 &&& (127 : Int32)).toInt8.toInt32) T140.heap n0 SZ140 QE140_0 QF140_0 QF140_1 QF140_2 g_b139 f140_Vb130 ne_b130_b139) hZ (ww hw 39 rfl) (ww hw 4 rfl) (by decide) (by decide)) q143a q143c (g := (mkF m 179 #[.val (.int p0), .val (.int p1), .val (.int p2), .val (.int p3), .val (.int p4), .val (.int p5), .val (.int (4 : Int32)), .val (.int (1 : Int32)), .val (.int rr), .val (.int (0 : Int32)), .val (.ref b130), .val (.ref b139), .val (.int (1 : Int32)), .val (.ref b139), .val (.int (4 : Int32)), .val (.int (0 : Int32)), .unset, .val (.int (0 : Int32))] [(.ref st_MESSAGE), (.ref b139)])) rfl (by rw [hml]; rfl) (Steps.refl _) (argsL := [(.ref st_MESSAGE)]) (rest := []) (lenOf pd_5 rfl) rfl (Nat.le_refl _) (dd at_179) (fun _ _ => ⟨rfl, e142, (by decide : 2 + 1 ≤ _), (by decide : 8 + 4 ≤ _)⟩)
        dsimp only [Pt.U, Pt.locs, Pt.cells, Pt.slots, Q_rmM40] at X143 l143 y143 z143 st143 hQ143
        subst l143 y143 z143
        obtain ⟨rd143, rfl, N143q, K143q, QE143, QB143, QP143, QN143, gr143, szr143, RE143, RB143, RP143, RN143⟩ := hQ143
        have N143 := Fr.app N141 N143q
        have ne_b130_rd143 : b130 ≠ rd143 := Nat.ne_of_lt (Nat.lt_of_lt_of_le (f140_Vb130).lt szr143)
        have ne_b139_rd143 : b139 ≠ rd143 := Nat.ne_of_lt (Nat.lt_of_lt_of_le (QF140_3).lt szr143)
        have f143_S_st_MESSAGE := own_staK f140_S_st_MESSAGE K143q (allS (nst_of QE140_0) all0)
        have f143_Eb130 := Exa.keep f140_Eb130 K143q
        have f143_Vb130 := Arv.keep f140_Vb130 K143q (ninS ne_b130_b139 nin0)
        have f143_E_b139 := Exa.keep QE140_0 K143q
        have SZ143 := Nat.le_trans SZ140 K143q.1
        refine Gz.tr st143 ?_
        refine Gz.astore 184 #[.val (.int p0), .val (.int p1), .val (.int p2), .val (.int p3), .val (.int p4), .val (.int p5), .val (.int (4 : Int32)), .val (.int (1 : Int32)), .val (.int rr), .val (.int (0 : Int32)), .val (.ref b130), .val (.ref b139), .val (.int (1 : Int32)), .val (.ref rd143), .val (.int (4 : Int32)), .val (.int (0 : Int32)), .unset, .val (.int (0 : Int32))] X143 hx (dd at_182) rfl rfl rfl ?_
        refine Gz.iload 186 X143 hx (dd at_184) rfl rfl ?_
        refine Gz.ifNo 189 X143 hx (dd at_186) ((if0 _ _).trans (feq (by decide : ¬ ((1 : Int32) = (0 : Int32)))).1) rfl ?_
        refine Gz.aload 191 X143 hx (dd at_189) rfl rfl rfl ?_
        obtain ⟨cq144, kq144, q144a, q144b, q144c⟩ := isOf hZ rfl QE143
        obtain ⟨_, _, ⟨T144, L144, k144, n144⟩, -, X144, ⟨Lc144, hQ144, l144, y144, z144⟩, st144⟩ := X143.virtualBack hx (y := ym3) (z := ym3) hown (mvT hZ (ww hw 22 rfl)) (mvT hZ (ww hw 23 rfl)) (notFace_of_selects (args := #[]) (mvT hZ (ww hw 25 rfl))) (mvT hZ (ww hw 25 rfl)) (mvT hZ (ww hw 24 rfl)) (by decide) (backOf (W := 0) (rm4 l Z av0 hw [] b139 (1 : Int32) (4 : Int32) T143.heap n0 SZ143 QP143 QN143) hZ (ww hw 26 rfl) (ww hw 4 rfl) (by decide) (by decide)) q144a q144c (g := (mkF m 191 #[.val (.int p0), .val (.int p1), .val (.int p2), .val (.int p3), .val (.int p4), .val (.int p5), .val (.int (4 : Int32)), .val (.int (1 : Int32)), .val (.int rr), .val (.int (0 : Int32)), .val (.ref b130), .val (.ref b139), .val (.int (1 : Int32)), .val (.ref rd143), .val (.int (4 : Int32)), .val (.int (0 : Int32)), .unset, .val (.int (0 : Int32))] [(.ref b139)])) rfl (by rw [hml]; rfl) (Steps.refl _) (argsL := []) (rest := []) (lenOf pd_3 rfl) rfl (Nat.le_refl _) (dd at_191) (fun _ _ => ⟨rfl, rfl, (by decide : 3 + 0 ≤ _), (by decide : 12 + 0 ≤ _)⟩)
        dsimp only [Pt.U, Pt.locs, Pt.cells, Pt.slots, Q_rm4] at X144 l144 y144 z144 st144 hQ144
        subst l144 y144 z144
        rw [show (fHM b139 (1 : Int32) (4 : Int32)) = (1 : Int32) from (by unfold fHM; rw [if_pos (by decide : (1 : Int32) < (4 : Int32))]; try decide)] at hQ144
        obtain ⟨rfl, N144q, e144⟩ := hQ144
        have N144 := Fr.app N143 N144q
        refine Gz.tr st144 ?_
        refine Gz.iconst 195 (1 : Int32) X144 hx (dd at_194) rfl rfl ?_
        refine Gz.iload 197 X144 hx (dd at_195) rfl rfl ?_
        refine Gz.iaddV 198 (1 : Int32) X144 hx (dd at_197) rfl rfl ?_
        refine Gz.iload 200 X144 hx (dd at_198) rfl rfl ?_
        refine Gz.icmpNo 203 X144 hx (dd at_200) (tlt (by decide : (1 : Int32) < (4 : Int32))).2.1 rfl ?_
        refine Gz.iconst 204 (1 : Int32) X144 hx (dd at_203) rfl rfl ?_
        refine Gz.goto 208 X144 hx (dd at_204) (by decide) (by decide) ?_
        refine Gz.icmpNo 211 X144 hx (dd at_208) (teq (by decide : (1 : Int32) = (1 : Int32))).2 rfl ?_
        refine Gz.iconst 212 (1 : Int32) X144 hx (dd at_211) rfl rfl ?_
        refine Gz.goto 216 X144 hx (dd at_212) (by decide) (by decide) ?_
        refine Gz.istore 218 #[.val (.int p0), .val (.int p1), .val (.int p2), .val (.int p3), .val (.int p4), .val (.int p5), .val (.int (4 : Int32)), .val (.int (1 : Int32)), .val (.int rr), .val (.int (0 : Int32)), .val (.ref b130), .val (.ref b139), .val (.int (1 : Int32)), .val (.ref rd143), .val (.int (4 : Int32)), .val (.int (0 : Int32)), .unset, .val (.int (0 : Int32))] X144 hx (dd at_216) rfl rfl ?_
        refine Gz.iload 220 X144 hx (dd at_218) rfl rfl ?_
        refine Gz.istore 222 #[.val (.int p0), .val (.int p1), .val (.int p2), .val (.int p3), .val (.int p4), .val (.int p5), .val (.int (4 : Int32)), .val (.int (1 : Int32)), .val (.int rr), .val (.int (0 : Int32)), .val (.ref b130), .val (.ref b139), .val (.int (1 : Int32)), .val (.ref rd143), .val (.int (0 : Int32)), .val (.int (0 : Int32)), .unset, .val (.int (0 : Int32))] X144 hx (dd at_220) rfl rfl ?_
        refine Gz.iconst 223 (1 : Int32) X144 hx (dd at_222) rfl rfl ?_
        refine Gz.istore 225 #[.val (.int p0), .val (.int p1), .val (.int p2), .val (.int p3), .val (.int p4), .val (.int p5), .val (.int (4 : Int32)), .val (.int (1 : Int32)), .val (.int rr), .val (.int (0 : Int32)), .val (.ref b130), .val (.ref b139), .val (.int (1 : Int32)), .val (.ref rd143), .val (.int (0 : Int32)), .val (.int (0 : Int32)), .val (.int (1 : Int32)), .val (.int (0 : Int32))] X144 hx (dd at_223) rfl rfl ?_
        refine Gz.goto 240 X144 hx (dd at_225) (by decide) (by decide) ?_
        exact sg_4_0_1 (.val (.int p0)) (.val (.int p1)) (.val (.int p2)) (.val (.int p3)) (.val (.int p4)) (.val (.int p5)) (.val (.int (4 : Int32))) (.val (.int (1 : Int32))) rr (.val (.int (0 : Int32))) (.val (.ref b130)) (.val (.ref b139)) rd143 (.val (.int (0 : Int32))) b130 k130 ((p2 &&& (127 : Int32)).toInt8.toInt32) ((p3 &&& (127 : Int32)).toInt8.toInt32) ((p4 &&& (127 : Int32)).toInt8.toInt32) n0 X144 hx hZ hw hby hml hown hret hlk e144 N144 SZ143 RE143 RB143 RP143 RN143 gr143 f143_Vb130 ne_b130_rd143 ((own_7 _) : ¬ (((p2 &&& (127 : Int32)).toInt8.toInt32) < (0 : Int32))) ((own_7 _) : ¬ (((p3 &&& (127 : Int32)).toInt8.toInt32) < (0 : Int32))) ((own_7 _) : ¬ (((p4 &&& (127 : Int32)).toInt8.toInt32) < (0 : Int32)))
      · rw [hs129]
        refine Gz.i2bV 48 (1 : Int32) X0 hx (dd at_47) rfl rfl ?_
        refine Gz.goto 53 X0 hx (dd at_48) (by decide) (by decide) ?_
        refine Gz.istore 55 #[.val (.int p0), .val (.int p1), .val (.int p2), .val (.int p3), .val (.int p4), .val (.int p5), .val (.int (4 : Int32)), .val (.int (1 : Int32)), .val (.int rr), .val (.int (1 : Int32)), .unset, .unset, .unset, .unset, .unset, .unset, .unset, .unset] X0 hx (dd at_53) rfl rfl ?_
        refine Gz.iload 57 X0 hx (dd at_55) rfl rfl ?_
        obtain ⟨T145, h145, k145, X145, e145, E145, A145, Q145, st145⟩ := newPE X0 hx hZ (ww hw 1 rfl) e0 (g := (mkF m 57 #[.val (.int p0), .val (.int p1), .val (.int p2), .val (.int p3), .val (.int p4), .val (.int p5), .val (.int (4 : Int32)), .val (.int (1 : Int32)), .val (.int rr), .val (.int (1 : Int32)), .unset, .unset, .unset, .unset, .unset, .unset, .unset, .unset] [(.int (4 : Int32))])) rfl (dd at_57) rfl (by decide) (cap := 4) (by decide) (by decide) (by decide) (by decide) (ad := "[B") rfl
        obtain ⟨b145, g145⟩ : ∃ z, z = h0.size := ⟨_, rfl⟩
        rw [← g145] at A145 Q145 st145
        have g_b145 : n0 ≤ b145 := Nat.le_trans Z0 (Nat.le_of_eq g145.symm)
        have SZ145 : n0 ≤ h145.size := Nat.le_trans Z0 E145.1
        have f145_S_st_MESSAGE := Sta.ext E145 S_st_MESSAGE
        have V145 : Arv Z h145 b145 k145 .byte (4 : Int32) [(.int (0 : Int32)), (.int (0 : Int32)), (.int (0 : Int32)), (.int (0 : Int32))] (.int (0 : Int32)) := (Arv.new A145 (by decide)).pad (pad_rep [] (.int (0 : Int32)) 4)
        refine Gz.st st145 ?_
        refine Gz.astore 61 #[.val (.int p0), .val (.int p1), .val (.int p2), .val (.int p3), .val (.int p4), .val (.int p5), .val (.int (4 : Int32)), .val (.int (1 : Int32)), .val (.int rr), .val (.int (1 : Int32)), .val (.ref b145), .unset, .unset, .unset, .unset, .unset, .unset, .unset] X145 hx (dd at_59) rfl rfl rfl ?_
        refine Gz.iload 63 X145 hx (dd at_61) rfl rfl ?_
        refine Gz.ifNo 66 X145 hx (dd at_63) ((if0 _ _).trans (tlt (by decide : (0 : Int32) < (4 : Int32))).2.2.2) rfl ?_
        refine Gz.aload 68 X145 hx (dd at_66) rfl rfl rfl ?_
        refine Gz.iconst 69 (0 : Int32) X145 hx (dd at_68) rfl rfl ?_
        refine Gz.iload 71 X145 hx (dd at_69) rfl rfl ?_
        obtain ⟨c146, A146, q146, S146, N146, H146, G146⟩ := id V145
        have hin146 : ¬ ((0 : Int32) < 0 ∨ c146.slots.size ≤ ((0 : Int32)).toNatClampNeg) := inb_of S146 ⟨by decide, by decide⟩
        refine Gz.stB 72 X145 hx hZ (dd at_71) e145 A146 hin146 rfl fun T147 h147 X147 e147 W147 => ?_
        have V147 := Arv.set A146 q146 S146 N146 H146 G146 (fits_nar_byte _) W147 0 rfl (Nat.le_of_ble_eq_true rfl)
        replace V147 : Arv Z h147 b145 k145 .byte (4 : Int32) [(.int (1 : Int32)), (.int (0 : Int32)), (.int (0 : Int32)), (.int (0 : Int32))] (.int (0 : Int32)) := V147
        have f147_S_st_MESSAGE := Sta.wr W147 f145_S_st_MESSAGE
        have f147_Eb145 := Exa.wr W147 Q145
        have N147 := Fr.snoc X147 N0 g_b145
        have SZ147 : n0 ≤ h147.size := Nat.le_trans SZ145 (Keep.of_wr W147).1
        refine Gz.iload 74 X147 hx (dd at_72) rfl rfl ?_
        refine Gz.iconst 75 (1 : Int32) X147 hx (dd at_74) rfl rfl ?_
        refine Gz.icmpNo 78 X147 hx (dd at_75) (tlt (by decide : (1 : Int32) < (4 : Int32))).2.2.2 rfl ?_
        refine Gz.aload 80 X147 hx (dd at_78) rfl rfl rfl ?_
        refine Gz.iconst 81 (1 : Int32) X147 hx (dd at_80) rfl rfl ?_
        refine Gz.iloadN 82 X147 hx (dd at_81) rfl rfl ?_
        refine Gz.bipush 84 (127 : Int32) X147 hx (dd at_82) rfl rfl ?_
        refine Gz.iand 85 X147 hx (dd at_84) rfl ?_
        refine Gz.i2b 86 X147 hx (dd at_85) rfl ?_
        obtain ⟨c148, A148, q148, S148, N148, H148, G148⟩ := id V147
        have hin148 : ¬ ((1 : Int32) < 0 ∨ c148.slots.size ≤ ((1 : Int32)).toNatClampNeg) := inb_of S148 ⟨by decide, by decide⟩
        refine Gz.stB 87 X147 hx hZ (dd at_86) e147 A148 hin148 rfl fun T149 h149 X149 e149 W149 => ?_
        rw [own_nb] at W149
        have V149 := Arv.set A148 q148 S148 N148 H148 G148 (fits_nar_byte _) W149 1 rfl (Nat.le_of_ble_eq_true rfl)
        replace V149 : Arv Z h149 b145 k145 .byte (4 : Int32) [(.int (1 : Int32)), (.int ((p2 &&& (127 : Int32)).toInt8.toInt32)), (.int (0 : Int32)), (.int (0 : Int32))] (.int (0 : Int32)) := V149
        have f149_S_st_MESSAGE := Sta.wr W149 f147_S_st_MESSAGE
        have f149_Eb145 := Exa.wr W149 f147_Eb145
        have N149 := Fr.snoc X149 N147 g_b145
        have SZ149 : n0 ≤ h149.size := Nat.le_trans SZ147 (Keep.of_wr W149).1
        refine Gz.iload 89 X149 hx (dd at_87) rfl rfl ?_
        refine Gz.iconst 90 (2 : Int32) X149 hx (dd at_89) rfl rfl ?_
        refine Gz.icmpNo 93 X149 hx (dd at_90) (tlt (by decide : (2 : Int32) < (4 : Int32))).2.2.2 rfl ?_
        refine Gz.aload 95 X149 hx (dd at_93) rfl rfl rfl ?_
        refine Gz.iconst 96 (2 : Int32) X149 hx (dd at_95) rfl rfl ?_
        refine Gz.iloadN 97 X149 hx (dd at_96) rfl rfl ?_
        refine Gz.bipush 99 (127 : Int32) X149 hx (dd at_97) rfl rfl ?_
        refine Gz.iand 100 X149 hx (dd at_99) rfl ?_
        refine Gz.i2b 101 X149 hx (dd at_100) rfl ?_
        obtain ⟨c150, A150, q150, S150, N150, H150, G150⟩ := id V149
        have hin150 : ¬ ((2 : Int32) < 0 ∨ c150.slots.size ≤ ((2 : Int32)).toNatClampNeg) := inb_of S150 ⟨by decide, by decide⟩
        refine Gz.stB 102 X149 hx hZ (dd at_101) e149 A150 hin150 rfl fun T151 h151 X151 e151 W151 => ?_
        rw [own_nb] at W151
        have V151 := Arv.set A150 q150 S150 N150 H150 G150 (fits_nar_byte _) W151 2 rfl (Nat.le_of_ble_eq_true rfl)
        replace V151 : Arv Z h151 b145 k145 .byte (4 : Int32) [(.int (1 : Int32)), (.int ((p2 &&& (127 : Int32)).toInt8.toInt32)), (.int ((p3 &&& (127 : Int32)).toInt8.toInt32)), (.int (0 : Int32))] (.int (0 : Int32)) := V151
        have f151_S_st_MESSAGE := Sta.wr W151 f149_S_st_MESSAGE
        have f151_Eb145 := Exa.wr W151 f149_Eb145
        have N151 := Fr.snoc X151 N149 g_b145
        have SZ151 : n0 ≤ h151.size := Nat.le_trans SZ149 (Keep.of_wr W151).1
        refine Gz.iload 104 X151 hx (dd at_102) rfl rfl ?_
        refine Gz.iconst 105 (3 : Int32) X151 hx (dd at_104) rfl rfl ?_
        refine Gz.icmpNo 108 X151 hx (dd at_105) (tlt (by decide : (3 : Int32) < (4 : Int32))).2.2.2 rfl ?_
        refine Gz.aload 110 X151 hx (dd at_108) rfl rfl rfl ?_
        refine Gz.iconst 111 (3 : Int32) X151 hx (dd at_110) rfl rfl ?_
        refine Gz.iload 113 X151 hx (dd at_111) rfl rfl ?_
        refine Gz.bipush 115 (127 : Int32) X151 hx (dd at_113) rfl rfl ?_
        refine Gz.iand 116 X151 hx (dd at_115) rfl ?_
        refine Gz.i2b 117 X151 hx (dd at_116) rfl ?_
        obtain ⟨c152, A152, q152, S152, N152, H152, G152⟩ := id V151
        have hin152 : ¬ ((3 : Int32) < 0 ∨ c152.slots.size ≤ ((3 : Int32)).toNatClampNeg) := inb_of S152 ⟨by decide, by decide⟩
        refine Gz.stB 118 X151 hx hZ (dd at_117) e151 A152 hin152 rfl fun T153 h153 X153 e153 W153 => ?_
        rw [own_nb] at W153
        have V153 := Arv.set A152 q152 S152 N152 H152 G152 (fits_nar_byte _) W153 3 rfl (Nat.le_of_ble_eq_true rfl)
        replace V153 : Arv Z h153 b145 k145 .byte (4 : Int32) [(.int (1 : Int32)), (.int ((p2 &&& (127 : Int32)).toInt8.toInt32)), (.int ((p3 &&& (127 : Int32)).toInt8.toInt32)), (.int ((p4 &&& (127 : Int32)).toInt8.toInt32))] (.int (0 : Int32)) := V153
        have f153_S_st_MESSAGE := Sta.wr W153 f151_S_st_MESSAGE
        have f153_Eb145 := Exa.wr W153 f151_Eb145
        have N153 := Fr.snoc X153 N151 g_b145
        have SZ153 : n0 ≤ h153.size := Nat.le_trans SZ151 (Keep.of_wr W153).1
        obtain ⟨T154, h154, X154, e154, E154, A154, D154, -, st154⟩ := newO X153 hx hZ hown (ww hw 2 rfl) (ww hw 3 rfl) (ww hw 4 rfl) e153 (g := (mkF m 118 #[.val (.int p0), .val (.int p1), .val (.int p2), .val (.int p3), .val (.int p4), .val (.int p5), .val (.int (4 : Int32)), .val (.int (1 : Int32)), .val (.int rr), .val (.int (1 : Int32)), .val (.ref b145), .unset, .unset, .unset, .unset, .unset, .unset, .unset] [])) rfl (dd at_118) (by decide) (by decide)
        obtain ⟨b154, g154⟩ : ∃ z, z = h153.size := ⟨_, rfl⟩
        rw [← g154] at A154 D154 st154
        have ne_b145_b154 : b145 ≠ b154 := Nat.ne_of_lt (Nat.lt_of_lt_of_le (f153_Eb145).lt (Nat.le_of_eq g154.symm))
        have g_b154 : n0 ≤ b154 := Nat.le_trans SZ153 (Nat.le_of_eq g154.symm)
        have SZ154 : n0 ≤ h154.size := Nat.le_trans SZ153 E154.1
        have f154_S_st_MESSAGE := Sta.ext E154 f153_S_st_MESSAGE
        have f154_Eb145 := Exa.ext E154 f153_Eb145
        have f154_Vb145 := Arv.ext V153 E154
        have F_bytes_b154 : Fld Z h154 b154 "com/example/bad_status/badstatus/model/ProtoReader" "bytes" "[B" .null := D154 (Or.inr (ww hw 15 rfl)) (ty := (.array .byte)) (by decide)
        have F_position_b154 : Fld Z h154 b154 "com/example/bad_status/badstatus/model/ProtoReader" "position" "I" (.int (0 : Int32)) := D154 (Or.inl (ww hw 17 rfl)) (ty := .int) (by decide)
        have F_end_b154 : Fld Z h154 b154 "com/example/bad_status/badstatus/model/ProtoReader" "end" "I" (.int (0 : Int32)) := D154 (Or.inr (ww hw 19 rfl)) (ty := .int) (by decide)
        have F_place_b154 : Fld Z h154 b154 "com/example/bad_status/badstatus/model/ProtoReader" "place" "Lcom/example/bad_status/badstatus/model/Place;" .null := D154 (Or.inr (ww hw 21 rfl)) (ty := (.object "com/example/bad_status/badstatus/model/Place")) (by decide)
        refine Gz.st st154 ?_
        refine Gz.dup 122 X154 hx (dd at_121) rfl rfl ?_
        refine Gz.aload 124 X154 hx (dd at_122) rfl rfl rfl ?_
        obtain ⟨_, _, ⟨T155, L155, k155, n155⟩, -, X155, ⟨Lc155, hQ155, l155, y155, z155⟩, st155⟩ := X154.specialBack hx (y := ym4) rfl hown (mvT hZ (ww hw 5 rfl)) (mvT hZ (ww hw 6 rfl)) (mvT hZ (ww hw 7 rfl)) (by decide) (backOf (W := 1) (rmI1_4 l Z av0 hw [] b154 b145 k145 (1 : Int32) ((p2 &&& (127 : Int32)).toInt8.toInt32) ((p3 &&& (127 : Int32)).toInt8.toInt32) ((p4 &&& (127 : Int32)).toInt8.toInt32) h154 n0 SZ154 A154 F_bytes_b154 F_position_b154 F_end_b154 F_place_b154 g_b154 f154_Vb145 ne_b145_b154) hZ (ww hw 7 rfl) (ww hw 4 rfl) (by decide) (by decide)) (g := (mkF m 124 #[.val (.int p0), .val (.int p1), .val (.int p2), .val (.int p3), .val (.int p4), .val (.int p5), .val (.int (4 : Int32)), .val (.int (1 : Int32)), .val (.int rr), .val (.int (1 : Int32)), .val (.ref b145), .unset, .unset, .unset, .unset, .unset, .unset, .unset] [(.ref b145), (.ref b154), (.ref b154)])) rfl (by rw [hml]; rfl) (Steps.refl _) (a := b154) (argsL := [(.ref b145)]) (rest := [(.ref b154)]) (lenOf pd_4 rfl) rfl (Nat.le_refl _) (dd at_124) (fun _ _ => ⟨rfl, e154, (by decide : 2 + 0 ≤ _), (by decide : 8 + 0 ≤ _)⟩)
        dsimp only [Pt.U, Pt.locs, Pt.cells, Pt.slots, Q_rmI1_4] at X155 l155 y155 z155 st155 hQ155
        subst l155 y155 z155
        obtain ⟨rfl, N155q, K155q, QE155_0, QF155_0, QF155_1, QF155_2, QF155_3⟩ := hQ155
        have N155 := Fr.app N153 N155q
        have f155_S_st_MESSAGE := own_staK f154_S_st_MESSAGE K155q (allS (nst_of A154) all0)
        have f155_Eb145 := Exa.keep f154_Eb145 K155q
        have f155_Vb145 := Arv.keep f154_Vb145 K155q (ninS ne_b145_b154 nin0)
        have f155_Eb154 := Exa.keep A154 K155q
        have SZ155 := Nat.le_trans SZ154 K155q.1
        refine Gz.tr st155 ?_
        refine Gz.astore 129 #[.val (.int p0), .val (.int p1), .val (.int p2), .val (.int p3), .val (.int p4), .val (.int p5), .val (.int (4 : Int32)), .val (.int (1 : Int32)), .val (.int rr), .val (.int (1 : Int32)), .val (.ref b145), .val (.ref b154), .unset, .unset, .unset, .unset, .unset, .unset] X155 hx (dd at_127) rfl rfl rfl ?_
        refine Gz.aload 131 X155 hx (dd at_129) rfl rfl rfl ?_
        obtain ⟨cq156, kq156, q156a, q156b, q156c⟩ := isOf hZ rfl QE155_0
        obtain ⟨_, _, ⟨T156, L156, k156, n156⟩, -, X156, ⟨Lc156, hQ156, l156, y156, z156⟩, st156⟩ := X155.virtualBack hx (y := ym3) (z := ym3) hown (mvT hZ (ww hw 22 rfl)) (mvT hZ (ww hw 23 rfl)) (notFace_of_selects (args := #[]) (mvT hZ (ww hw 25 rfl))) (mvT hZ (ww hw 25 rfl)) (mvT hZ (ww hw 24 rfl)) (by decide) (backOf (W := 0) (rm4 l Z av0 hw [] b154 (0 : Int32) (4 : Int32) T155.heap n0 SZ155 QF155_1 QF155_2) hZ (ww hw 26 rfl) (ww hw 4 rfl) (by decide) (by decide)) q156a q156c (g := (mkF m 131 #[.val (.int p0), .val (.int p1), .val (.int p2), .val (.int p3), .val (.int p4), .val (.int p5), .val (.int (4 : Int32)), .val (.int (1 : Int32)), .val (.int rr), .val (.int (1 : Int32)), .val (.ref b145), .val (.ref b154), .unset, .unset, .unset, .unset, .unset, .unset] [(.ref b154)])) rfl (by rw [hml]; rfl) (Steps.refl _) (argsL := []) (rest := []) (lenOf pd_3 rfl) rfl (Nat.le_refl _) (dd at_131) (fun _ _ => ⟨rfl, rfl, (by decide : 2 + 0 ≤ _), (by decide : 8 + 0 ≤ _)⟩)
        dsimp only [Pt.U, Pt.locs, Pt.cells, Pt.slots, Q_rm4] at X156 l156 y156 z156 st156 hQ156
        subst l156 y156 z156
        rw [show (fHM b154 (0 : Int32) (4 : Int32)) = (1 : Int32) from (by unfold fHM; rw [if_pos (by decide : (0 : Int32) < (4 : Int32))]; try decide)] at hQ156
        obtain ⟨rfl, N156q, e156⟩ := hQ156
        have N156 := Fr.app N155 N156q
        refine Gz.tr st156 ?_
        refine Gz.iload 136 X156 hx (dd at_134) rfl rfl ?_
        refine Gz.ifNo 139 X156 hx (dd at_136) ((if0 _ _).trans (tlt (by decide : (0 : Int32) < (4 : Int32))).2.2.2) rfl ?_
        refine Gz.iconst 140 (1 : Int32) X156 hx (dd at_139) rfl rfl ?_
        refine Gz.goto 144 X156 hx (dd at_140) (by decide) (by decide) ?_
        refine Gz.icmpNo 147 X156 hx (dd at_144) (teq (by decide : (1 : Int32) = (1 : Int32))).2 rfl ?_
        refine Gz.iconst 148 (1 : Int32) X156 hx (dd at_147) rfl rfl ?_
        refine Gz.goto 152 X156 hx (dd at_148) (by decide) (by decide) ?_
        refine Gz.istore 154 #[.val (.int p0), .val (.int p1), .val (.int p2), .val (.int p3), .val (.int p4), .val (.int p5), .val (.int (4 : Int32)), .val (.int (1 : Int32)), .val (.int rr), .val (.int (1 : Int32)), .val (.ref b145), .val (.ref b154), .val (.int (1 : Int32)), .unset, .unset, .unset, .unset, .unset] X156 hx (dd at_152) rfl rfl ?_
        refine Gz.aload 156 X156 hx (dd at_154) rfl rfl rfl ?_
        refine Gz.astore 158 #[.val (.int p0), .val (.int p1), .val (.int p2), .val (.int p3), .val (.int p4), .val (.int p5), .val (.int (4 : Int32)), .val (.int (1 : Int32)), .val (.int rr), .val (.int (1 : Int32)), .val (.ref b145), .val (.ref b154), .val (.int (1 : Int32)), .val (.ref b154), .unset, .unset, .unset, .unset] X156 hx (dd at_156) rfl rfl rfl ?_
        refine Gz.iload 160 X156 hx (dd at_158) rfl rfl ?_
        refine Gz.istore 162 #[.val (.int p0), .val (.int p1), .val (.int p2), .val (.int p3), .val (.int p4), .val (.int p5), .val (.int (4 : Int32)), .val (.int (1 : Int32)), .val (.int rr), .val (.int (1 : Int32)), .val (.ref b145), .val (.ref b154), .val (.int (1 : Int32)), .val (.ref b154), .val (.int (4 : Int32)), .unset, .unset, .unset] X156 hx (dd at_160) rfl rfl ?_
        refine Gz.iconst 163 (0 : Int32) X156 hx (dd at_162) rfl rfl ?_
        refine Gz.istore 165 #[.val (.int p0), .val (.int p1), .val (.int p2), .val (.int p3), .val (.int p4), .val (.int p5), .val (.int (4 : Int32)), .val (.int (1 : Int32)), .val (.int rr), .val (.int (1 : Int32)), .val (.ref b145), .val (.ref b154), .val (.int (1 : Int32)), .val (.ref b154), .val (.int (4 : Int32)), .val (.int (0 : Int32)), .unset, .unset] X156 hx (dd at_163) rfl rfl ?_
        refine Gz.iload 167 X156 hx (dd at_165) rfl rfl ?_
        refine Gz.ifNo 170 X156 hx (dd at_167) ((if0 _ _).trans (feq (by decide : ¬ ((1 : Int32) = (0 : Int32)))).1) rfl ?_
        refine Gz.iload 172 X156 hx (dd at_170) rfl rfl ?_
        refine Gz.istore 174 #[.val (.int p0), .val (.int p1), .val (.int p2), .val (.int p3), .val (.int p4), .val (.int p5), .val (.int (4 : Int32)), .val (.int (1 : Int32)), .val (.int rr), .val (.int (1 : Int32)), .val (.ref b145), .val (.ref b154), .val (.int (1 : Int32)), .val (.ref b154), .val (.int (4 : Int32)), .val (.int (0 : Int32)), .unset, .val (.int (1 : Int32))] X156 hx (dd at_172) rfl rfl ?_
        refine Gz.aload 176 X156 hx (dd at_174) rfl rfl rfl ?_
        refine Gz.getS 179 X156 hx hZ hown (dd at_176) (host := "") (Or.inl (ww hw 32 rfl)) Via.refl e156 f155_S_st_MESSAGE rfl fun T157 X157 e157 => ?_
        obtain ⟨cq158, kq158, q158a, q158b, q158c⟩ := isOf hZ e157 QE155_0
        obtain ⟨_, _, ⟨T158, L158, k158, n158⟩, -, X158, ⟨Lc158, hQ158, l158, y158, z158⟩, st158⟩ := X157.virtualBack hx (y := ym5) (z := ym5) hown (mvT hZ (ww hw 35 rfl)) (mvT hZ (ww hw 36 rfl)) (notFace_of_selects (args := #[]) (mvT hZ (ww hw 38 rfl))) (mvT hZ (ww hw 38 rfl)) (mvT hZ (ww hw 37 rfl)) (by decide) (backOf (W := 0) (rmM41 l Z av0 hw [] b154 st_MESSAGE b145 k145 ((p2 &&& (127 : Int32)).toInt8.toInt32) ((p3 &&& (127 : Int32)).toInt8.toInt32) ((p4 &&& (127 : Int32)).toInt8.toInt32) T155.heap n0 SZ155 QE155_0 QF155_0 QF155_1 QF155_2 g_b154 f155_Vb145 ne_b145_b154) hZ (ww hw 39 rfl) (ww hw 4 rfl) (by decide) (by decide)) q158a q158c (g := (mkF m 179 #[.val (.int p0), .val (.int p1), .val (.int p2), .val (.int p3), .val (.int p4), .val (.int p5), .val (.int (4 : Int32)), .val (.int (1 : Int32)), .val (.int rr), .val (.int (1 : Int32)), .val (.ref b145), .val (.ref b154), .val (.int (1 : Int32)), .val (.ref b154), .val (.int (4 : Int32)), .val (.int (0 : Int32)), .unset, .val (.int (1 : Int32))] [(.ref st_MESSAGE), (.ref b154)])) rfl (by rw [hml]; rfl) (Steps.refl _) (argsL := [(.ref st_MESSAGE)]) (rest := []) (lenOf pd_5 rfl) rfl (Nat.le_refl _) (dd at_179) (fun _ _ => ⟨rfl, e157, (by decide : 2 + 1 ≤ _), (by decide : 8 + 4 ≤ _)⟩)
        dsimp only [Pt.U, Pt.locs, Pt.cells, Pt.slots, Q_rmM41] at X158 l158 y158 z158 st158 hQ158
        subst l158 y158 z158
        obtain ⟨rd158, rfl, N158q, K158q, QE158, QB158, QP158, QN158, gr158, szr158, RE158, RB158, RP158, RN158⟩ := hQ158
        have N158 := Fr.app N156 N158q
        have ne_b145_rd158 : b145 ≠ rd158 := Nat.ne_of_lt (Nat.lt_of_lt_of_le (f155_Vb145).lt szr158)
        have ne_b154_rd158 : b154 ≠ rd158 := Nat.ne_of_lt (Nat.lt_of_lt_of_le (QF155_3).lt szr158)
        have f158_S_st_MESSAGE := own_staK f155_S_st_MESSAGE K158q (allS (nst_of QE155_0) all0)
        have f158_Eb145 := Exa.keep f155_Eb145 K158q
        have f158_Vb145 := Arv.keep f155_Vb145 K158q (ninS ne_b145_b154 nin0)
        have f158_E_b154 := Exa.keep QE155_0 K158q
        have SZ158 := Nat.le_trans SZ155 K158q.1
        refine Gz.tr st158 ?_
        refine Gz.astore 184 #[.val (.int p0), .val (.int p1), .val (.int p2), .val (.int p3), .val (.int p4), .val (.int p5), .val (.int (4 : Int32)), .val (.int (1 : Int32)), .val (.int rr), .val (.int (1 : Int32)), .val (.ref b145), .val (.ref b154), .val (.int (1 : Int32)), .val (.ref rd158), .val (.int (4 : Int32)), .val (.int (0 : Int32)), .unset, .val (.int (1 : Int32))] X158 hx (dd at_182) rfl rfl rfl ?_
        refine Gz.iload 186 X158 hx (dd at_184) rfl rfl ?_
        refine Gz.ifNo 189 X158 hx (dd at_186) ((if0 _ _).trans (feq (by decide : ¬ ((1 : Int32) = (0 : Int32)))).1) rfl ?_
        refine Gz.aload 191 X158 hx (dd at_189) rfl rfl rfl ?_
        obtain ⟨cq159, kq159, q159a, q159b, q159c⟩ := isOf hZ rfl QE158
        obtain ⟨_, _, ⟨T159, L159, k159, n159⟩, -, X159, ⟨Lc159, hQ159, l159, y159, z159⟩, st159⟩ := X158.virtualBack hx (y := ym3) (z := ym3) hown (mvT hZ (ww hw 22 rfl)) (mvT hZ (ww hw 23 rfl)) (notFace_of_selects (args := #[]) (mvT hZ (ww hw 25 rfl))) (mvT hZ (ww hw 25 rfl)) (mvT hZ (ww hw 24 rfl)) (by decide) (backOf (W := 0) (rm4 l Z av0 hw [] b154 (2 : Int32) (4 : Int32) T158.heap n0 SZ158 QP158 QN158) hZ (ww hw 26 rfl) (ww hw 4 rfl) (by decide) (by decide)) q159a q159c (g := (mkF m 191 #[.val (.int p0), .val (.int p1), .val (.int p2), .val (.int p3), .val (.int p4), .val (.int p5), .val (.int (4 : Int32)), .val (.int (1 : Int32)), .val (.int rr), .val (.int (1 : Int32)), .val (.ref b145), .val (.ref b154), .val (.int (1 : Int32)), .val (.ref rd158), .val (.int (4 : Int32)), .val (.int (0 : Int32)), .unset, .val (.int (1 : Int32))] [(.ref b154)])) rfl (by rw [hml]; rfl) (Steps.refl _) (argsL := []) (rest := []) (lenOf pd_3 rfl) rfl (Nat.le_refl _) (dd at_191) (fun _ _ => ⟨rfl, rfl, (by decide : 3 + 0 ≤ _), (by decide : 12 + 0 ≤ _)⟩)
        dsimp only [Pt.U, Pt.locs, Pt.cells, Pt.slots, Q_rm4] at X159 l159 y159 z159 st159 hQ159
        subst l159 y159 z159
        rw [show (fHM b154 (2 : Int32) (4 : Int32)) = (1 : Int32) from (by unfold fHM; rw [if_pos (by decide : (2 : Int32) < (4 : Int32))]; try decide)] at hQ159
        obtain ⟨rfl, N159q, e159⟩ := hQ159
        have N159 := Fr.app N158 N159q
        refine Gz.tr st159 ?_
        refine Gz.iconst 195 (1 : Int32) X159 hx (dd at_194) rfl rfl ?_
        refine Gz.iload 197 X159 hx (dd at_195) rfl rfl ?_
        refine Gz.iaddV 198 (2 : Int32) X159 hx (dd at_197) rfl rfl ?_
        refine Gz.iload 200 X159 hx (dd at_198) rfl rfl ?_
        refine Gz.icmpNo 203 X159 hx (dd at_200) (tlt (by decide : (2 : Int32) < (4 : Int32))).2.1 rfl ?_
        refine Gz.iconst 204 (1 : Int32) X159 hx (dd at_203) rfl rfl ?_
        refine Gz.goto 208 X159 hx (dd at_204) (by decide) (by decide) ?_
        refine Gz.icmpNo 211 X159 hx (dd at_208) (teq (by decide : (1 : Int32) = (1 : Int32))).2 rfl ?_
        refine Gz.iconst 212 (1 : Int32) X159 hx (dd at_211) rfl rfl ?_
        refine Gz.goto 216 X159 hx (dd at_212) (by decide) (by decide) ?_
        refine Gz.istore 218 #[.val (.int p0), .val (.int p1), .val (.int p2), .val (.int p3), .val (.int p4), .val (.int p5), .val (.int (4 : Int32)), .val (.int (1 : Int32)), .val (.int rr), .val (.int (1 : Int32)), .val (.ref b145), .val (.ref b154), .val (.int (1 : Int32)), .val (.ref rd158), .val (.int (4 : Int32)), .val (.int (0 : Int32)), .unset, .val (.int (1 : Int32))] X159 hx (dd at_216) rfl rfl ?_
        refine Gz.iload 220 X159 hx (dd at_218) rfl rfl ?_
        refine Gz.istore 222 #[.val (.int p0), .val (.int p1), .val (.int p2), .val (.int p3), .val (.int p4), .val (.int p5), .val (.int (4 : Int32)), .val (.int (1 : Int32)), .val (.int rr), .val (.int (1 : Int32)), .val (.ref b145), .val (.ref b154), .val (.int (1 : Int32)), .val (.ref rd158), .val (.int (1 : Int32)), .val (.int (0 : Int32)), .unset, .val (.int (1 : Int32))] X159 hx (dd at_220) rfl rfl ?_
        refine Gz.iconst 223 (1 : Int32) X159 hx (dd at_222) rfl rfl ?_
        refine Gz.istore 225 #[.val (.int p0), .val (.int p1), .val (.int p2), .val (.int p3), .val (.int p4), .val (.int p5), .val (.int (4 : Int32)), .val (.int (1 : Int32)), .val (.int rr), .val (.int (1 : Int32)), .val (.ref b145), .val (.ref b154), .val (.int (1 : Int32)), .val (.ref rd158), .val (.int (1 : Int32)), .val (.int (0 : Int32)), .val (.int (1 : Int32)), .val (.int (1 : Int32))] X159 hx (dd at_223) rfl rfl ?_
        refine Gz.goto 240 X159 hx (dd at_225) (by decide) (by decide) ?_
        exact sg_4_1_1 (.val (.int p0)) (.val (.int p1)) (.val (.int p2)) (.val (.int p3)) (.val (.int p4)) (.val (.int p5)) (.val (.int (4 : Int32))) (.val (.int (1 : Int32))) rr (.val (.int (1 : Int32))) (.val (.ref b145)) (.val (.ref b154)) rd158 (.val (.int (1 : Int32))) b145 k145 ((p2 &&& (127 : Int32)).toInt8.toInt32) ((p3 &&& (127 : Int32)).toInt8.toInt32) ((p4 &&& (127 : Int32)).toInt8.toInt32) n0 X159 hx hZ hw hby hml hown hret hlk e159 N159 SZ158 RE158 RB158 RP158 RN158 gr158 f158_Vb145 ne_b145_rd158 ((own_7 _) : ¬ (((p2 &&& (127 : Int32)).toInt8.toInt32) < (0 : Int32))) ((own_7 _) : ¬ (((p3 &&& (127 : Int32)).toInt8.toInt32) < (0 : Int32))) ((own_7 _) : ¬ (((p4 &&& (127 : Int32)).toInt8.toInt32) < (0 : Int32)))
      · rw [hs129]
        refine Gz.i2bV 48 (2 : Int32) X0 hx (dd at_47) rfl rfl ?_
        refine Gz.goto 53 X0 hx (dd at_48) (by decide) (by decide) ?_
        refine Gz.istore 55 #[.val (.int p0), .val (.int p1), .val (.int p2), .val (.int p3), .val (.int p4), .val (.int p5), .val (.int (4 : Int32)), .val (.int (1 : Int32)), .val (.int rr), .val (.int (2 : Int32)), .unset, .unset, .unset, .unset, .unset, .unset, .unset, .unset] X0 hx (dd at_53) rfl rfl ?_
        refine Gz.iload 57 X0 hx (dd at_55) rfl rfl ?_
        obtain ⟨T160, h160, k160, X160, e160, E160, A160, Q160, st160⟩ := newPE X0 hx hZ (ww hw 1 rfl) e0 (g := (mkF m 57 #[.val (.int p0), .val (.int p1), .val (.int p2), .val (.int p3), .val (.int p4), .val (.int p5), .val (.int (4 : Int32)), .val (.int (1 : Int32)), .val (.int rr), .val (.int (2 : Int32)), .unset, .unset, .unset, .unset, .unset, .unset, .unset, .unset] [(.int (4 : Int32))])) rfl (dd at_57) rfl (by decide) (cap := 4) (by decide) (by decide) (by decide) (by decide) (ad := "[B") rfl
        obtain ⟨b160, g160⟩ : ∃ z, z = h0.size := ⟨_, rfl⟩
        rw [← g160] at A160 Q160 st160
        have g_b160 : n0 ≤ b160 := Nat.le_trans Z0 (Nat.le_of_eq g160.symm)
        have SZ160 : n0 ≤ h160.size := Nat.le_trans Z0 E160.1
        have f160_S_st_MESSAGE := Sta.ext E160 S_st_MESSAGE
        have V160 : Arv Z h160 b160 k160 .byte (4 : Int32) [(.int (0 : Int32)), (.int (0 : Int32)), (.int (0 : Int32)), (.int (0 : Int32))] (.int (0 : Int32)) := (Arv.new A160 (by decide)).pad (pad_rep [] (.int (0 : Int32)) 4)
        refine Gz.st st160 ?_
        refine Gz.astore 61 #[.val (.int p0), .val (.int p1), .val (.int p2), .val (.int p3), .val (.int p4), .val (.int p5), .val (.int (4 : Int32)), .val (.int (1 : Int32)), .val (.int rr), .val (.int (2 : Int32)), .val (.ref b160), .unset, .unset, .unset, .unset, .unset, .unset, .unset] X160 hx (dd at_59) rfl rfl rfl ?_
        refine Gz.iload 63 X160 hx (dd at_61) rfl rfl ?_
        refine Gz.ifNo 66 X160 hx (dd at_63) ((if0 _ _).trans (tlt (by decide : (0 : Int32) < (4 : Int32))).2.2.2) rfl ?_
        refine Gz.aload 68 X160 hx (dd at_66) rfl rfl rfl ?_
        refine Gz.iconst 69 (0 : Int32) X160 hx (dd at_68) rfl rfl ?_
        refine Gz.iload 71 X160 hx (dd at_69) rfl rfl ?_
        obtain ⟨c161, A161, q161, S161, N161, H161, G161⟩ := id V160
        have hin161 : ¬ ((0 : Int32) < 0 ∨ c161.slots.size ≤ ((0 : Int32)).toNatClampNeg) := inb_of S161 ⟨by decide, by decide⟩
        refine Gz.stB 72 X160 hx hZ (dd at_71) e160 A161 hin161 rfl fun T162 h162 X162 e162 W162 => ?_
        have V162 := Arv.set A161 q161 S161 N161 H161 G161 (fits_nar_byte _) W162 0 rfl (Nat.le_of_ble_eq_true rfl)
        replace V162 : Arv Z h162 b160 k160 .byte (4 : Int32) [(.int (2 : Int32)), (.int (0 : Int32)), (.int (0 : Int32)), (.int (0 : Int32))] (.int (0 : Int32)) := V162
        have f162_S_st_MESSAGE := Sta.wr W162 f160_S_st_MESSAGE
        have f162_Eb160 := Exa.wr W162 Q160
        have N162 := Fr.snoc X162 N0 g_b160
        have SZ162 : n0 ≤ h162.size := Nat.le_trans SZ160 (Keep.of_wr W162).1
        refine Gz.iload 74 X162 hx (dd at_72) rfl rfl ?_
        refine Gz.iconst 75 (1 : Int32) X162 hx (dd at_74) rfl rfl ?_
        refine Gz.icmpNo 78 X162 hx (dd at_75) (tlt (by decide : (1 : Int32) < (4 : Int32))).2.2.2 rfl ?_
        refine Gz.aload 80 X162 hx (dd at_78) rfl rfl rfl ?_
        refine Gz.iconst 81 (1 : Int32) X162 hx (dd at_80) rfl rfl ?_
        refine Gz.iloadN 82 X162 hx (dd at_81) rfl rfl ?_
        refine Gz.bipush 84 (127 : Int32) X162 hx (dd at_82) rfl rfl ?_
        refine Gz.iand 85 X162 hx (dd at_84) rfl ?_
        refine Gz.i2b 86 X162 hx (dd at_85) rfl ?_
        obtain ⟨c163, A163, q163, S163, N163, H163, G163⟩ := id V162
        have hin163 : ¬ ((1 : Int32) < 0 ∨ c163.slots.size ≤ ((1 : Int32)).toNatClampNeg) := inb_of S163 ⟨by decide, by decide⟩
        refine Gz.stB 87 X162 hx hZ (dd at_86) e162 A163 hin163 rfl fun T164 h164 X164 e164 W164 => ?_
        rw [own_nb] at W164
        have V164 := Arv.set A163 q163 S163 N163 H163 G163 (fits_nar_byte _) W164 1 rfl (Nat.le_of_ble_eq_true rfl)
        replace V164 : Arv Z h164 b160 k160 .byte (4 : Int32) [(.int (2 : Int32)), (.int ((p2 &&& (127 : Int32)).toInt8.toInt32)), (.int (0 : Int32)), (.int (0 : Int32))] (.int (0 : Int32)) := V164
        have f164_S_st_MESSAGE := Sta.wr W164 f162_S_st_MESSAGE
        have f164_Eb160 := Exa.wr W164 f162_Eb160
        have N164 := Fr.snoc X164 N162 g_b160
        have SZ164 : n0 ≤ h164.size := Nat.le_trans SZ162 (Keep.of_wr W164).1
        refine Gz.iload 89 X164 hx (dd at_87) rfl rfl ?_
        refine Gz.iconst 90 (2 : Int32) X164 hx (dd at_89) rfl rfl ?_
        refine Gz.icmpNo 93 X164 hx (dd at_90) (tlt (by decide : (2 : Int32) < (4 : Int32))).2.2.2 rfl ?_
        refine Gz.aload 95 X164 hx (dd at_93) rfl rfl rfl ?_
        refine Gz.iconst 96 (2 : Int32) X164 hx (dd at_95) rfl rfl ?_
        refine Gz.iloadN 97 X164 hx (dd at_96) rfl rfl ?_
        refine Gz.bipush 99 (127 : Int32) X164 hx (dd at_97) rfl rfl ?_
        refine Gz.iand 100 X164 hx (dd at_99) rfl ?_
        refine Gz.i2b 101 X164 hx (dd at_100) rfl ?_
        obtain ⟨c165, A165, q165, S165, N165, H165, G165⟩ := id V164
        have hin165 : ¬ ((2 : Int32) < 0 ∨ c165.slots.size ≤ ((2 : Int32)).toNatClampNeg) := inb_of S165 ⟨by decide, by decide⟩
        refine Gz.stB 102 X164 hx hZ (dd at_101) e164 A165 hin165 rfl fun T166 h166 X166 e166 W166 => ?_
        rw [own_nb] at W166
        have V166 := Arv.set A165 q165 S165 N165 H165 G165 (fits_nar_byte _) W166 2 rfl (Nat.le_of_ble_eq_true rfl)
        replace V166 : Arv Z h166 b160 k160 .byte (4 : Int32) [(.int (2 : Int32)), (.int ((p2 &&& (127 : Int32)).toInt8.toInt32)), (.int ((p3 &&& (127 : Int32)).toInt8.toInt32)), (.int (0 : Int32))] (.int (0 : Int32)) := V166
        have f166_S_st_MESSAGE := Sta.wr W166 f164_S_st_MESSAGE
        have f166_Eb160 := Exa.wr W166 f164_Eb160
        have N166 := Fr.snoc X166 N164 g_b160
        have SZ166 : n0 ≤ h166.size := Nat.le_trans SZ164 (Keep.of_wr W166).1
        refine Gz.iload 104 X166 hx (dd at_102) rfl rfl ?_
        refine Gz.iconst 105 (3 : Int32) X166 hx (dd at_104) rfl rfl ?_
        refine Gz.icmpNo 108 X166 hx (dd at_105) (tlt (by decide : (3 : Int32) < (4 : Int32))).2.2.2 rfl ?_
        refine Gz.aload 110 X166 hx (dd at_108) rfl rfl rfl ?_
        refine Gz.iconst 111 (3 : Int32) X166 hx (dd at_110) rfl rfl ?_
        refine Gz.iload 113 X166 hx (dd at_111) rfl rfl ?_
        refine Gz.bipush 115 (127 : Int32) X166 hx (dd at_113) rfl rfl ?_
        refine Gz.iand 116 X166 hx (dd at_115) rfl ?_
        refine Gz.i2b 117 X166 hx (dd at_116) rfl ?_
        obtain ⟨c167, A167, q167, S167, N167, H167, G167⟩ := id V166
        have hin167 : ¬ ((3 : Int32) < 0 ∨ c167.slots.size ≤ ((3 : Int32)).toNatClampNeg) := inb_of S167 ⟨by decide, by decide⟩
        refine Gz.stB 118 X166 hx hZ (dd at_117) e166 A167 hin167 rfl fun T168 h168 X168 e168 W168 => ?_
        rw [own_nb] at W168
        have V168 := Arv.set A167 q167 S167 N167 H167 G167 (fits_nar_byte _) W168 3 rfl (Nat.le_of_ble_eq_true rfl)
        replace V168 : Arv Z h168 b160 k160 .byte (4 : Int32) [(.int (2 : Int32)), (.int ((p2 &&& (127 : Int32)).toInt8.toInt32)), (.int ((p3 &&& (127 : Int32)).toInt8.toInt32)), (.int ((p4 &&& (127 : Int32)).toInt8.toInt32))] (.int (0 : Int32)) := V168
        have f168_S_st_MESSAGE := Sta.wr W168 f166_S_st_MESSAGE
        have f168_Eb160 := Exa.wr W168 f166_Eb160
        have N168 := Fr.snoc X168 N166 g_b160
        have SZ168 : n0 ≤ h168.size := Nat.le_trans SZ166 (Keep.of_wr W168).1
        obtain ⟨T169, h169, X169, e169, E169, A169, D169, -, st169⟩ := newO X168 hx hZ hown (ww hw 2 rfl) (ww hw 3 rfl) (ww hw 4 rfl) e168 (g := (mkF m 118 #[.val (.int p0), .val (.int p1), .val (.int p2), .val (.int p3), .val (.int p4), .val (.int p5), .val (.int (4 : Int32)), .val (.int (1 : Int32)), .val (.int rr), .val (.int (2 : Int32)), .val (.ref b160), .unset, .unset, .unset, .unset, .unset, .unset, .unset] [])) rfl (dd at_118) (by decide) (by decide)
        obtain ⟨b169, g169⟩ : ∃ z, z = h168.size := ⟨_, rfl⟩
        rw [← g169] at A169 D169 st169
        have ne_b160_b169 : b160 ≠ b169 := Nat.ne_of_lt (Nat.lt_of_lt_of_le (f168_Eb160).lt (Nat.le_of_eq g169.symm))
        have g_b169 : n0 ≤ b169 := Nat.le_trans SZ168 (Nat.le_of_eq g169.symm)
        have SZ169 : n0 ≤ h169.size := Nat.le_trans SZ168 E169.1
        have f169_S_st_MESSAGE := Sta.ext E169 f168_S_st_MESSAGE
        have f169_Eb160 := Exa.ext E169 f168_Eb160
        have f169_Vb160 := Arv.ext V168 E169
        have F_bytes_b169 : Fld Z h169 b169 "com/example/bad_status/badstatus/model/ProtoReader" "bytes" "[B" .null := D169 (Or.inr (ww hw 15 rfl)) (ty := (.array .byte)) (by decide)
        have F_position_b169 : Fld Z h169 b169 "com/example/bad_status/badstatus/model/ProtoReader" "position" "I" (.int (0 : Int32)) := D169 (Or.inl (ww hw 17 rfl)) (ty := .int) (by decide)
        have F_end_b169 : Fld Z h169 b169 "com/example/bad_status/badstatus/model/ProtoReader" "end" "I" (.int (0 : Int32)) := D169 (Or.inr (ww hw 19 rfl)) (ty := .int) (by decide)
        have F_place_b169 : Fld Z h169 b169 "com/example/bad_status/badstatus/model/ProtoReader" "place" "Lcom/example/bad_status/badstatus/model/Place;" .null := D169 (Or.inr (ww hw 21 rfl)) (ty := (.object "com/example/bad_status/badstatus/model/Place")) (by decide)
        refine Gz.st st169 ?_
        refine Gz.dup 122 X169 hx (dd at_121) rfl rfl ?_
        refine Gz.aload 124 X169 hx (dd at_122) rfl rfl rfl ?_
        obtain ⟨_, _, ⟨T170, L170, k170, n170⟩, -, X170, ⟨Lc170, hQ170, l170, y170, z170⟩, st170⟩ := X169.specialBack hx (y := ym4) rfl hown (mvT hZ (ww hw 5 rfl)) (mvT hZ (ww hw 6 rfl)) (mvT hZ (ww hw 7 rfl)) (by decide) (backOf (W := 1) (rmI1_4 l Z av0 hw [] b169 b160 k160 (2 : Int32) ((p2 &&& (127 : Int32)).toInt8.toInt32) ((p3 &&& (127 : Int32)).toInt8.toInt32) ((p4 &&& (127 : Int32)).toInt8.toInt32) h169 n0 SZ169 A169 F_bytes_b169 F_position_b169 F_end_b169 F_place_b169 g_b169 f169_Vb160 ne_b160_b169) hZ (ww hw 7 rfl) (ww hw 4 rfl) (by decide) (by decide)) (g := (mkF m 124 #[.val (.int p0), .val (.int p1), .val (.int p2), .val (.int p3), .val (.int p4), .val (.int p5), .val (.int (4 : Int32)), .val (.int (1 : Int32)), .val (.int rr), .val (.int (2 : Int32)), .val (.ref b160), .unset, .unset, .unset, .unset, .unset, .unset, .unset] [(.ref b160), (.ref b169), (.ref b169)])) rfl (by rw [hml]; rfl) (Steps.refl _) (a := b169) (argsL := [(.ref b160)]) (rest := [(.ref b169)]) (lenOf pd_4 rfl) rfl (Nat.le_refl _) (dd at_124) (fun _ _ => ⟨rfl, e169, (by decide : 2 + 0 ≤ _), (by decide : 8 + 0 ≤ _)⟩)
        dsimp only [Pt.U, Pt.locs, Pt.cells, Pt.slots, Q_rmI1_4] at X170 l170 y170 z170 st170 hQ170
        subst l170 y170 z170
        obtain ⟨rfl, N170q, K170q, QE170_0, QF170_0, QF170_1, QF170_2, QF170_3⟩ := hQ170
        have N170 := Fr.app N168 N170q
        have f170_S_st_MESSAGE := own_staK f169_S_st_MESSAGE K170q (allS (nst_of A169) all0)
        have f170_Eb160 := Exa.keep f169_Eb160 K170q
        have f170_Vb160 := Arv.keep f169_Vb160 K170q (ninS ne_b160_b169 nin0)
        have f170_Eb169 := Exa.keep A169 K170q
        have SZ170 := Nat.le_trans SZ169 K170q.1
        refine Gz.tr st170 ?_
        refine Gz.astore 129 #[.val (.int p0), .val (.int p1), .val (.int p2), .val (.int p3), .val (.int p4), .val (.int p5), .val (.int (4 : Int32)), .val (.int (1 : Int32)), .val (.int rr), .val (.int (2 : Int32)), .val (.ref b160), .val (.ref b169), .unset, .unset, .unset, .unset, .unset, .unset] X170 hx (dd at_127) rfl rfl rfl ?_
        refine Gz.aload 131 X170 hx (dd at_129) rfl rfl rfl ?_
        obtain ⟨cq171, kq171, q171a, q171b, q171c⟩ := isOf hZ rfl QE170_0
        obtain ⟨_, _, ⟨T171, L171, k171, n171⟩, -, X171, ⟨Lc171, hQ171, l171, y171, z171⟩, st171⟩ := X170.virtualBack hx (y := ym3) (z := ym3) hown (mvT hZ (ww hw 22 rfl)) (mvT hZ (ww hw 23 rfl)) (notFace_of_selects (args := #[]) (mvT hZ (ww hw 25 rfl))) (mvT hZ (ww hw 25 rfl)) (mvT hZ (ww hw 24 rfl)) (by decide) (backOf (W := 0) (rm4 l Z av0 hw [] b169 (0 : Int32) (4 : Int32) T170.heap n0 SZ170 QF170_1 QF170_2) hZ (ww hw 26 rfl) (ww hw 4 rfl) (by decide) (by decide)) q171a q171c (g := (mkF m 131 #[.val (.int p0), .val (.int p1), .val (.int p2), .val (.int p3), .val (.int p4), .val (.int p5), .val (.int (4 : Int32)), .val (.int (1 : Int32)), .val (.int rr), .val (.int (2 : Int32)), .val (.ref b160), .val (.ref b169), .unset, .unset, .unset, .unset, .unset, .unset] [(.ref b169)])) rfl (by rw [hml]; rfl) (Steps.refl _) (argsL := []) (rest := []) (lenOf pd_3 rfl) rfl (Nat.le_refl _) (dd at_131) (fun _ _ => ⟨rfl, rfl, (by decide : 2 + 0 ≤ _), (by decide : 8 + 0 ≤ _)⟩)
        dsimp only [Pt.U, Pt.locs, Pt.cells, Pt.slots, Q_rm4] at X171 l171 y171 z171 st171 hQ171
        subst l171 y171 z171
        rw [show (fHM b169 (0 : Int32) (4 : Int32)) = (1 : Int32) from (by unfold fHM; rw [if_pos (by decide : (0 : Int32) < (4 : Int32))]; try decide)] at hQ171
        obtain ⟨rfl, N171q, e171⟩ := hQ171
        have N171 := Fr.app N170 N171q
        refine Gz.tr st171 ?_
        refine Gz.iload 136 X171 hx (dd at_134) rfl rfl ?_
        refine Gz.ifNo 139 X171 hx (dd at_136) ((if0 _ _).trans (tlt (by decide : (0 : Int32) < (4 : Int32))).2.2.2) rfl ?_
        refine Gz.iconst 140 (1 : Int32) X171 hx (dd at_139) rfl rfl ?_
        refine Gz.goto 144 X171 hx (dd at_140) (by decide) (by decide) ?_
        refine Gz.icmpNo 147 X171 hx (dd at_144) (teq (by decide : (1 : Int32) = (1 : Int32))).2 rfl ?_
        refine Gz.iconst 148 (1 : Int32) X171 hx (dd at_147) rfl rfl ?_
        refine Gz.goto 152 X171 hx (dd at_148) (by decide) (by decide) ?_
        refine Gz.istore 154 #[.val (.int p0), .val (.int p1), .val (.int p2), .val (.int p3), .val (.int p4), .val (.int p5), .val (.int (4 : Int32)), .val (.int (1 : Int32)), .val (.int rr), .val (.int (2 : Int32)), .val (.ref b160), .val (.ref b169), .val (.int (1 : Int32)), .unset, .unset, .unset, .unset, .unset] X171 hx (dd at_152) rfl rfl ?_
        refine Gz.aload 156 X171 hx (dd at_154) rfl rfl rfl ?_
        refine Gz.astore 158 #[.val (.int p0), .val (.int p1), .val (.int p2), .val (.int p3), .val (.int p4), .val (.int p5), .val (.int (4 : Int32)), .val (.int (1 : Int32)), .val (.int rr), .val (.int (2 : Int32)), .val (.ref b160), .val (.ref b169), .val (.int (1 : Int32)), .val (.ref b169), .unset, .unset, .unset, .unset] X171 hx (dd at_156) rfl rfl rfl ?_
        refine Gz.iload 160 X171 hx (dd at_158) rfl rfl ?_
        refine Gz.istore 162 #[.val (.int p0), .val (.int p1), .val (.int p2), .val (.int p3), .val (.int p4), .val (.int p5), .val (.int (4 : Int32)), .val (.int (1 : Int32)), .val (.int rr), .val (.int (2 : Int32)), .val (.ref b160), .val (.ref b169), .val (.int (1 : Int32)), .val (.ref b169), .val (.int (4 : Int32)), .unset, .unset, .unset] X171 hx (dd at_160) rfl rfl ?_
        refine Gz.iconst 163 (0 : Int32) X171 hx (dd at_162) rfl rfl ?_
        refine Gz.istore 165 #[.val (.int p0), .val (.int p1), .val (.int p2), .val (.int p3), .val (.int p4), .val (.int p5), .val (.int (4 : Int32)), .val (.int (1 : Int32)), .val (.int rr), .val (.int (2 : Int32)), .val (.ref b160), .val (.ref b169), .val (.int (1 : Int32)), .val (.ref b169), .val (.int (4 : Int32)), .val (.int (0 : Int32)), .unset, .unset] X171 hx (dd at_163) rfl rfl ?_
        refine Gz.iload 167 X171 hx (dd at_165) rfl rfl ?_
        refine Gz.ifNo 170 X171 hx (dd at_167) ((if0 _ _).trans (feq (by decide : ¬ ((1 : Int32) = (0 : Int32)))).1) rfl ?_
        refine Gz.iload 172 X171 hx (dd at_170) rfl rfl ?_
        refine Gz.istore 174 #[.val (.int p0), .val (.int p1), .val (.int p2), .val (.int p3), .val (.int p4), .val (.int p5), .val (.int (4 : Int32)), .val (.int (1 : Int32)), .val (.int rr), .val (.int (2 : Int32)), .val (.ref b160), .val (.ref b169), .val (.int (1 : Int32)), .val (.ref b169), .val (.int (4 : Int32)), .val (.int (0 : Int32)), .unset, .val (.int (2 : Int32))] X171 hx (dd at_172) rfl rfl ?_
        refine Gz.aload 176 X171 hx (dd at_174) rfl rfl rfl ?_
        refine Gz.getS 179 X171 hx hZ hown (dd at_176) (host := "") (Or.inl (ww hw 32 rfl)) Via.refl e171 f170_S_st_MESSAGE rfl fun T172 X172 e172 => ?_
        obtain ⟨cq173, kq173, q173a, q173b, q173c⟩ := isOf hZ e172 QE170_0
        obtain ⟨_, _, ⟨T173, L173, k173, n173⟩, -, X173, ⟨Lc173, hQ173, l173, y173, z173⟩, st173⟩ := X172.virtualBack hx (y := ym5) (z := ym5) hown (mvT hZ (ww hw 35 rfl)) (mvT hZ (ww hw 36 rfl)) (notFace_of_selects (args := #[]) (mvT hZ (ww hw 38 rfl))) (mvT hZ (ww hw 38 rfl)) (mvT hZ (ww hw 37 rfl)) (by decide) (backOf (W := 0) (rmM42 l Z av0 hw [] b169 st_MESSAGE b160 k160 ((p2 &&& (127 : Int32)).toInt8.toInt32) ((p3 &&& (127 : Int32)).toInt8.toInt32) ((p4 &&& (127 : Int32)).toInt8.toInt32) T170.heap n0 SZ170 QE170_0 QF170_0 QF170_1 QF170_2 g_b169 f170_Vb160 ne_b160_b169) hZ (ww hw 39 rfl) (ww hw 4 rfl) (by decide) (by decide)) q173a q173c (g := (mkF m 179 #[.val (.int p0), .val (.int p1), .val (.int p2), .val (.int p3), .val (.int p4), .val (.int p5), .val (.int (4 : Int32)), .val (.int (1 : Int32)), .val (.int rr), .val (.int (2 : Int32)), .val (.ref b160), .val (.ref b169), .val (.int (1 : Int32)), .val (.ref b169), .val (.int (4 : Int32)), .val (.int (0 : Int32)), .unset, .val (.int (2 : Int32))] [(.ref st_MESSAGE), (.ref b169)])) rfl (by rw [hml]; rfl) (Steps.refl _) (argsL := [(.ref st_MESSAGE)]) (rest := []) (lenOf pd_5 rfl) rfl (Nat.le_refl _) (dd at_179) (fun _ _ => ⟨rfl, e172, (by decide : 2 + 1 ≤ _), (by decide : 8 + 4 ≤ _)⟩)
        dsimp only [Pt.U, Pt.locs, Pt.cells, Pt.slots, Q_rmM42] at X173 l173 y173 z173 st173 hQ173
        subst l173 y173 z173
        obtain ⟨rd173, rfl, N173q, K173q, QE173, QB173, QP173, QN173, gr173, szr173, RE173, RB173, RP173, RN173⟩ := hQ173
        have N173 := Fr.app N171 N173q
        have ne_b160_rd173 : b160 ≠ rd173 := Nat.ne_of_lt (Nat.lt_of_lt_of_le (f170_Vb160).lt szr173)
        have ne_b169_rd173 : b169 ≠ rd173 := Nat.ne_of_lt (Nat.lt_of_lt_of_le (QF170_3).lt szr173)
        have f173_S_st_MESSAGE := own_staK f170_S_st_MESSAGE K173q (allS (nst_of QE170_0) all0)
        have f173_Eb160 := Exa.keep f170_Eb160 K173q
        have f173_Vb160 := Arv.keep f170_Vb160 K173q (ninS ne_b160_b169 nin0)
        have f173_E_b169 := Exa.keep QE170_0 K173q
        have SZ173 := Nat.le_trans SZ170 K173q.1
        refine Gz.tr st173 ?_
        refine Gz.astore 184 #[.val (.int p0), .val (.int p1), .val (.int p2), .val (.int p3), .val (.int p4), .val (.int p5), .val (.int (4 : Int32)), .val (.int (1 : Int32)), .val (.int rr), .val (.int (2 : Int32)), .val (.ref b160), .val (.ref b169), .val (.int (1 : Int32)), .val (.ref rd173), .val (.int (4 : Int32)), .val (.int (0 : Int32)), .unset, .val (.int (2 : Int32))] X173 hx (dd at_182) rfl rfl rfl ?_
        refine Gz.iload 186 X173 hx (dd at_184) rfl rfl ?_
        refine Gz.ifNo 189 X173 hx (dd at_186) ((if0 _ _).trans (feq (by decide : ¬ ((1 : Int32) = (0 : Int32)))).1) rfl ?_
        refine Gz.aload 191 X173 hx (dd at_189) rfl rfl rfl ?_
        obtain ⟨cq174, kq174, q174a, q174b, q174c⟩ := isOf hZ rfl QE173
        obtain ⟨_, _, ⟨T174, L174, k174, n174⟩, -, X174, ⟨Lc174, hQ174, l174, y174, z174⟩, st174⟩ := X173.virtualBack hx (y := ym3) (z := ym3) hown (mvT hZ (ww hw 22 rfl)) (mvT hZ (ww hw 23 rfl)) (notFace_of_selects (args := #[]) (mvT hZ (ww hw 25 rfl))) (mvT hZ (ww hw 25 rfl)) (mvT hZ (ww hw 24 rfl)) (by decide) (backOf (W := 0) (rm4 l Z av0 hw [] b169 (3 : Int32) (4 : Int32) T173.heap n0 SZ173 QP173 QN173) hZ (ww hw 26 rfl) (ww hw 4 rfl) (by decide) (by decide)) q174a q174c (g := (mkF m 191 #[.val (.int p0), .val (.int p1), .val (.int p2), .val (.int p3), .val (.int p4), .val (.int p5), .val (.int (4 : Int32)), .val (.int (1 : Int32)), .val (.int rr), .val (.int (2 : Int32)), .val (.ref b160), .val (.ref b169), .val (.int (1 : Int32)), .val (.ref rd173), .val (.int (4 : Int32)), .val (.int (0 : Int32)), .unset, .val (.int (2 : Int32))] [(.ref b169)])) rfl (by rw [hml]; rfl) (Steps.refl _) (argsL := []) (rest := []) (lenOf pd_3 rfl) rfl (Nat.le_refl _) (dd at_191) (fun _ _ => ⟨rfl, rfl, (by decide : 3 + 0 ≤ _), (by decide : 12 + 0 ≤ _)⟩)
        dsimp only [Pt.U, Pt.locs, Pt.cells, Pt.slots, Q_rm4] at X174 l174 y174 z174 st174 hQ174
        subst l174 y174 z174
        rw [show (fHM b169 (3 : Int32) (4 : Int32)) = (1 : Int32) from (by unfold fHM; rw [if_pos (by decide : (3 : Int32) < (4 : Int32))]; try decide)] at hQ174
        obtain ⟨rfl, N174q, e174⟩ := hQ174
        have N174 := Fr.app N173 N174q
        refine Gz.tr st174 ?_
        refine Gz.iconst 195 (1 : Int32) X174 hx (dd at_194) rfl rfl ?_
        refine Gz.iload 197 X174 hx (dd at_195) rfl rfl ?_
        refine Gz.iaddV 198 (3 : Int32) X174 hx (dd at_197) rfl rfl ?_
        refine Gz.iload 200 X174 hx (dd at_198) rfl rfl ?_
        refine Gz.icmpNo 203 X174 hx (dd at_200) (tlt (by decide : (3 : Int32) < (4 : Int32))).2.1 rfl ?_
        refine Gz.iconst 204 (1 : Int32) X174 hx (dd at_203) rfl rfl ?_
        refine Gz.goto 208 X174 hx (dd at_204) (by decide) (by decide) ?_
        refine Gz.icmpNo 211 X174 hx (dd at_208) (teq (by decide : (1 : Int32) = (1 : Int32))).2 rfl ?_
        refine Gz.iconst 212 (1 : Int32) X174 hx (dd at_211) rfl rfl ?_
        refine Gz.goto 216 X174 hx (dd at_212) (by decide) (by decide) ?_
        refine Gz.istore 218 #[.val (.int p0), .val (.int p1), .val (.int p2), .val (.int p3), .val (.int p4), .val (.int p5), .val (.int (4 : Int32)), .val (.int (1 : Int32)), .val (.int rr), .val (.int (2 : Int32)), .val (.ref b160), .val (.ref b169), .val (.int (1 : Int32)), .val (.ref rd173), .val (.int (4 : Int32)), .val (.int (0 : Int32)), .unset, .val (.int (2 : Int32))] X174 hx (dd at_216) rfl rfl ?_
        refine Gz.iload 220 X174 hx (dd at_218) rfl rfl ?_
        refine Gz.istore 222 #[.val (.int p0), .val (.int p1), .val (.int p2), .val (.int p3), .val (.int p4), .val (.int p5), .val (.int (4 : Int32)), .val (.int (1 : Int32)), .val (.int rr), .val (.int (2 : Int32)), .val (.ref b160), .val (.ref b169), .val (.int (1 : Int32)), .val (.ref rd173), .val (.int (2 : Int32)), .val (.int (0 : Int32)), .unset, .val (.int (2 : Int32))] X174 hx (dd at_220) rfl rfl ?_
        refine Gz.iconst 223 (1 : Int32) X174 hx (dd at_222) rfl rfl ?_
        refine Gz.istore 225 #[.val (.int p0), .val (.int p1), .val (.int p2), .val (.int p3), .val (.int p4), .val (.int p5), .val (.int (4 : Int32)), .val (.int (1 : Int32)), .val (.int rr), .val (.int (2 : Int32)), .val (.ref b160), .val (.ref b169), .val (.int (1 : Int32)), .val (.ref rd173), .val (.int (2 : Int32)), .val (.int (0 : Int32)), .val (.int (1 : Int32)), .val (.int (2 : Int32))] X174 hx (dd at_223) rfl rfl ?_
        refine Gz.goto 240 X174 hx (dd at_225) (by decide) (by decide) ?_
        exact sg_4_2_1 (.val (.int p0)) (.val (.int p1)) (.val (.int p2)) (.val (.int p3)) (.val (.int p4)) (.val (.int p5)) (.val (.int (4 : Int32))) (.val (.int (1 : Int32))) rr (.val (.int (2 : Int32))) (.val (.ref b160)) (.val (.ref b169)) rd173 (.val (.int (2 : Int32))) b160 k160 ((p2 &&& (127 : Int32)).toInt8.toInt32) ((p3 &&& (127 : Int32)).toInt8.toInt32) ((p4 &&& (127 : Int32)).toInt8.toInt32) n0 X174 hx hZ hw hby hml hown hret hlk e174 N174 SZ173 RE173 RB173 RP173 RN173 gr173 f173_Vb160 ne_b160_rd173 ((own_7 _) : ¬ (((p2 &&& (127 : Int32)).toInt8.toInt32) < (0 : Int32))) ((own_7 _) : ¬ (((p3 &&& (127 : Int32)).toInt8.toInt32) < (0 : Int32))) ((own_7 _) : ¬ (((p4 &&& (127 : Int32)).toInt8.toInt32) < (0 : Int32)))
      · rw [hs129]
        refine Gz.i2bV 48 (3 : Int32) X0 hx (dd at_47) rfl rfl ?_
        refine Gz.goto 53 X0 hx (dd at_48) (by decide) (by decide) ?_
        refine Gz.istore 55 #[.val (.int p0), .val (.int p1), .val (.int p2), .val (.int p3), .val (.int p4), .val (.int p5), .val (.int (4 : Int32)), .val (.int (1 : Int32)), .val (.int rr), .val (.int (3 : Int32)), .unset, .unset, .unset, .unset, .unset, .unset, .unset, .unset] X0 hx (dd at_53) rfl rfl ?_
        refine Gz.iload 57 X0 hx (dd at_55) rfl rfl ?_
        obtain ⟨T175, h175, k175, X175, e175, E175, A175, Q175, st175⟩ := newPE X0 hx hZ (ww hw 1 rfl) e0 (g := (mkF m 57 #[.val (.int p0), .val (.int p1), .val (.int p2), .val (.int p3), .val (.int p4), .val (.int p5), .val (.int (4 : Int32)), .val (.int (1 : Int32)), .val (.int rr), .val (.int (3 : Int32)), .unset, .unset, .unset, .unset, .unset, .unset, .unset, .unset] [(.int (4 : Int32))])) rfl (dd at_57) rfl (by decide) (cap := 4) (by decide) (by decide) (by decide) (by decide) (ad := "[B") rfl
        obtain ⟨b175, g175⟩ : ∃ z, z = h0.size := ⟨_, rfl⟩
        rw [← g175] at A175 Q175 st175
        have g_b175 : n0 ≤ b175 := Nat.le_trans Z0 (Nat.le_of_eq g175.symm)
        have SZ175 : n0 ≤ h175.size := Nat.le_trans Z0 E175.1
        have f175_S_st_MESSAGE := Sta.ext E175 S_st_MESSAGE
        have V175 : Arv Z h175 b175 k175 .byte (4 : Int32) [(.int (0 : Int32)), (.int (0 : Int32)), (.int (0 : Int32)), (.int (0 : Int32))] (.int (0 : Int32)) := (Arv.new A175 (by decide)).pad (pad_rep [] (.int (0 : Int32)) 4)
        refine Gz.st st175 ?_
        refine Gz.astore 61 #[.val (.int p0), .val (.int p1), .val (.int p2), .val (.int p3), .val (.int p4), .val (.int p5), .val (.int (4 : Int32)), .val (.int (1 : Int32)), .val (.int rr), .val (.int (3 : Int32)), .val (.ref b175), .unset, .unset, .unset, .unset, .unset, .unset, .unset] X175 hx (dd at_59) rfl rfl rfl ?_
        refine Gz.iload 63 X175 hx (dd at_61) rfl rfl ?_
        refine Gz.ifNo 66 X175 hx (dd at_63) ((if0 _ _).trans (tlt (by decide : (0 : Int32) < (4 : Int32))).2.2.2) rfl ?_
        refine Gz.aload 68 X175 hx (dd at_66) rfl rfl rfl ?_
        refine Gz.iconst 69 (0 : Int32) X175 hx (dd at_68) rfl rfl ?_
        refine Gz.iload 71 X175 hx (dd at_69) rfl rfl ?_
        obtain ⟨c176, A176, q176, S176, N176, H176, G176⟩ := id V175
        have hin176 : ¬ ((0 : Int32) < 0 ∨ c176.slots.size ≤ ((0 : Int32)).toNatClampNeg) := inb_of S176 ⟨by decide, by decide⟩
        refine Gz.stB 72 X175 hx hZ (dd at_71) e175 A176 hin176 rfl fun T177 h177 X177 e177 W177 => ?_
        have V177 := Arv.set A176 q176 S176 N176 H176 G176 (fits_nar_byte _) W177 0 rfl (Nat.le_of_ble_eq_true rfl)
        replace V177 : Arv Z h177 b175 k175 .byte (4 : Int32) [(.int (3 : Int32)), (.int (0 : Int32)), (.int (0 : Int32)), (.int (0 : Int32))] (.int (0 : Int32)) := V177
        have f177_S_st_MESSAGE := Sta.wr W177 f175_S_st_MESSAGE
        have f177_Eb175 := Exa.wr W177 Q175
        have N177 := Fr.snoc X177 N0 g_b175
        have SZ177 : n0 ≤ h177.size := Nat.le_trans SZ175 (Keep.of_wr W177).1
        refine Gz.iload 74 X177 hx (dd at_72) rfl rfl ?_
        refine Gz.iconst 75 (1 : Int32) X177 hx (dd at_74) rfl rfl ?_
        refine Gz.icmpNo 78 X177 hx (dd at_75) (tlt (by decide : (1 : Int32) < (4 : Int32))).2.2.2 rfl ?_
        refine Gz.aload 80 X177 hx (dd at_78) rfl rfl rfl ?_
        refine Gz.iconst 81 (1 : Int32) X177 hx (dd at_80) rfl rfl ?_
        refine Gz.iloadN 82 X177 hx (dd at_81) rfl rfl ?_
        refine Gz.bipush 84 (127 : Int32) X177 hx (dd at_82) rfl rfl ?_
        refine Gz.iand 85 X177 hx (dd at_84) rfl ?_
        refine Gz.i2b 86 X177 hx (dd at_85) rfl ?_
        obtain ⟨c178, A178, q178, S178, N178, H178, G178⟩ := id V177
        have hin178 : ¬ ((1 : Int32) < 0 ∨ c178.slots.size ≤ ((1 : Int32)).toNatClampNeg) := inb_of S178 ⟨by decide, by decide⟩
        refine Gz.stB 87 X177 hx hZ (dd at_86) e177 A178 hin178 rfl fun T179 h179 X179 e179 W179 => ?_
        rw [own_nb] at W179
        have V179 := Arv.set A178 q178 S178 N178 H178 G178 (fits_nar_byte _) W179 1 rfl (Nat.le_of_ble_eq_true rfl)
        replace V179 : Arv Z h179 b175 k175 .byte (4 : Int32) [(.int (3 : Int32)), (.int ((p2 &&& (127 : Int32)).toInt8.toInt32)), (.int (0 : Int32)), (.int (0 : Int32))] (.int (0 : Int32)) := V179
        have f179_S_st_MESSAGE := Sta.wr W179 f177_S_st_MESSAGE
        have f179_Eb175 := Exa.wr W179 f177_Eb175
        have N179 := Fr.snoc X179 N177 g_b175
        have SZ179 : n0 ≤ h179.size := Nat.le_trans SZ177 (Keep.of_wr W179).1
        refine Gz.iload 89 X179 hx (dd at_87) rfl rfl ?_
        refine Gz.iconst 90 (2 : Int32) X179 hx (dd at_89) rfl rfl ?_
        refine Gz.icmpNo 93 X179 hx (dd at_90) (tlt (by decide : (2 : Int32) < (4 : Int32))).2.2.2 rfl ?_
        refine Gz.aload 95 X179 hx (dd at_93) rfl rfl rfl ?_
        refine Gz.iconst 96 (2 : Int32) X179 hx (dd at_95) rfl rfl ?_
        refine Gz.iloadN 97 X179 hx (dd at_96) rfl rfl ?_
        refine Gz.bipush 99 (127 : Int32) X179 hx (dd at_97) rfl rfl ?_
        refine Gz.iand 100 X179 hx (dd at_99) rfl ?_
        refine Gz.i2b 101 X179 hx (dd at_100) rfl ?_
        obtain ⟨c180, A180, q180, S180, N180, H180, G180⟩ := id V179
        have hin180 : ¬ ((2 : Int32) < 0 ∨ c180.slots.size ≤ ((2 : Int32)).toNatClampNeg) := inb_of S180 ⟨by decide, by decide⟩
        refine Gz.stB 102 X179 hx hZ (dd at_101) e179 A180 hin180 rfl fun T181 h181 X181 e181 W181 => ?_
        rw [own_nb] at W181
        have V181 := Arv.set A180 q180 S180 N180 H180 G180 (fits_nar_byte _) W181 2 rfl (Nat.le_of_ble_eq_true rfl)
        replace V181 : Arv Z h181 b175 k175 .byte (4 : Int32) [(.int (3 : Int32)), (.int ((p2 &&& (127 : Int32)).toInt8.toInt32)), (.int ((p3 &&& (127 : Int32)).toInt8.toInt32)), (.int (0 : Int32))] (.int (0 : Int32)) := V181
        have f181_S_st_MESSAGE := Sta.wr W181 f179_S_st_MESSAGE
        have f181_Eb175 := Exa.wr W181 f179_Eb175
        have N181 := Fr.snoc X181 N179 g_b175
        have SZ181 : n0 ≤ h181.size := Nat.le_trans SZ179 (Keep.of_wr W181).1
        refine Gz.iload 104 X181 hx (dd at_102) rfl rfl ?_
        refine Gz.iconst 105 (3 : Int32) X181 hx (dd at_104) rfl rfl ?_
        refine Gz.icmpNo 108 X181 hx (dd at_105) (tlt (by decide : (3 : Int32) < (4 : Int32))).2.2.2 rfl ?_
        refine Gz.aload 110 X181 hx (dd at_108) rfl rfl rfl ?_
        refine Gz.iconst 111 (3 : Int32) X181 hx (dd at_110) rfl rfl ?_
        refine Gz.iload 113 X181 hx (dd at_111) rfl rfl ?_
        refine Gz.bipush 115 (127 : Int32) X181 hx (dd at_113) rfl rfl ?_
        refine Gz.iand 116 X181 hx (dd at_115) rfl ?_
        refine Gz.i2b 117 X181 hx (dd at_116) rfl ?_
        obtain ⟨c182, A182, q182, S182, N182, H182, G182⟩ := id V181
        have hin182 : ¬ ((3 : Int32) < 0 ∨ c182.slots.size ≤ ((3 : Int32)).toNatClampNeg) := inb_of S182 ⟨by decide, by decide⟩
        refine Gz.stB 118 X181 hx hZ (dd at_117) e181 A182 hin182 rfl fun T183 h183 X183 e183 W183 => ?_
        rw [own_nb] at W183
        have V183 := Arv.set A182 q182 S182 N182 H182 G182 (fits_nar_byte _) W183 3 rfl (Nat.le_of_ble_eq_true rfl)
        replace V183 : Arv Z h183 b175 k175 .byte (4 : Int32) [(.int (3 : Int32)), (.int ((p2 &&& (127 : Int32)).toInt8.toInt32)), (.int ((p3 &&& (127 : Int32)).toInt8.toInt32)), (.int ((p4 &&& (127 : Int32)).toInt8.toInt32))] (.int (0 : Int32)) := V183
        have f183_S_st_MESSAGE := Sta.wr W183 f181_S_st_MESSAGE
        have f183_Eb175 := Exa.wr W183 f181_Eb175
        have N183 := Fr.snoc X183 N181 g_b175
        have SZ183 : n0 ≤ h183.size := Nat.le_trans SZ181 (Keep.of_wr W183).1
        obtain ⟨T184, h184, X184, e184, E184, A184, D184, -, st184⟩ := newO X183 hx hZ hown (ww hw 2 rfl) (ww hw 3 rfl) (ww hw 4 rfl) e183 (g := (mkF m 118 #[.val (.int p0), .val (.int p1), .val (.int p2), .val (.int p3), .val (.int p4), .val (.int p5), .val (.int (4 : Int32)), .val (.int (1 : Int32)), .val (.int rr), .val (.int (3 : Int32)), .val (.ref b175), .unset, .unset, .unset, .unset, .unset, .unset, .unset] [])) rfl (dd at_118) (by decide) (by decide)
        obtain ⟨b184, g184⟩ : ∃ z, z = h183.size := ⟨_, rfl⟩
        rw [← g184] at A184 D184 st184
        have ne_b175_b184 : b175 ≠ b184 := Nat.ne_of_lt (Nat.lt_of_lt_of_le (f183_Eb175).lt (Nat.le_of_eq g184.symm))
        have g_b184 : n0 ≤ b184 := Nat.le_trans SZ183 (Nat.le_of_eq g184.symm)
        have SZ184 : n0 ≤ h184.size := Nat.le_trans SZ183 E184.1
        have f184_S_st_MESSAGE := Sta.ext E184 f183_S_st_MESSAGE
        have f184_Eb175 := Exa.ext E184 f183_Eb175
        have f184_Vb175 := Arv.ext V183 E184
        have F_bytes_b184 : Fld Z h184 b184 "com/example/bad_status/badstatus/model/ProtoReader" "bytes" "[B" .null := D184 (Or.inr (ww hw 15 rfl)) (ty := (.array .byte)) (by decide)
        have F_position_b184 : Fld Z h184 b184 "com/example/bad_status/badstatus/model/ProtoReader" "position" "I" (.int (0 : Int32)) := D184 (Or.inl (ww hw 17 rfl)) (ty := .int) (by decide)
        have F_end_b184 : Fld Z h184 b184 "com/example/bad_status/badstatus/model/ProtoReader" "end" "I" (.int (0 : Int32)) := D184 (Or.inr (ww hw 19 rfl)) (ty := .int) (by decide)
        have F_place_b184 : Fld Z h184 b184 "com/example/bad_status/badstatus/model/ProtoReader" "place" "Lcom/example/bad_status/badstatus/model/Place;" .null := D184 (Or.inr (ww hw 21 rfl)) (ty := (.object "com/example/bad_status/badstatus/model/Place")) (by decide)
        refine Gz.st st184 ?_
        refine Gz.dup 122 X184 hx (dd at_121) rfl rfl ?_
        refine Gz.aload 124 X184 hx (dd at_122) rfl rfl rfl ?_
        obtain ⟨_, _, ⟨T185, L185, k185, n185⟩, -, X185, ⟨Lc185, hQ185, l185, y185, z185⟩, st185⟩ := X184.specialBack hx (y := ym4) rfl hown (mvT hZ (ww hw 5 rfl)) (mvT hZ (ww hw 6 rfl)) (mvT hZ (ww hw 7 rfl)) (by decide) (backOf (W := 1) (rmI1_4 l Z av0 hw [] b184 b175 k175 (3 : Int32) ((p2 &&& (127 : Int32)).toInt8.toInt32) ((p3 &&& (127 : Int32)).toInt8.toInt32) ((p4 &&& (127 : Int32)).toInt8.toInt32) h184 n0 SZ184 A184 F_bytes_b184 F_position_b184 F_end_b184 F_place_b184 g_b184 f184_Vb175 ne_b175_b184) hZ (ww hw 7 rfl) (ww hw 4 rfl) (by decide) (by decide)) (g := (mkF m 124 #[.val (.int p0), .val (.int p1), .val (.int p2), .val (.int p3), .val (.int p4), .val (.int p5), .val (.int (4 : Int32)), .val (.int (1 : Int32)), .val (.int rr), .val (.int (3 : Int32)), .val (.ref b175), .unset, .unset, .unset, .unset, .unset, .unset, .unset] [(.ref b175), (.ref b184), (.ref b184)])) rfl (by rw [hml]; rfl) (Steps.refl _) (a := b184) (argsL := [(.ref b175)]) (rest := [(.ref b184)]) (lenOf pd_4 rfl) rfl (Nat.le_refl _) (dd at_124) (fun _ _ => ⟨rfl, e184, (by decide : 2 + 0 ≤ _), (by decide : 8 + 0 ≤ _)⟩)
        dsimp only [Pt.U, Pt.locs, Pt.cells, Pt.slots, Q_rmI1_4] at X185 l185 y185 z185 st185 hQ185
        subst l185 y185 z185
        obtain ⟨rfl, N185q, K185q, QE185_0, QF185_0, QF185_1, QF185_2, QF185_3⟩ := hQ185
        have N185 := Fr.app N183 N185q
        have f185_S_st_MESSAGE := own_staK f184_S_st_MESSAGE K185q (allS (nst_of A184) all0)
        have f185_Eb175 := Exa.keep f184_Eb175 K185q
        have f185_Vb175 := Arv.keep f184_Vb175 K185q (ninS ne_b175_b184 nin0)
        have f185_Eb184 := Exa.keep A184 K185q
        have SZ185 := Nat.le_trans SZ184 K185q.1
        refine Gz.tr st185 ?_
        refine Gz.astore 129 #[.val (.int p0), .val (.int p1), .val (.int p2), .val (.int p3), .val (.int p4), .val (.int p5), .val (.int (4 : Int32)), .val (.int (1 : Int32)), .val (.int rr), .val (.int (3 : Int32)), .val (.ref b175), .val (.ref b184), .unset, .unset, .unset, .unset, .unset, .unset] X185 hx (dd at_127) rfl rfl rfl ?_
        refine Gz.aload 131 X185 hx (dd at_129) rfl rfl rfl ?_
        obtain ⟨cq186, kq186, q186a, q186b, q186c⟩ := isOf hZ rfl QE185_0
        obtain ⟨_, _, ⟨T186, L186, k186, n186⟩, -, X186, ⟨Lc186, hQ186, l186, y186, z186⟩, st186⟩ := X185.virtualBack hx (y := ym3) (z := ym3) hown (mvT hZ (ww hw 22 rfl)) (mvT hZ (ww hw 23 rfl)) (notFace_of_selects (args := #[]) (mvT hZ (ww hw 25 rfl))) (mvT hZ (ww hw 25 rfl)) (mvT hZ (ww hw 24 rfl)) (by decide) (backOf (W := 0) (rm4 l Z av0 hw [] b184 (0 : Int32) (4 : Int32) T185.heap n0 SZ185 QF185_1 QF185_2) hZ (ww hw 26 rfl) (ww hw 4 rfl) (by decide) (by decide)) q186a q186c (g := (mkF m 131 #[.val (.int p0), .val (.int p1), .val (.int p2), .val (.int p3), .val (.int p4), .val (.int p5), .val (.int (4 : Int32)), .val (.int (1 : Int32)), .val (.int rr), .val (.int (3 : Int32)), .val (.ref b175), .val (.ref b184), .unset, .unset, .unset, .unset, .unset, .unset] [(.ref b184)])) rfl (by rw [hml]; rfl) (Steps.refl _) (argsL := []) (rest := []) (lenOf pd_3 rfl) rfl (Nat.le_refl _) (dd at_131) (fun _ _ => ⟨rfl, rfl, (by decide : 2 + 0 ≤ _), (by decide : 8 + 0 ≤ _)⟩)
        dsimp only [Pt.U, Pt.locs, Pt.cells, Pt.slots, Q_rm4] at X186 l186 y186 z186 st186 hQ186
        subst l186 y186 z186
        rw [show (fHM b184 (0 : Int32) (4 : Int32)) = (1 : Int32) from (by unfold fHM; rw [if_pos (by decide : (0 : Int32) < (4 : Int32))]; try decide)] at hQ186
        obtain ⟨rfl, N186q, e186⟩ := hQ186
        have N186 := Fr.app N185 N186q
        refine Gz.tr st186 ?_
        refine Gz.iload 136 X186 hx (dd at_134) rfl rfl ?_
        refine Gz.ifNo 139 X186 hx (dd at_136) ((if0 _ _).trans (tlt (by decide : (0 : Int32) < (4 : Int32))).2.2.2) rfl ?_
        refine Gz.iconst 140 (1 : Int32) X186 hx (dd at_139) rfl rfl ?_
        refine Gz.goto 144 X186 hx (dd at_140) (by decide) (by decide) ?_
        refine Gz.icmpNo 147 X186 hx (dd at_144) (teq (by decide : (1 : Int32) = (1 : Int32))).2 rfl ?_
        refine Gz.iconst 148 (1 : Int32) X186 hx (dd at_147) rfl rfl ?_
        refine Gz.goto 152 X186 hx (dd at_148) (by decide) (by decide) ?_
        refine Gz.istore 154 #[.val (.int p0), .val (.int p1), .val (.int p2), .val (.int p3), .val (.int p4), .val (.int p5), .val (.int (4 : Int32)), .val (.int (1 : Int32)), .val (.int rr), .val (.int (3 : Int32)), .val (.ref b175), .val (.ref b184), .val (.int (1 : Int32)), .unset, .unset, .unset, .unset, .unset] X186 hx (dd at_152) rfl rfl ?_
        refine Gz.aload 156 X186 hx (dd at_154) rfl rfl rfl ?_
        refine Gz.astore 158 #[.val (.int p0), .val (.int p1), .val (.int p2), .val (.int p3), .val (.int p4), .val (.int p5), .val (.int (4 : Int32)), .val (.int (1 : Int32)), .val (.int rr), .val (.int (3 : Int32)), .val (.ref b175), .val (.ref b184), .val (.int (1 : Int32)), .val (.ref b184), .unset, .unset, .unset, .unset] X186 hx (dd at_156) rfl rfl rfl ?_
        refine Gz.iload 160 X186 hx (dd at_158) rfl rfl ?_
        refine Gz.istore 162 #[.val (.int p0), .val (.int p1), .val (.int p2), .val (.int p3), .val (.int p4), .val (.int p5), .val (.int (4 : Int32)), .val (.int (1 : Int32)), .val (.int rr), .val (.int (3 : Int32)), .val (.ref b175), .val (.ref b184), .val (.int (1 : Int32)), .val (.ref b184), .val (.int (4 : Int32)), .unset, .unset, .unset] X186 hx (dd at_160) rfl rfl ?_
        refine Gz.iconst 163 (0 : Int32) X186 hx (dd at_162) rfl rfl ?_
        refine Gz.istore 165 #[.val (.int p0), .val (.int p1), .val (.int p2), .val (.int p3), .val (.int p4), .val (.int p5), .val (.int (4 : Int32)), .val (.int (1 : Int32)), .val (.int rr), .val (.int (3 : Int32)), .val (.ref b175), .val (.ref b184), .val (.int (1 : Int32)), .val (.ref b184), .val (.int (4 : Int32)), .val (.int (0 : Int32)), .unset, .unset] X186 hx (dd at_163) rfl rfl ?_
        refine Gz.iload 167 X186 hx (dd at_165) rfl rfl ?_
        refine Gz.ifNo 170 X186 hx (dd at_167) ((if0 _ _).trans (feq (by decide : ¬ ((1 : Int32) = (0 : Int32)))).1) rfl ?_
        refine Gz.iload 172 X186 hx (dd at_170) rfl rfl ?_
        refine Gz.istore 174 #[.val (.int p0), .val (.int p1), .val (.int p2), .val (.int p3), .val (.int p4), .val (.int p5), .val (.int (4 : Int32)), .val (.int (1 : Int32)), .val (.int rr), .val (.int (3 : Int32)), .val (.ref b175), .val (.ref b184), .val (.int (1 : Int32)), .val (.ref b184), .val (.int (4 : Int32)), .val (.int (0 : Int32)), .unset, .val (.int (3 : Int32))] X186 hx (dd at_172) rfl rfl ?_
        refine Gz.aload 176 X186 hx (dd at_174) rfl rfl rfl ?_
        refine Gz.getS 179 X186 hx hZ hown (dd at_176) (host := "") (Or.inl (ww hw 32 rfl)) Via.refl e186 f185_S_st_MESSAGE rfl fun T187 X187 e187 => ?_
        obtain ⟨cq188, kq188, q188a, q188b, q188c⟩ := isOf hZ e187 QE185_0
        obtain ⟨_, _, ⟨T188, L188, k188, n188⟩, -, X188, ⟨Lc188, hQ188, l188, y188, z188⟩, st188⟩ := X187.virtualBack hx (y := ym5) (z := ym5) hown (mvT hZ (ww hw 35 rfl)) (mvT hZ (ww hw 36 rfl)) (notFace_of_selects (args := #[]) (mvT hZ (ww hw 38 rfl))) (mvT hZ (ww hw 38 rfl)) (mvT hZ (ww hw 37 rfl)) (by decide) (backOf (W := 0) (rmM43 l Z av0 hw [] b184 st_MESSAGE b175 k175 ((p2 &&& (127 : Int32)).toInt8.toInt32) ((p3 &&& (127 : Int32)).toInt8.toInt32) ((p4 &&& (127 : Int32)).toInt8.toInt32) T185.heap n0 SZ185 QE185_0 QF185_0 QF185_1 QF185_2 g_b184 f185_Vb175 ne_b175_b184) hZ (ww hw 39 rfl) (ww hw 4 rfl) (by decide) (by decide)) q188a q188c (g := (mkF m 179 #[.val (.int p0), .val (.int p1), .val (.int p2), .val (.int p3), .val (.int p4), .val (.int p5), .val (.int (4 : Int32)), .val (.int (1 : Int32)), .val (.int rr), .val (.int (3 : Int32)), .val (.ref b175), .val (.ref b184), .val (.int (1 : Int32)), .val (.ref b184), .val (.int (4 : Int32)), .val (.int (0 : Int32)), .unset, .val (.int (3 : Int32))] [(.ref st_MESSAGE), (.ref b184)])) rfl (by rw [hml]; rfl) (Steps.refl _) (argsL := [(.ref st_MESSAGE)]) (rest := []) (lenOf pd_5 rfl) rfl (Nat.le_refl _) (dd at_179) (fun _ _ => ⟨rfl, e187, (by decide : 2 + 1 ≤ _), (by decide : 8 + 4 ≤ _)⟩)
        dsimp only [Pt.U, Pt.locs, Pt.cells, Pt.slots, Q_rmM43] at X188 l188 y188 z188 st188 hQ188
        subst l188 y188 z188
        obtain ⟨rd188, rfl, N188q, K188q, QE188, QB188, QP188, QN188, gr188, szr188, RE188, RB188, RP188, RN188⟩ := hQ188
        have N188 := Fr.app N186 N188q
        have ne_b175_rd188 : b175 ≠ rd188 := Nat.ne_of_lt (Nat.lt_of_lt_of_le (f185_Vb175).lt szr188)
        have ne_b184_rd188 : b184 ≠ rd188 := Nat.ne_of_lt (Nat.lt_of_lt_of_le (QF185_3).lt szr188)
        have f188_S_st_MESSAGE := own_staK f185_S_st_MESSAGE K188q (allS (nst_of QE185_0) all0)
        have f188_Eb175 := Exa.keep f185_Eb175 K188q
        have f188_Vb175 := Arv.keep f185_Vb175 K188q (ninS ne_b175_b184 nin0)
        have f188_E_b184 := Exa.keep QE185_0 K188q
        have SZ188 := Nat.le_trans SZ185 K188q.1
        refine Gz.tr st188 ?_
        refine Gz.astore 184 #[.val (.int p0), .val (.int p1), .val (.int p2), .val (.int p3), .val (.int p4), .val (.int p5), .val (.int (4 : Int32)), .val (.int (1 : Int32)), .val (.int rr), .val (.int (3 : Int32)), .val (.ref b175), .val (.ref b184), .val (.int (1 : Int32)), .val (.ref rd188), .val (.int (4 : Int32)), .val (.int (0 : Int32)), .unset, .val (.int (3 : Int32))] X188 hx (dd at_182) rfl rfl rfl ?_
        refine Gz.iload 186 X188 hx (dd at_184) rfl rfl ?_
        refine Gz.ifNo 189 X188 hx (dd at_186) ((if0 _ _).trans (feq (by decide : ¬ ((1 : Int32) = (0 : Int32)))).1) rfl ?_
        refine Gz.aload 191 X188 hx (dd at_189) rfl rfl rfl ?_
        obtain ⟨cq189, kq189, q189a, q189b, q189c⟩ := isOf hZ rfl QE188
        obtain ⟨_, _, ⟨T189, L189, k189, n189⟩, -, X189, ⟨Lc189, hQ189, l189, y189, z189⟩, st189⟩ := X188.virtualBack hx (y := ym3) (z := ym3) hown (mvT hZ (ww hw 22 rfl)) (mvT hZ (ww hw 23 rfl)) (notFace_of_selects (args := #[]) (mvT hZ (ww hw 25 rfl))) (mvT hZ (ww hw 25 rfl)) (mvT hZ (ww hw 24 rfl)) (by decide) (backOf (W := 0) (rm4 l Z av0 hw [] b184 (4 : Int32) (4 : Int32) T188.heap n0 SZ188 QP188 QN188) hZ (ww hw 26 rfl) (ww hw 4 rfl) (by decide) (by decide)) q189a q189c (g := (mkF m 191 #[.val (.int p0), .val (.int p1), .val (.int p2), .val (.int p3), .val (.int p4), .val (.int p5), .val (.int (4 : Int32)), .val (.int (1 : Int32)), .val (.int rr), .val (.int (3 : Int32)), .val (.ref b175), .val (.ref b184), .val (.int (1 : Int32)), .val (.ref rd188), .val (.int (4 : Int32)), .val (.int (0 : Int32)), .unset, .val (.int (3 : Int32))] [(.ref b184)])) rfl (by rw [hml]; rfl) (Steps.refl _) (argsL := []) (rest := []) (lenOf pd_3 rfl) rfl (Nat.le_refl _) (dd at_191) (fun _ _ => ⟨rfl, rfl, (by decide : 3 + 0 ≤ _), (by decide : 12 + 0 ≤ _)⟩)
        dsimp only [Pt.U, Pt.locs, Pt.cells, Pt.slots, Q_rm4] at X189 l189 y189 z189 st189 hQ189
        subst l189 y189 z189
        rw [show (fHM b184 (4 : Int32) (4 : Int32)) = (0 : Int32) from (by unfold fHM; rw [if_neg (by decide : ¬ ((4 : Int32) < (4 : Int32)))]; try decide)] at hQ189
        obtain ⟨rfl, N189q, e189⟩ := hQ189
        have N189 := Fr.app N188 N189q
        refine Gz.tr st189 ?_
        refine Gz.iconst 195 (1 : Int32) X189 hx (dd at_194) rfl rfl ?_
        refine Gz.iload 197 X189 hx (dd at_195) rfl rfl ?_
        refine Gz.iaddV 198 (4 : Int32) X189 hx (dd at_197) rfl rfl ?_
        refine Gz.iload 200 X189 hx (dd at_198) rfl rfl ?_
        refine Gz.icmpYes 207 X189 hx (dd at_200) (flt (by decide : ¬ ((4 : Int32) < (4 : Int32)))).2.1 (by decide) (by decide) ?_
        refine Gz.iconst 208 (0 : Int32) X189 hx (dd at_207) rfl rfl ?_
        refine Gz.icmpNo 211 X189 hx (dd at_208) (teq (by decide : (0 : Int32) = (0 : Int32))).2 rfl ?_
        refine Gz.iconst 212 (1 : Int32) X189 hx (dd at_211) rfl rfl ?_
        refine Gz.goto 216 X189 hx (dd at_212) (by decide) (by decide) ?_
        refine Gz.istore 218 #[.val (.int p0), .val (.int p1), .val (.int p2), .val (.int p3), .val (.int p4), .val (.int p5), .val (.int (4 : Int32)), .val (.int (1 : Int32)), .val (.int rr), .val (.int (3 : Int32)), .val (.ref b175), .val (.ref b184), .val (.int (1 : Int32)), .val (.ref rd188), .val (.int (4 : Int32)), .val (.int (0 : Int32)), .unset, .val (.int (3 : Int32))] X189 hx (dd at_216) rfl rfl ?_
        refine Gz.iload 220 X189 hx (dd at_218) rfl rfl ?_
        refine Gz.istore 222 #[.val (.int p0), .val (.int p1), .val (.int p2), .val (.int p3), .val (.int p4), .val (.int p5), .val (.int (4 : Int32)), .val (.int (1 : Int32)), .val (.int rr), .val (.int (3 : Int32)), .val (.ref b175), .val (.ref b184), .val (.int (1 : Int32)), .val (.ref rd188), .val (.int (3 : Int32)), .val (.int (0 : Int32)), .unset, .val (.int (3 : Int32))] X189 hx (dd at_220) rfl rfl ?_
        refine Gz.iconst 223 (1 : Int32) X189 hx (dd at_222) rfl rfl ?_
        refine Gz.istore 225 #[.val (.int p0), .val (.int p1), .val (.int p2), .val (.int p3), .val (.int p4), .val (.int p5), .val (.int (4 : Int32)), .val (.int (1 : Int32)), .val (.int rr), .val (.int (3 : Int32)), .val (.ref b175), .val (.ref b184), .val (.int (1 : Int32)), .val (.ref rd188), .val (.int (3 : Int32)), .val (.int (0 : Int32)), .val (.int (1 : Int32)), .val (.int (3 : Int32))] X189 hx (dd at_223) rfl rfl ?_
        refine Gz.goto 240 X189 hx (dd at_225) (by decide) (by decide) ?_
        exact sg_4_3_1 (.val (.int p0)) (.val (.int p1)) (.val (.int p2)) (.val (.int p3)) (.val (.int p4)) (.val (.int p5)) (.val (.int (4 : Int32))) (.val (.int (1 : Int32))) rr (.val (.int (3 : Int32))) (.val (.ref b175)) (.val (.ref b184)) rd188 (.val (.int (3 : Int32))) b175 k175 ((p2 &&& (127 : Int32)).toInt8.toInt32) ((p3 &&& (127 : Int32)).toInt8.toInt32) ((p4 &&& (127 : Int32)).toInt8.toInt32) n0 X189 hx hZ hw hby hml hown hret hlk e189 N189 SZ188 RE188 RB188 RP188 RN188 gr188 f188_Vb175 ne_b175_rd188 ((own_7 _) : ¬ (((p2 &&& (127 : Int32)).toInt8.toInt32) < (0 : Int32))) ((own_7 _) : ¬ (((p3 &&& (127 : Int32)).toInt8.toInt32) < (0 : Int32))) ((own_7 _) : ¬ (((p4 &&& (127 : Int32)).toInt8.toInt32) < (0 : Int32)))
set_option maxRecDepth 65536 in
set_option maxHeartbeats 40000000 in
theorem comes_1 {Post : Tables → Env → Array Value → State → Outcome → State → Prop} (hpost : ∀ tb e args s v u, (limb_1_1.after args s (.returned v) u = true ∧ limb_1_2.after args s (.returned v) u = true ∧ True) → FrameEnd s (.returned v) u (Jvm.fieldLocs frame_1_writes args s ++ Jvm.arrayLocs frame_1_arrays args s ++ Jvm.staticLocs frame_1_statics s) 16 128 → Post tb e args s (.returned v) u) :
    ArmFor flags0 classFile x code maxLocals ret World_1 tables_1 room_1 Calls_1 rest_1 Pre_1 Post := by
  intro l hfl _ _ p e ha hc hk s m args below hf hA hF happ hP
  obtain ⟨hcalls, hrest, hpre⟩ := hP
  obtain ⟨-, -, -, hnamed, -, -, -, hat⟩ := (Spec.applies_iff hf).mp happ
  obtain ⟨hg, hn⟩ := and_e (Cond.before_iff.mp (show (Jvm.Cond.and given_1 narrow_1).before args s = true from hpre))
  obtain ⟨hcnt, hg0⟩ := and_e hg
  obtain ⟨ha0, hg1⟩ := and_e hg0
  obtain ⟨ha1, hg2⟩ := and_e hg1
  obtain ⟨ha2, hg3⟩ := and_e hg2
  obtain ⟨ha3, hg4⟩ := and_e hg3
  obtain ⟨ha4, hg5⟩ := and_e hg4
  have ha5 := hg5
  obtain ⟨w0, w1, w2, w3, w4, w5, rfl⟩ : ∃ w0 w1 w2 w3 w4 w5 : Value, args = #[w0, w1, w2, w3, w4, w5] := by
    have hs : args.size = 6 := by simpa [Cond.value, given_1] using hcnt
    obtain ⟨L⟩ := args
    match L, hs with
    | [w0, w1, w2, w3, w4, w5], _ => exact ⟨w0, w1, w2, w3, w4, w5, rfl⟩
  have hw := fun d (hd : d ∈ tables_1) => atoms_spec (ws := Jvm.Cond.code x code maxLocals ret :: tables_1) hat d (List.mem_cons_of_mem _ hd)
  have hfit : Fit s := fun {y c} hc i hi => by
    obtain ⟨ha, rfl⟩ := Array.getElem?_eq_some_iff.mp hc
    have q := List.all_eq_true.mp ((Array.all_eq_true_iff_forall_mem.mp hF) _ (Array.getElem_mem ha)) i (List.mem_range.mpr hi)
    simpa [Array.getElem?_eq_getElem hi] using q
  obtain ⟨i0, ei0⟩ := is_v ha0
  obtain rfl : w0 = (.int i0) := Option.some.inj ei0
  obtain ⟨i1, ei1⟩ := is_v ha1
  obtain rfl : w1 = (.int i1) := Option.some.inj ei1
  obtain ⟨i2, ei2⟩ := is_v ha2
  obtain rfl : w2 = (.int i2) := Option.some.inj ei2
  obtain ⟨i3, ei3⟩ := is_v ha3
  obtain rfl : w3 = (.int i3) := Option.some.inj ei3
  obtain ⟨i4, ei4⟩ := is_v ha4
  obtain rfl : w4 = (.int i4) := Option.some.inj ei4
  obtain ⟨i5, ei5⟩ := is_v ha5
  obtain rfl : w5 = (.int i5) := Option.some.inj ei5
  have nn0 := hn
  obtain ⟨st_MESSAGE, ev_MESSAGE⟩ := exa_v nn0
  have S_MESSAGE : Sta s s.heap "com/example/bad_status/badstatus/model/Place" "MESSAGE" "Lcom/example/bad_status/badstatus/model/Place;" (.ref st_MESSAGE) := Sta.start ev_MESSAGE (Or.inr ⟨(ww hw 33 rfl), (ww hw 34 rfl)⟩)
  have E_MESSAGE : Exa s s.heap st_MESSAGE "com/example/bad_status/badstatus/model/Place" := Exa.start ev_MESSAGE nn0
  obtain ⟨n, o, h1, h2, h3, _, L, rfl, ⟨rfl, N⟩, hq⟩ := rm0 l s _ hw tables_1 i0 i1 i2 i3 i4 i5 st_MESSAGE s.heap s.heap.size (Nat.le_refl _) S_MESSAGE p e ha hc hk s m _ below hf ((Spec.applies_iff_loose hf).mp happ).1 ⟨rfl, State.Warmed39.refl s, rfl⟩ trivial
  refine ⟨n, _, h1, h2, h3, hpost _ _ _ _ _ _ ⟨Cond.after_iff.mpr rfl, Cond.after_iff.mpr (eq_i res_at (Term.int_eval (1)) rfl), trivial⟩ ⟨hq.1, hq.2.1, (hq.2.2.sift fun y hy => Or.inr (N y hy)).mono (by decide) (by decide)⟩⟩
theorem main_1_1 : Claimed_1_1 := comes_1 fun _ _ _ _ _ _ h hF => ⟨h.1, hF⟩
theorem main_1_2 : Claimed_1_2 := comes_1 fun _ _ _ _ _ _ h hF => ⟨h.2.1, hF⟩
end Jvm.Pilot.@@N@@
namespace Jvm.Pilot.@@N@@
open Jvm Jvm.ClassFile Sem Op Lib Jvm.Free Jvm.Stand Jvm.Pilot.@@N@@.Jvm.D
/-! MADE BY PROGRAM (witnessworld.py) out of the Statement's table words and the real class files: 10 classes; the members and pool entries that the words name. The judged class is class 1, her method 1. -/
namespace start1
open Jvm.ClassFile
def u (s : String) : CpInfo := .utf8 (stringToUtf16 s)
/-- a pool by its gaps: so many unusable entries, then the entry; so many at the end -/
def gap : Nat → List CpInfo → List CpInfo
  | 0, r => r
  | n + 1, r => .unusable :: gap n r
def poolList (es : List (Nat × CpInfo)) (last : Nat) : List CpInfo := es.foldr (fun e r => gap e.1 (e.2 :: r)) (gap last [])
def pool (es : List (Nat × CpInfo)) (last : Nat) : Array CpInfo := ⟨poolList es last⟩
def fileOf (pool : Array CpInfo) (this : Nat) (attrs : Array Attribute := #[]) (ms : Array MethodInfo := #[]) (fl : Nat := 33) (sup : Nat := 0) (ifs : Array Nat := #[]) (fds : Array FieldInfo := #[]) : ClassFile where
  minorVersion := 0
  majorVersion := 65
  constantPool := pool
  accessFlags := fl
  thisClass := this
  superClass := sup
  interfaces := ifs
  fields := fds
  methods := ms
  attributes := attrs
def plain (name : String) (sup : Option ClassId) : Class where
  name := name
  kind := .ordinary
  loader := none
  accessFlags := 33
  super := sup
  interfaces := #[]
  cf := none
  fields := #[]
  methods := #[]
  instanceTypes := #[]
  staticTypes := #[]
  resolved := #[]
  callSites := []
  init := .initialized
  statics := none
  mirror := none

def pool0 : Array CpInfo := pool [(5, u "<init>"), (0, u "()V"), (1, .class_ 10), (1, u "java/lang/Object")] 113

def k0c0 : Code := { maxStack := 0, maxLocals := 1, code := object_method_1_code, exceptionTable := #[], attributes := #[] }
def k0m0 : Method := { name := "<init>", desc := "()V", sig := { parameters := [], returnType := none }, accessFlags := 1, code := some k0c0 }
/-- java/lang/Object -/
def k0 : Class := { plain "java/lang/Object" none with
  accessFlags := 33
  interfaces := #[]
  cf := some (fileOf pool0 8 #[] #[{ accessFlags := 1, nameIndex := 5, descriptorIndex := 6, attributes := #[] }] 33 0 #[] #[])
  fields := #[]
  methods := #[k0m0]
  instanceTypes := #[]
  staticTypes := #[]
  resolved := Array.replicate 124 none
  statics := none }

def pool1 : Array CpInfo := pool [(2, .class_ 4), (1, u "java/lang/Object"), (0, u "<init>"), (0, u "()V"), (0, .integer 2147483647), (0, .class_ 9), (0, u "com/example/bad_status/badstatus/model/ProtoReader"), (0, .methodref 8 11), (0, .nameAndType 5 12), (0, u "([B)V"), (0, .methodref 8 14), (0, .nameAndType 15 16), (0, u "hasMore"), (0, u "()Z"), (0, .fieldref 18 19), (0, .class_ 20), (0, .nameAndType 21 22), (0, u "com/example/bad_status/badstatus/model/Place"), (0, u "MESSAGE"), (0, u "Lcom/example/bad_status/badstatus/model/Place;"), (0, .methodref 8 24), (0, .nameAndType 25 26), (0, u "readMessage"), (0, u "(Lcom/example/bad_status/badstatus/model/Place;)Lcom/example/bad_status/badstatus/model/ProtoReader;"), (0, .methodref 8 28), (0, .nameAndType 29 30), (0, u "readVarint"), (0, u "()J"), (0, .class_ 32), (0, u "com/example/bad_status/badstatus/model/ProtoReaderHasMorePinLaw"), (2, u "law"), (0, u "(IIIIII)Z")] 8

def k1m0 : Method := { name := "<init>", desc := "()V", sig := { parameters := [], returnType := none }, accessFlags := 1, code := none }
def k1c1 : Code := { maxStack := 4, maxLocals := 18, code := code, exceptionTable := #[], attributes := #[] }
def k1m1 : Method := { name := "law", desc := "(IIIIII)Z", sig := { parameters := [.int, .int, .int, .int, .int, .int], returnType := some .boolean }, accessFlags := 9, code := some k1c1 }
/-- com/example/bad_status/badstatus/model/ProtoReaderHasMorePinLaw -/
def k1 : Class := { plain "com/example/bad_status/badstatus/model/ProtoReaderHasMorePinLaw" (some 0) with
  accessFlags := 49
  interfaces := #[]
  cf := some (fileOf pool1 31 #[] #[{ accessFlags := 1, nameIndex := 5, descriptorIndex := 6, attributes := #[] }, { accessFlags := 9, nameIndex := 35, descriptorIndex := 36, attributes := #[] }] 49 2 #[] #[])
  fields := #[]
  methods := #[k1m0, k1m1]
  instanceTypes := #[]
  staticTypes := #[]
  resolved := Array.replicate 45 none
  statics := none }

def pool2 : Array CpInfo := pool [(1, .class_ 2), (0, u "com/example/bad_status/badstatus/model/ProtoReader"), (0, .methodref 1 4), (0, .nameAndType 5 6), (0, u "<init>"), (0, u "([BIILcom/example/bad_status/badstatus/model/Place;)V"), (0, .methodref 8 9), (0, .class_ 10), (0, .nameAndType 5 11), (0, u "java/lang/Object"), (0, u "()V"), (0, .fieldref 1 13), (0, .nameAndType 14 15), (0, u "bytes"), (0, u "[B"), (0, .fieldref 1 17), (0, .nameAndType 18 19), (0, u "position"), (0, u "I"), (0, .fieldref 1 21), (0, .nameAndType 22 19), (0, u "end"), (0, .fieldref 1 24), (0, .nameAndType 25 26), (0, u "place"), (0, u "Lcom/example/bad_status/badstatus/model/Place;"), (0, .methodref 1 28), (0, .nameAndType 29 30), (0, u "readVarint"), (0, u "()J"), (20, .methodref 1 52), (0, .nameAndType 53 54), (0, u "readLength"), (0, u "(Lcom/example/bad_status/badstatus/model/Place;)I"), (77, u "VARINT"), (2, u "I64"), (1, u "LEN"), (1, u "START_GROUP"), (1, u "END_GROUP"), (1, u "I32"), (1, u "WIRE_TYPE_BITS"), (0, u "WIRE_TYPE_MASK"), (1, u "VARINT_BITS"), (1, u "VARINT_PAYLOAD"), (1, u "BITS_PER_VARINT_BYTE"), (0, u "MAX_GROUP_DEPTH"), (1, u "([B)V"), (2, u "hasMore"), (0, u "()Z"), (4, u "readMessage"), (0, u "(Lcom/example/bad_status/badstatus/model/Place;)Lcom/example/bad_status/badstatus/model/ProtoReader;")] 35

def k2c0 : Code := { maxStack := 5, maxLocals := 2, code := prog_17_method_1_code, exceptionTable := #[], attributes := #[] }
def k2m0 : Method := { name := "<init>", desc := "([B)V", sig := { parameters := [(.array .byte)], returnType := none }, accessFlags := 0, code := some k2c0 }
def k2c1 : Code := { maxStack := 2, maxLocals := 5, code := prog_17_method_2_code, exceptionTable := #[], attributes := #[] }
def k2m1 : Method := { name := "<init>", desc := "([BIILcom/example/bad_status/badstatus/model/Place;)V", sig := { parameters := [(.array .byte), .int, .int, (.object "com/example/bad_status/badstatus/model/Place")], returnType := none }, accessFlags := 2, code := some k2c1 }
def k2c2 : Code := { maxStack := 2, maxLocals := 1, code := prog_17_method_3_code, exceptionTable := #[], attributes := #[] }
def k2m2 : Method := { name := "hasMore", desc := "()Z", sig := { parameters := [], returnType := some .boolean }, accessFlags := 0, code := some k2c2 }
def k2c3 : Code := { maxStack := 5, maxLocals := 5, code := prog_17_method_5_code, exceptionTable := #[], attributes := #[] }
def k2m3 : Method := { name := "readVarint", desc := "()J", sig := { parameters := [], returnType := some .long }, accessFlags := 0, code := some k2c3 }
def k2c4 : Code := { maxStack := 6, maxLocals := 4, code := prog_17_method_9_code, exceptionTable := #[], attributes := #[] }
def k2m4 : Method := { name := "readMessage", desc := "(Lcom/example/bad_status/badstatus/model/Place;)Lcom/example/bad_status/badstatus/model/ProtoReader;", sig := { parameters := [(.object "com/example/bad_status/badstatus/model/Place")], returnType := some (.object "com/example/bad_status/badstatus/model/ProtoReader") }, accessFlags := 0, code := some k2c4 }
def k2c5 : Code := { maxStack := 4, maxLocals := 4, code := prog_17_method_14_code, exceptionTable := #[], attributes := #[] }
def k2m5 : Method := { name := "readLength", desc := "(Lcom/example/bad_status/badstatus/model/Place;)I", sig := { parameters := [(.object "com/example/bad_status/badstatus/model/Place")], returnType := some .int }, accessFlags := 2, code := some k2c5 }
/-- com/example/bad_status/badstatus/model/ProtoReader -/
def k2 : Class := { plain "com/example/bad_status/badstatus/model/ProtoReader" (some 0) with
  accessFlags := 48
  interfaces := #[]
  cf := some (fileOf pool2 1 #[] #[{ accessFlags := 0, nameIndex := 5, descriptorIndex := 155, attributes := #[] }, { accessFlags := 2, nameIndex := 5, descriptorIndex := 6, attributes := #[] }, { accessFlags := 0, nameIndex := 158, descriptorIndex := 159, attributes := #[] }, { accessFlags := 0, nameIndex := 29, descriptorIndex := 30, attributes := #[] }, { accessFlags := 0, nameIndex := 164, descriptorIndex := 165, attributes := #[] }, { accessFlags := 2, nameIndex := 53, descriptorIndex := 54, attributes := #[] }] 48 8 #[] #[{ accessFlags := 24, nameIndex := 132, descriptorIndex := 19, attributes := #[] }, { accessFlags := 24, nameIndex := 135, descriptorIndex := 19, attributes := #[] }, { accessFlags := 24, nameIndex := 137, descriptorIndex := 19, attributes := #[] }, { accessFlags := 24, nameIndex := 139, descriptorIndex := 19, attributes := #[] }, { accessFlags := 24, nameIndex := 141, descriptorIndex := 19, attributes := #[] }, { accessFlags := 24, nameIndex := 143, descriptorIndex := 19, attributes := #[] }, { accessFlags := 26, nameIndex := 145, descriptorIndex := 19, attributes := #[] }, { accessFlags := 26, nameIndex := 146, descriptorIndex := 19, attributes := #[] }, { accessFlags := 26, nameIndex := 148, descriptorIndex := 19, attributes := #[] }, { accessFlags := 26, nameIndex := 150, descriptorIndex := 19, attributes := #[] }, { accessFlags := 26, nameIndex := 152, descriptorIndex := 19, attributes := #[] }, { accessFlags := 26, nameIndex := 153, descriptorIndex := 19, attributes := #[] }, { accessFlags := 18, nameIndex := 14, descriptorIndex := 15, attributes := #[] }, { accessFlags := 18, nameIndex := 22, descriptorIndex := 19, attributes := #[] }, { accessFlags := 18, nameIndex := 25, descriptorIndex := 26, attributes := #[] }, { accessFlags := 2, nameIndex := 18, descriptorIndex := 19, attributes := #[] }])
  fields := #[{ name := "VARINT", type := .int, accessFlags := 24, slot := 0, constantValue := 0 }, { name := "I64", type := .int, accessFlags := 24, slot := 1, constantValue := 0 }, { name := "LEN", type := .int, accessFlags := 24, slot := 2, constantValue := 0 }, { name := "START_GROUP", type := .int, accessFlags := 24, slot := 3, constantValue := 0 }, { name := "END_GROUP", type := .int, accessFlags := 24, slot := 4, constantValue := 0 }, { name := "I32", type := .int, accessFlags := 24, slot := 5, constantValue := 0 }, { name := "WIRE_TYPE_BITS", type := .int, accessFlags := 26, slot := 6, constantValue := 0 }, { name := "WIRE_TYPE_MASK", type := .int, accessFlags := 26, slot := 7, constantValue := 0 }, { name := "VARINT_BITS", type := .int, accessFlags := 26, slot := 8, constantValue := 0 }, { name := "VARINT_PAYLOAD", type := .int, accessFlags := 26, slot := 9, constantValue := 0 }, { name := "BITS_PER_VARINT_BYTE", type := .int, accessFlags := 26, slot := 10, constantValue := 0 }, { name := "MAX_GROUP_DEPTH", type := .int, accessFlags := 26, slot := 11, constantValue := 0 }, { name := "bytes", type := (.array .byte), accessFlags := 18, slot := 0, constantValue := 0 }, { name := "end", type := .int, accessFlags := 18, slot := 1, constantValue := 0 }, { name := "place", type := (.object "com/example/bad_status/badstatus/model/Place"), accessFlags := 18, slot := 2, constantValue := 0 }, { name := "position", type := .int, accessFlags := 2, slot := 3, constantValue := 0 }]
  methods := #[k2m0, k2m1, k2m2, k2m3, k2m4, k2m5]
  instanceTypes := #[(.array .byte), .int, (.object "com/example/bad_status/badstatus/model/Place"), .int]
  staticTypes := #[.int, .int, .int, .int, .int, .int, .int, .int, .int, .int, .int, .int]
  resolved := Array.replicate 201 none
  statics := none }

def pool3 : Array CpInfo := pool [(2, .class_ 4), (1, u "java/lang/Object"), (3, .class_ 10), (1, u "com/example/bad_status/badstatus/model/Place"), (0, u "parent"), (0, u "Lcom/example/bad_status/badstatus/model/Place;"), (2, u "member"), (0, u "Ljava/lang/String;"), (2, u "index"), (0, u "I"), (28, u "MESSAGE"), (4, u "STATUS"), (4, u "DETAILS")] 9

/-- com/example/bad_status/badstatus/model/Place -/
def k3 : Class := { plain "com/example/bad_status/badstatus/model/Place" (some 0) with
  accessFlags := 48
  interfaces := #[]
  cf := some (fileOf pool3 8 #[] #[] 48 2 #[] #[{ accessFlags := 24, nameIndex := 49, descriptorIndex := 12, attributes := #[] }, { accessFlags := 24, nameIndex := 54, descriptorIndex := 12, attributes := #[] }, { accessFlags := 24, nameIndex := 59, descriptorIndex := 12, attributes := #[] }, { accessFlags := 18, nameIndex := 11, descriptorIndex := 12, attributes := #[] }, { accessFlags := 18, nameIndex := 15, descriptorIndex := 16, attributes := #[] }, { accessFlags := 18, nameIndex := 19, descriptorIndex := 20, attributes := #[] }])
  fields := #[{ name := "MESSAGE", type := (.object "com/example/bad_status/badstatus/model/Place"), accessFlags := 24, slot := 0, constantValue := 0 }, { name := "STATUS", type := (.object "com/example/bad_status/badstatus/model/Place"), accessFlags := 24, slot := 1, constantValue := 0 }, { name := "DETAILS", type := (.object "com/example/bad_status/badstatus/model/Place"), accessFlags := 24, slot := 2, constantValue := 0 }, { name := "parent", type := (.object "com/example/bad_status/badstatus/model/Place"), accessFlags := 18, slot := 0, constantValue := 0 }, { name := "member", type := (.object "java/lang/String"), accessFlags := 18, slot := 1, constantValue := 0 }, { name := "index", type := .int, accessFlags := 18, slot := 2, constantValue := 0 }]
  methods := #[]
  instanceTypes := #[(.object "com/example/bad_status/badstatus/model/Place"), (.object "java/lang/String"), .int]
  staticTypes := #[(.object "com/example/bad_status/badstatus/model/Place"), (.object "com/example/bad_status/badstatus/model/Place"), (.object "com/example/bad_status/badstatus/model/Place")]
  resolved := Array.replicate 69 none
  statics := some 0 }

def pool4 : Array CpInfo := pool [(1, u "java/lang/Cloneable"), (0, .class_ 1), (0, u "java/lang/Object"), (0, .class_ 3)] 3

/-- java/lang/Cloneable -/
def k4 : Class := { plain "java/lang/Cloneable" (some 0) with
  accessFlags := 1537
  interfaces := #[]
  cf := some (fileOf pool4 2 #[] #[] 1537 4 #[] #[])
  fields := #[]
  methods := #[]
  instanceTypes := #[]
  staticTypes := #[]
  resolved := Array.replicate 8 none
  statics := none }

def pool5 : Array CpInfo := pool [(1, u "java/io/Serializable"), (0, .class_ 1), (0, u "java/lang/Object"), (0, .class_ 3)] 3

/-- java/io/Serializable -/
def k5 : Class := { plain "java/io/Serializable" (some 0) with
  accessFlags := 1537
  interfaces := #[]
  cf := some (fileOf pool5 2 #[] #[] 1537 4 #[] #[])
  fields := #[]
  methods := #[]
  instanceTypes := #[]
  staticTypes := #[]
  resolved := Array.replicate 8 none
  statics := none }

/-- the primitive byte -/
def k6 : Class := { plain "byte" none with kind := .primitive 'B', accessFlags := 0x411 }
/-- [B -/
def k7 : Class := { plain "[B" (some 0) with kind := .array 6 .byte, interfaces := #[4, 5], accessFlags := 1041 }

/-- the primitive int -/
def k8 : Class := { plain "int" none with kind := .primitive 'I', accessFlags := 0x411 }
/-- [I -/
def k9 : Class := { plain "[I" (some 0) with kind := .array 8 .int, interfaces := #[4, 5], accessFlags := 1041 }

def heap : Heap := #[{ cls := 3, slots := #[.ref 1, .null, .null], vm := .statics 3 },
  { cls := 3, slots := #[.null, .null, .int 0], vm := .none }]
def classes : Array Class := #[k0, k1, k2, k3, k4, k5, k6, k7, k8, k9]
def interned : List (Array UInt16 × Addr) := []
def slotsUsed : Nat := 6
def theMethod : MethodId := ⟨1, 1⟩
def args0 : Array Value := #[.int 1, .int 2, .int 3, .int 4, .int 5, .int 6]
def aboutOver (below : List Frame) : State where
  vm := { classes := classes, interned := interned.toArray }
  heap := heap
  slotsUsed := slotsUsed
  threads := #[{ frames := .invoking theMethod args0 :: below }]
def below0 : List Frame := [.native { method := ⟨0, 0⟩, args := #[] }]
def about1 : State := aboutOver below0
def p0 : Program := .bare "" "" ""
def e0 : Env := launch0.env 0 0 0
theorem w_frames : about1.frames = Frame.invoking theMethod args0 :: below0 := rfl
set_option maxRecDepth 65536 in
theorem w_args : argsFit about1.vm theMethod args0 = true := by decide +kernel
set_option maxRecDepth 65536 in
theorem w_heap : heapFits about1 = true := by decide +kernel
set_option maxRecDepth 65536 in
theorem w_runnable : about1.curStatus? = some .runnable := by decide +kernel
set_option maxRecDepth 65536 in
theorem w_alone : about1.alone = true := by decide +kernel
set_option maxRecDepth 65536 in
theorem w_named : about1.methodNamed? x = some theMethod := by decide +kernel
set_option maxRecDepth 65536 in
theorem w_hears : about1.hears theMethod below0 = true := by decide +kernel
set_option maxRecDepth 65536 in
theorem w_ripe : about1.ripe theMethod args0 below0 = true := by decide +kernel
theorem w_running : about1.status = .running := rfl
set_option maxRecDepth 65536 in
theorem w_room : about1.hasRoom e0.platform room_1 = true :=
  launch0.hasRoom_least _ room_1 (by decide +kernel) (by decide +kernel) (by decide +kernel) (by decide +kernel) (by decide +kernel) (by decide +kernel)
theorem allAtoms_all (ts : List Jvm.Cond) (a : Array Jvm.Value) (st : Jvm.State) : (allAtoms ts).before a st = ts.all (fun c => c.before a st) := by
  induction ts with
  | nil => rfl
  | cons c t ih =>
    show (Jvm.Cond.and c (allAtoms t)).before a st = _
    rw [Jvm.Cond.before_and, ih, List.all_cons]
def words1 : List Jvm.Cond := Jvm.Cond.code x code maxLocals ret :: tables_1
/-- a 'code' word, met by the world's own term for the bytes: nothing is compared byte by byte -/
theorem code_word {y : MethodName} {bytes : ByteArray} {mx : Nat} {rt : Option FieldType} {a : Array Value} {s : State} {m : MethodId} {meth : Method} {c : Code} (h1 : s.methodNamed? y = some m) (h2 : s.vm.method? m = some meth) (h3 : meth.code = some c) (h4 : c.code = bytes)
    (h5 : (c.maxLocals == mx && c.exceptionTable.isEmpty && decide (c.maxStack ≤ mostOperands) && decide (meth.sig.returnType = rt) && !meth.locks && decide (parseMethodDescriptor y.desc = some meth.sig)) = true) : (Jvm.Cond.code y bytes mx rt).before a s = true := by
  simp only [Bool.and_eq_true, beq_iff_eq, Bool.not_eq_true', decide_eq_true_eq] at h5
  obtain ⟨⟨⟨⟨⟨g1, g2⟩, g3⟩, g4⟩, g5⟩, g6⟩ := h5
  simp [Cond.before, Cond.holds, Cond.value, h1, h2, h3, h4, g1, g2, g3, g4, g5, g6]
def isCode : Jvm.Cond → Bool
  | .code _ _ _ _ => true
  | _ => false
theorem all_split {L : List Jvm.Cond} {P : Jvm.Cond → Bool} (h1 : L.all (fun c => isCode c || P c) = true) (h2 : ∀ c ∈ L.filter isCode, P c = true) : L.all P = true := by
  refine List.all_eq_true.mpr fun c hc => ?_
  have h := List.all_eq_true.mp h1 c hc
  rcases Bool.eq_false_or_eq_true (isCode c) with hi | hi
  · exact h2 c (List.mem_filter.mpr ⟨hc, hi⟩)
  · simpa [hi] using h
set_option maxRecDepth 65536 in
theorem w_c0 : (Jvm.Cond.code x code maxLocals ret).before args0 about1 = true := code_word (m := ⟨1, 1⟩) (meth := k1m1) (c := k1c1) (by decide +kernel) rfl rfl rfl (by decide +kernel)
set_option maxRecDepth 65536 in
theorem w_c1 : (Jvm.Cond.code ({ cls := "com/example/bad_status/badstatus/model/ProtoReader", name := "<init>", desc := "([B)V" } : Jvm.MethodName) prog_17_method_1_code (2 : Nat) (Option.none : Option Jvm.ClassFile.FieldType)).before args0 about1 = true := code_word (m := ⟨2, 0⟩) (meth := k2m0) (c := k2c0) (by decide +kernel) rfl rfl rfl (by decide +kernel)
set_option maxRecDepth 65536 in
theorem w_c2 : (Jvm.Cond.code ({ cls := "com/example/bad_status/badstatus/model/ProtoReader", name := "<init>", desc := "([BIILcom/example/bad_status/badstatus/model/Place;)V" } : Jvm.MethodName) prog_17_method_2_code (5 : Nat) (Option.none : Option Jvm.ClassFile.FieldType)).before args0 about1 = true := code_word (m := ⟨2, 1⟩) (meth := k2m1) (c := k2c1) (by decide +kernel) rfl rfl rfl (by decide +kernel)
set_option maxRecDepth 65536 in
theorem w_c3 : (Jvm.Cond.code ({ cls := "java/lang/Object", name := "<init>", desc := "()V" } : Jvm.MethodName) object_method_1_code (1 : Nat) (Option.none : Option Jvm.ClassFile.FieldType)).before args0 about1 = true := code_word (m := ⟨0, 0⟩) (meth := k0m0) (c := k0c0) (by decide +kernel) rfl rfl rfl (by decide +kernel)
set_option maxRecDepth 65536 in
theorem w_c4 : (Jvm.Cond.code ({ cls := "com/example/bad_status/badstatus/model/ProtoReader", name := "hasMore", desc := "()Z" } : Jvm.MethodName) prog_17_method_3_code (1 : Nat) (Option.some Jvm.ClassFile.FieldType.boolean)).before args0 about1 = true := code_word (m := ⟨2, 2⟩) (meth := k2m2) (c := k2c2) (by decide +kernel) rfl rfl rfl (by decide +kernel)
set_option maxRecDepth 65536 in
theorem w_c5 : (Jvm.Cond.code ({ cls := "com/example/bad_status/badstatus/model/ProtoReader", name := "readVarint", desc := "()J" } : Jvm.MethodName) prog_17_method_5_code (5 : Nat) (Option.some Jvm.ClassFile.FieldType.long)).before args0 about1 = true := code_word (m := ⟨2, 3⟩) (meth := k2m3) (c := k2c3) (by decide +kernel) rfl rfl rfl (by decide +kernel)
set_option maxRecDepth 65536 in
theorem w_c6 : (Jvm.Cond.code ({ cls := "com/example/bad_status/badstatus/model/ProtoReader", name := "readMessage", desc := "(Lcom/example/bad_status/badstatus/model/Place;)Lcom/example/bad_status/badstatus/model/ProtoReader;" } : Jvm.MethodName) prog_17_method_9_code (4 : Nat) (Option.some (Jvm.ClassFile.FieldType.object "com/example/bad_status/badstatus/model/ProtoReader"))).before args0 about1 = true := code_word (m := ⟨2, 4⟩) (meth := k2m4) (c := k2c4) (by decide +kernel) rfl rfl rfl (by decide +kernel)
set_option maxRecDepth 65536 in
theorem w_c7 : (Jvm.Cond.code ({ cls := "com/example/bad_status/badstatus/model/ProtoReader", name := "readLength", desc := "(Lcom/example/bad_status/badstatus/model/Place;)I" } : Jvm.MethodName) prog_17_method_14_code (4 : Nat) (Option.some Jvm.ClassFile.FieldType.int)).before args0 about1 = true := code_word (m := ⟨2, 5⟩) (meth := k2m5) (c := k2c5) (by decide +kernel) rfl rfl rfl (by decide +kernel)
def codes1 : List Jvm.Cond := [Jvm.Cond.code x code maxLocals ret, Jvm.Cond.code ({ cls := "com/example/bad_status/badstatus/model/ProtoReader", name := "<init>", desc := "([B)V" } : Jvm.MethodName) prog_17_method_1_code (2 : Nat) (Option.none : Option Jvm.ClassFile.FieldType), Jvm.Cond.code ({ cls := "com/example/bad_status/badstatus/model/ProtoReader", name := "<init>", desc := "([BIILcom/example/bad_status/badstatus/model/Place;)V" } : Jvm.MethodName) prog_17_method_2_code (5 : Nat) (Option.none : Option Jvm.ClassFile.FieldType), Jvm.Cond.code ({ cls := "java/lang/Object", name := "<init>", desc := "()V" } : Jvm.MethodName) object_method_1_code (1 : Nat) (Option.none : Option Jvm.ClassFile.FieldType), Jvm.Cond.code ({ cls := "com/example/bad_status/badstatus/model/ProtoReader", name := "hasMore", desc := "()Z" } : Jvm.MethodName) prog_17_method_3_code (1 : Nat) (Option.some Jvm.ClassFile.FieldType.boolean), Jvm.Cond.code ({ cls := "com/example/bad_status/badstatus/model/ProtoReader", name := "readVarint", desc := "()J" } : Jvm.MethodName) prog_17_method_5_code (5 : Nat) (Option.some Jvm.ClassFile.FieldType.long), Jvm.Cond.code ({ cls := "com/example/bad_status/badstatus/model/ProtoReader", name := "readMessage", desc := "(Lcom/example/bad_status/badstatus/model/Place;)Lcom/example/bad_status/badstatus/model/ProtoReader;" } : Jvm.MethodName) prog_17_method_9_code (4 : Nat) (Option.some (Jvm.ClassFile.FieldType.object "com/example/bad_status/badstatus/model/ProtoReader")), Jvm.Cond.code ({ cls := "com/example/bad_status/badstatus/model/ProtoReader", name := "readLength", desc := "(Lcom/example/bad_status/badstatus/model/Place;)I" } : Jvm.MethodName) prog_17_method_14_code (4 : Nat) (Option.some Jvm.ClassFile.FieldType.int)]
set_option maxRecDepth 65536 in
theorem codes_eq : words1.filter isCode = codes1 := rfl
theorem w_codes : ∀ c ∈ words1.filter isCode, c.before args0 about1 = true := by
  rw [codes_eq]
  intro c hc
  simp only [codes1, List.mem_cons, List.not_mem_nil, or_false] at hc
  rcases hc with rfl | rfl | rfl | rfl | rfl | rfl | rfl | rfl
  · exact w_c0
  · exact w_c1
  · exact w_c2
  · exact w_c3
  · exact w_c4
  · exact w_c5
  · exact w_c6
  · exact w_c7
set_option maxRecDepth 65536 in
theorem w_t1 : (words1.take 24).all (fun c => isCode c || c.before args0 about1) = true := by decide +kernel
set_option maxRecDepth 65536 in
theorem w_t2 : (words1.drop 24).all (fun c => isCode c || c.before args0 about1) = true := by decide +kernel
theorem w_tables : (allAtoms (Jvm.Cond.code x code maxLocals ret :: tables_1)).before args0 about1 = true := by
  rw [allAtoms_all]
  show words1.all (fun c => c.before args0 about1) = true
  refine all_split ?_ w_codes
  rw [← List.take_append_drop 24 words1, List.all_append, w_t1, w_t2]
  rfl
set_option maxRecDepth 65536 in
theorem w_case : (Jvm.Cond.and given_1 narrow_1).before args0 about1 = true := by decide +kernel
theorem w_applies : (headSpec (Jvm.Cond.code x code maxLocals ret :: tables_1) room_1).applies x e0.platform about1 = true :=
  (Spec.applies_iff w_frames).mpr ⟨w_running, w_runnable, w_alone, w_named, w_hears, w_ripe, w_room, w_tables⟩
theorem atStart : AtStart classFile x code maxLocals ret World_1 tables_1 room_1 Calls_1 rest_1 Pre_1 launch0 p0 e0 about1 theMethod args0 below0 :=
  ⟨lists_1, trivial, launch0.admits_env _ _ _, launch0.least_env, fairChoices_fair.cas, fairChoices_fair.clock, w_frames, w_args, w_heap, w_applies, trivial, trivial, w_case⟩
end start1
theorem witness_1 : WitnessClaimed_1 := ⟨start1.p0, start1.e0, start1.about1, start1.theMethod, start1.args0, start1.below0, start1.atStart⟩
end Jvm.Pilot.@@N@@
