import JvmDerived
import JvmDerived.Pilot.@@N@@Statement
import JvmDerived.Pilot.@@N@@Code
set_option linter.unusedVariables false
set_option linter.unusedSimpArgs false
namespace Jvm.RoadKit
open Sem ClassFile Op Lib Jvm.Stand Jvm.Free Jvm.LawKit
section New
variable {p : Program} {l : Launch} {e : Env} {R : Room} {s : State} {m : MethodId} {args : Array Value} {below : List Frame} {meth : Method} {c : Code} {T : State} {locs : List Loc} {cells slots : Nat}
theorem retI (X : Stand p l e R s m args below meth c T locs cells slots) (hx : p.tables.exec = Jvm.exec) {pc : Nat} {Ls : Array Slot} {z : Int32} {rest : List Value} (hret : meth.sig.returnType = some .int) (hd : decode c.code pc = .ok (.ireturn, 1)) {fs : List Frame}
    (hl : ∀ (f : JFrame) (acts : List Action), f.method = m → f.locked = none → f.entered = [] → (doReturn e (T.setTop f) acts (some (.int z))).1 = T.setFrames fs) : Steps p.tables e below (T.setTop (mkF m pc Ls (.int z :: rest))) (T.setFrames fs) :=
  retOut X hx hret rfl (Or.inl ⟨rfl, Or.inl rfl, z, rfl⟩) hd hl
theorem retJ (X : Stand p l e R s m args below meth c T locs cells slots) (hx : p.tables.exec = Jvm.exec) {pc : Nat} {Ls : Array Slot} {z : Int64} {rest : List Value} (hret : meth.sig.returnType = some .long) (hd : decode c.code pc = .ok (.lreturn, 1)) {fs : List Frame}
    (hl : ∀ (f : JFrame) (acts : List Action), f.method = m → f.locked = none → f.entered = [] → (doReturn e (T.setTop f) acts (some (.long z))).1 = T.setFrames fs) : Steps p.tables e below (T.setTop (mkF m pc Ls (.long z :: rest))) (T.setFrames fs) :=
  retOut X hx hret rfl (Or.inr (Or.inl ⟨rfl, rfl, z, rfl⟩)) hd hl
theorem retA (X : Stand p l e R s m args below meth c T locs cells slots) (hx : p.tables.exec = Jvm.exec) {pc : Nat} {Ls : Array Slot} {w : Value} {t : FieldType} {rest : List Value} (hret : meth.sig.returnType = some t) (hd : decode c.code pc = .ok (.areturn, 1)) {fs : List Frame}
    (hl : ∀ (f : JFrame) (acts : List Action), f.method = m → f.locked = none → f.entered = [] → (doReturn e (T.setTop f) acts (some w)).1 = T.setFrames fs) (ht : t.isReference = true) (hw : w.isRef = true) : Steps p.tables e below (T.setTop (mkF m pc Ls (w :: rest))) (T.setFrames fs) :=
  retOut X hx hret (by cases t <;> first | rfl | (cases ht; done)) (Or.inr (Or.inr (Or.inr (Or.inr ⟨rfl, ht, hw⟩)))) hd hl
/-- from the state S on, the body runs to its end and leaves what Q says -/
def Gz (p : Program) (e : Env) (below : List Frame) (s : State) (C N : Nat) (Q : Option Value → Heap → List Loc → Prop) (S : State) : Prop :=
  ∃ s₂ o, Steps p.tables e below S s₂ ∧ s₂.status = .running ∧ Ended s₂ below o ∧ ∃ v L, o = .returned v ∧ Q v s₂.heap L ∧ FrameEnd s o s₂ L C N
variable {C N : Nat} {Q : Option Value → Heap → List Loc → Prop} {S S' : State}
theorem Gz.st (k : ∀ t, Steps p.tables e below S' t → Steps p.tables e below S t) (h : Gz p e below s C N Q S') : Gz p e below s C N Q S := by
  obtain ⟨s₂, o, h1, h2⟩ := h
  exact ⟨s₂, o, k _ h1, h2⟩
theorem Gz.tr (k : Steps p.tables e below S S') (h : Gz p e below s C N Q S') : Gz p e below s C N Q S := by
  obtain ⟨s₂, o, h1, h2⟩ := h
  exact ⟨s₂, o, k.trans h1, h2⟩
variable {pc : Nat} {Ls : Array Slot} {st : List Value} {Z : State} {a0 : Array Value} {hh : Heap}
theorem Gz.iloadN (n : Nat) {k : Fin 4} {v : Int32} (X : Stand p l e R s m args below meth c T locs cells slots) (hx : p.tables.exec = Jvm.exec) (hd : decode c.code pc = .ok (.iload_n k, 1)) (hl : Ls[k.val]? = some (.val (.int v))) (q : pc + 1 = n) (h : Gz p e below s C N Q (T.setTop (mkF m n Ls (.int v :: st)))) : Gz p e below s C N Q (T.setTop (mkF m pc Ls st)) := by subst q; exact Gz.st (fun t k => XS.iloadN X.here hx rfl hd hl k) h
theorem Gz.iload (n : Nat) {k : Nat} {v : Int32} (X : Stand p l e R s m args below meth c T locs cells slots) (hx : p.tables.exec = Jvm.exec) (hd : decode c.code pc = .ok (.iload k, 2)) (hl : Ls[k]? = some (.val (.int v))) (q : pc + 2 = n) (h : Gz p e below s C N Q (T.setTop (mkF m n Ls (.int v :: st)))) : Gz p e below s C N Q (T.setTop (mkF m pc Ls st)) := by subst q; exact Gz.st (fun t k => XS.iload X.here hx rfl hd hl k) h
theorem Gz.istoreN (n : Nat) (l' : Array Slot) {k : Fin 4} {v : Int32} (X : Stand p l e R s m args below meth c T locs cells slots) (hx : p.tables.exec = Jvm.exec) (hd : decode c.code pc = .ok (.istore_n k, 1)) (hl : storeLocals Ls k.val (.int v) = some l') (q : pc + 1 = n) (h : Gz p e below s C N Q (T.setTop (mkF m n l' st))) : Gz p e below s C N Q (T.setTop (mkF m pc Ls (.int v :: st))) := by subst q; exact Gz.st (fun t k => XS.istoreN X.here hx rfl hd rfl hl k) h
theorem Gz.istore (n : Nat) (l' : Array Slot) {k : Nat} {v : Int32} (X : Stand p l e R s m args below meth c T locs cells slots) (hx : p.tables.exec = Jvm.exec) (hd : decode c.code pc = .ok (.istore k, 2)) (hl : storeLocals Ls k (.int v) = some l') (q : pc + 2 = n) (h : Gz p e below s C N Q (T.setTop (mkF m n l' st))) : Gz p e below s C N Q (T.setTop (mkF m pc Ls (.int v :: st))) := by subst q; exact Gz.st (fun t k => XS.istore X.here hx rfl hd rfl hl k) h
theorem Gz.aloadN (n : Nat) {k : Fin 4} {v : Value} (X : Stand p l e R s m args below meth c T locs cells slots) (hx : p.tables.exec = Jvm.exec) (hd : decode c.code pc = .ok (.aload_n k, 1)) (hl : Ls[k.val]? = some (.val v)) (hv : v.isRef = true) (q : pc + 1 = n) (h : Gz p e below s C N Q (T.setTop (mkF m n Ls (v :: st)))) : Gz p e below s C N Q (T.setTop (mkF m pc Ls st)) := by subst q; exact Gz.st (fun t k => XS.aloadN X.here hx rfl hd hl hv k) h
theorem Gz.aload (n : Nat) {k : Nat} {v : Value} (X : Stand p l e R s m args below meth c T locs cells slots) (hx : p.tables.exec = Jvm.exec) (hd : decode c.code pc = .ok (.aload k, 2)) (hl : Ls[k]? = some (.val v)) (hv : v.isRef = true) (q : pc + 2 = n) (h : Gz p e below s C N Q (T.setTop (mkF m n Ls (v :: st)))) : Gz p e below s C N Q (T.setTop (mkF m pc Ls st)) := by subst q; exact Gz.st (fun t k => XS.aload X.here hx rfl hd hl hv k) h
theorem Gz.astoreN (n : Nat) (l' : Array Slot) {k : Fin 4} {v : Value} (X : Stand p l e R s m args below meth c T locs cells slots) (hx : p.tables.exec = Jvm.exec) (hd : decode c.code pc = .ok (.astore_n k, 1)) (hl : storeLocals Ls k.val v = some l') (hv : v.isRef = true) (q : pc + 1 = n) (h : Gz p e below s C N Q (T.setTop (mkF m n l' st))) : Gz p e below s C N Q (T.setTop (mkF m pc Ls (v :: st))) := by subst q; exact Gz.st (fun t k => XS.astoreN X.here hx rfl hd rfl hv hl k) h
theorem Gz.astore (n : Nat) (l' : Array Slot) {k : Nat} {v : Value} (X : Stand p l e R s m args below meth c T locs cells slots) (hx : p.tables.exec = Jvm.exec) (hd : decode c.code pc = .ok (.astore k, 2)) (hl : storeLocals Ls k v = some l') (hv : v.isRef = true) (q : pc + 2 = n) (h : Gz p e below s C N Q (T.setTop (mkF m n l' st))) : Gz p e below s C N Q (T.setTop (mkF m pc Ls (v :: st))) := by subst q; exact Gz.st (fun t k => XS.astore X.here hx rfl hd rfl hv hl k) h
theorem Gz.iconst (n : Nat) (v : Int32) (X : Stand p l e R s m args below meth c T locs cells slots) (hx : p.tables.exec = Jvm.exec) {i : Int} (hd : decode c.code pc = .ok (.iconst i, 1)) (hv : Int32.ofInt i = v) (q : pc + 1 = n) (h : Gz p e below s C N Q (T.setTop (mkF m n Ls (.int v :: st)))) : Gz p e below s C N Q (T.setTop (mkF m pc Ls st)) := by subst q hv; exact Gz.st (fun t k => XS.iconst X.here hx rfl hd k) h
theorem Gz.bipush (n : Nat) (v : Int32) (X : Stand p l e R s m args below meth c T locs cells slots) (hx : p.tables.exec = Jvm.exec) {i : Int} (hd : decode c.code pc = .ok (.bipush i, 2)) (hv : (Int8.ofInt i).toInt32 = v) (q : pc + 2 = n) (h : Gz p e below s C N Q (T.setTop (mkF m n Ls (.int v :: st)))) : Gz p e below s C N Q (T.setTop (mkF m pc Ls st)) := by subst q hv; exact Gz.st (fun t k => XS.bipush X.here hx rfl hd k) h
theorem Gz.sipush (n : Nat) (v : Int32) (X : Stand p l e R s m args below meth c T locs cells slots) (hx : p.tables.exec = Jvm.exec) {i : Int} (hd : decode c.code pc = .ok (.sipush i, 3)) (hv : (Int16.ofInt i).toInt32 = v) (q : pc + 3 = n) (h : Gz p e below s C N Q (T.setTop (mkF m n Ls (.int v :: st)))) : Gz p e below s C N Q (T.setTop (mkF m pc Ls st)) := by subst q hv; exact Gz.st (fun t k => XS.sipush X.here hx rfl hd k) h
theorem Gz.aconstNull (n : Nat) (X : Stand p l e R s m args below meth c T locs cells slots) (hx : p.tables.exec = Jvm.exec) (hd : decode c.code pc = .ok (.aconst_null, 1))  (q : pc + 1 = n) (h : Gz p e below s C N Q (T.setTop (mkF m n Ls (.null :: st)))) : Gz p e below s C N Q (T.setTop (mkF m pc Ls st)) := by subst q; exact Gz.st (fun t k => XS.aconstNull X.here hx rfl hd k) h
theorem Gz.iadd (n : Nat) {x y : Int32} (X : Stand p l e R s m args below meth c T locs cells slots) (hx : p.tables.exec = Jvm.exec) (hd : decode c.code pc = .ok (.iadd, 1))  (q : pc + 1 = n) (h : Gz p e below s C N Q (T.setTop (mkF m n Ls (.int (x + y) :: st)))) : Gz p e below s C N Q (T.setTop (mkF m pc Ls (.int y :: .int x :: st))) := by subst q; exact Gz.st (fun t k => XS.iadd X.here hx rfl hd rfl k) h
theorem Gz.iaddV (n : Nat) (z : Int32) (X : Stand p l e R s m args below meth c T locs cells slots) (hx : p.tables.exec = Jvm.exec) {x y : Int32} (hd : decode c.code pc = .ok (.iadd, 1)) (hz : x + y = z) (q : pc + 1 = n) (h : Gz p e below s C N Q (T.setTop (mkF m n Ls (.int z :: st)))) : Gz p e below s C N Q (T.setTop (mkF m pc Ls (.int y :: .int x :: st))) := by subst hz; exact Gz.iadd n X hx hd q h
theorem Gz.isub (n : Nat) {x y : Int32} (X : Stand p l e R s m args below meth c T locs cells slots) (hx : p.tables.exec = Jvm.exec) (hd : decode c.code pc = .ok (.isub, 1))  (q : pc + 1 = n) (h : Gz p e below s C N Q (T.setTop (mkF m n Ls (.int (x - y) :: st)))) : Gz p e below s C N Q (T.setTop (mkF m pc Ls (.int y :: .int x :: st))) := by subst q; exact Gz.st (fun t k => XS.isub X.here hx rfl hd rfl k) h
theorem Gz.isubV (n : Nat) (z : Int32) (X : Stand p l e R s m args below meth c T locs cells slots) (hx : p.tables.exec = Jvm.exec) {x y : Int32} (hd : decode c.code pc = .ok (.isub, 1)) (hz : x - y = z) (q : pc + 1 = n) (h : Gz p e below s C N Q (T.setTop (mkF m n Ls (.int z :: st)))) : Gz p e below s C N Q (T.setTop (mkF m pc Ls (.int y :: .int x :: st))) := by subst hz; exact Gz.isub n X hx hd q h
theorem Gz.iand (n : Nat) {x y : Int32} (X : Stand p l e R s m args below meth c T locs cells slots) (hx : p.tables.exec = Jvm.exec) (hd : decode c.code pc = .ok (.iand, 1))  (q : pc + 1 = n) (h : Gz p e below s C N Q (T.setTop (mkF m n Ls (.int (x &&& y) :: st)))) : Gz p e below s C N Q (T.setTop (mkF m pc Ls (.int y :: .int x :: st))) := by subst q; exact Gz.st (fun t k => XS.iand X.here hx rfl hd rfl k) h
theorem Gz.iandV (n : Nat) (z : Int32) (X : Stand p l e R s m args below meth c T locs cells slots) (hx : p.tables.exec = Jvm.exec) {x y : Int32} (hd : decode c.code pc = .ok (.iand, 1)) (hz : x &&& y = z) (q : pc + 1 = n) (h : Gz p e below s C N Q (T.setTop (mkF m n Ls (.int z :: st)))) : Gz p e below s C N Q (T.setTop (mkF m pc Ls (.int y :: .int x :: st))) := by subst hz; exact Gz.iand n X hx hd q h
theorem Gz.irem (n : Nat) {x y : Int32} (X : Stand p l e R s m args below meth c T locs cells slots) (hx : p.tables.exec = Jvm.exec) (hd : decode c.code pc = .ok (.irem, 1)) (hy : y ≠ 0) (q : pc + 1 = n) (h : Gz p e below s C N Q (T.setTop (mkF m n Ls (.int (x % y) :: st)))) : Gz p e below s C N Q (T.setTop (mkF m pc Ls (.int y :: .int x :: st))) := by subst q; exact Gz.st (fun t k => iremM X hx rfl hd rfl hy k) h
theorem Gz.iinc (n : Nat) (l' : Array Slot) (X : Stand p l e R s m args below meth c T locs cells slots) (hx : p.tables.exec = Jvm.exec) {k : Nat} {i : Int} {x : Int32} (hd : decode c.code pc = .ok (.iinc k i, 3)) (hl : Ls[k]? = some (.val (.int x))) (hl' : storeLocals Ls k (.int (x + Int32.ofInt i)) = some l') (q : pc + 3 = n) (h : Gz p e below s C N Q (T.setTop (mkF m n l' st))) : Gz p e below s C N Q (T.setTop (mkF m pc Ls st)) := by subst q; exact Gz.st (fun t k => XS.iinc X.here hx rfl hd hl hl' k) h
theorem Gz.dup (n : Nat) {x : Value} (X : Stand p l e R s m args below meth c T locs cells slots) (hx : p.tables.exec = Jvm.exec) (hd : decode c.code pc = .ok (.dup, 1)) (hc : x.category = 1) (q : pc + 1 = n) (h : Gz p e below s C N Q (T.setTop (mkF m n Ls (x :: x :: st)))) : Gz p e below s C N Q (T.setTop (mkF m pc Ls (x :: st))) := by subst q; exact Gz.st (fun t k => XS.dup X.here hx rfl hd rfl hc k) h
theorem Gz.pop (n : Nat) {x : Value} (X : Stand p l e R s m args below meth c T locs cells slots) (hx : p.tables.exec = Jvm.exec) (hd : decode c.code pc = .ok (.pop, 1)) (hc : x.category = 1) (q : pc + 1 = n) (h : Gz p e below s C N Q (T.setTop (mkF m n Ls st))) : Gz p e below s C N Q (T.setTop (mkF m pc Ls (x :: st))) := by subst q; exact Gz.st (fun t k => XS.pop X.here hx rfl hd rfl hc k) h
theorem Gz.goto (n : Nat) (X : Stand p l e R s m args below meth c T locs cells slots) (hx : p.tables.exec = Jvm.exec) {o : Int} (hd : decode c.code pc = .ok (.goto o, 3)) (ho : 0 ≤ (pc : Int) + o) (q : ((pc : Int) + o).toNat = n) (h : Gz p e below s C N Q (T.setTop (mkF m n Ls st))) : Gz p e below s C N Q (T.setTop (mkF m pc Ls st)) := Gz.st (fun t k => XS.goto X.here hx rfl (pc0 := pc) (pc' := n) rfl hd ho q k) h
theorem Gz.ifYes (n : Nat) (X : Stand p l e R s m args below meth c T locs cells slots) (hx : p.tables.exec = Jvm.exec) {cd : ClassFile.Cond} {x : Int32} {o : Int} (hd : decode c.code pc = .ok (.ifCond cd o, 3)) (hc : ifCond.holds cd x = true) (ho : 0 ≤ (pc : Int) + o) (q : ((pc : Int) + o).toNat = n) (h : Gz p e below s C N Q (T.setTop (mkF m n Ls st))) : Gz p e below s C N Q (T.setTop (mkF m pc Ls (.int x :: st))) := Gz.st (fun t k => XS.ifYes X.here hx rfl (pc0 := pc) (pc' := n) rfl hd rfl hc ho q k) h
theorem Gz.ifNo (n : Nat) (X : Stand p l e R s m args below meth c T locs cells slots) (hx : p.tables.exec = Jvm.exec) {cd : ClassFile.Cond} {x : Int32} {o : Int} (hd : decode c.code pc = .ok (.ifCond cd o, 3)) (hc : ifCond.holds cd x = false) (q : pc + 3 = n) (h : Gz p e below s C N Q (T.setTop (mkF m n Ls st))) : Gz p e below s C N Q (T.setTop (mkF m pc Ls (.int x :: st))) := by subst q; exact Gz.st (fun t k => XS.ifNo X.here hx rfl hd rfl hc k) h
theorem Gz.icmpYes (n : Nat) (X : Stand p l e R s m args below meth c T locs cells slots) (hx : p.tables.exec = Jvm.exec) {cd : ClassFile.Cond} {x y : Int32} {o : Int} (hd : decode c.code pc = .ok (.if_icmp cd o, 3)) (hc : if_icmp.holds cd x y = true) (ho : 0 ≤ (pc : Int) + o) (q : ((pc : Int) + o).toNat = n) (h : Gz p e below s C N Q (T.setTop (mkF m n Ls st))) : Gz p e below s C N Q (T.setTop (mkF m pc Ls (.int y :: .int x :: st))) := Gz.st (fun t k => XS.icmpYes X.here hx rfl (pc0 := pc) (pc' := n) rfl hd rfl hc ho q k) h
theorem Gz.icmpNo (n : Nat) (X : Stand p l e R s m args below meth c T locs cells slots) (hx : p.tables.exec = Jvm.exec) {cd : ClassFile.Cond} {x y : Int32} {o : Int} (hd : decode c.code pc = .ok (.if_icmp cd o, 3)) (hc : if_icmp.holds cd x y = false) (q : pc + 3 = n) (h : Gz p e below s C N Q (T.setTop (mkF m n Ls st))) : Gz p e below s C N Q (T.setTop (mkF m pc Ls (.int y :: .int x :: st))) := by subst q; exact Gz.st (fun t k => XS.icmpNo X.here hx rfl hd rfl hc k) h
theorem Gz.acmp (n : Nat) (same : Bool) (X : Stand p l e R s m args below meth c T locs cells slots) (hx : p.tables.exec = Jvm.exec) {cd : ACond} {x y : Value} {o : Int} (hd : decode c.code pc = .ok (.if_acmp cd o, 3)) (h1 : x.isRef = true) (h2 : y.isRef = true) (hq : decide (x = y) = same) (ho : 0 ≤ (pc : Int) + o) (q : n = if acV cd same = true then ((pc : Int) + o).toNat else pc + 3) (h : Gz p e below s C N Q (T.setTop (mkF m n Ls st))) : Gz p e below s C N Q (T.setTop (mkF m pc Ls (y :: x :: st))) := Gz.st (fun t k => Jvm.RoadKit.acmp X hx rfl h1 h2 (pc0 := pc) (pc' := n) rfl hd rfl hq ho q k) h
theorem Gz.ldcI (n : Nat) (X : Stand p l e R s m args below meth c T locs cells slots) (hx : p.tables.exec = Jvm.exec) {own : String} {ix : Nat} {v : Int32} (hd : decode c.code pc = .ok (.ldc ix, 2)) (hown : s.vm.findClass own = some m.cls) (w : (Cond.constant own ix v).before args s = true) (q : pc + 2 = n) (h : Gz p e below s C N Q (T.setTop (mkF m n Ls (.int v :: st)))) : Gz p e below s C N Q (T.setTop (mkF m pc Ls st)) := by subst q; exact Gz.st (X.ldcInt hx hown w (g := mkF m pc Ls st) rfl hd) h
theorem Gz.getF (n : Nat) (X : Stand p l e R s m args below meth c T locs cells slots) (hx : p.tables.exec = Jvm.exec) (hZ : Z.Warmed39 s.vm) {own : String} (hown : s.vm.findClass own = some m.cls) {R0 O nm d host : String} {ix : Nat} (hd : decode c.code pc = .ok (.getfield ix, 3)) (w : (Cond.fieldLink own ix R0 nm d).before a0 Z = true ∨ (Cond.fieldLinkNest own ix R0 nm d host).before a0 Z = true) (via : Via Z R0 O nm d) (eT : T.heap = hh) {a : Addr} {v : Value} (F : Fld Z hh a O nm d v) (q : pc + 3 = n) (h : ∀ T', Stand p l e R s m args below meth c T' (locs) (cells) (slots) → T'.heap = hh → Gz p e below s C N Q (T'.setTop (mkF m n Ls (v :: st)))) : Gz p e below s C N Q (T.setTop (mkF m pc Ls (.ref a :: st))) := by
  subst q
  obtain ⟨T', X', e', st'⟩ := Jvm.RoadKit.getF X hx hZ hown w via eT F (g := mkF m pc Ls (.ref a :: st)) rfl rfl hd
  exact Gz.st st' (h T' X' e')
theorem Gz.getS (n : Nat) (X : Stand p l e R s m args below meth c T locs cells slots) (hx : p.tables.exec = Jvm.exec) (hZ : Z.Warmed39 s.vm) {own : String} (hown : s.vm.findClass own = some m.cls) {R0 O nm d host : String} {ix : Nat} (hd : decode c.code pc = .ok (.getstatic ix, 3)) (w : (Cond.fieldLink own ix R0 nm d).before a0 Z = true ∨ (Cond.fieldLinkNest own ix R0 nm d host).before a0 Z = true) (via : Via Z R0 O nm d) (eT : T.heap = hh) {v : Value} (F : Sta Z hh O nm d v) (q : pc + 3 = n) (h : ∀ T', Stand p l e R s m args below meth c T' (locs) (cells) (slots) → T'.heap = hh → Gz p e below s C N Q (T'.setTop (mkF m n Ls (v :: st)))) : Gz p e below s C N Q (T.setTop (mkF m pc Ls st)) := by
  subst q
  obtain ⟨T', X', e', st'⟩ := getS2 X hx hZ hown w via eT F (g := mkF m pc Ls st) rfl hd
  exact Gz.st st' (h T' X' e')
theorem Gz.putF (n : Nat) (X : Stand p l e R s m args below meth c T locs cells slots) (hx : p.tables.exec = Jvm.exec) (hZ : Z.Warmed39 s.vm) {own : String} (hown : s.vm.findClass own = some m.cls) {R0 O nm d host K : String} {ix kk : Nat} (ty : FieldType) (hd : decode c.code pc = .ok (.putfield ix, 3)) (w : (Cond.fieldLink own ix R0 nm d).before a0 Z = true ∨ (Cond.fieldLinkNest own ix R0 nm d host).before a0 Z = true) (via : Via Z R0 O nm d) (eT : T.heap = hh) {a : Addr} {v old : Value} (F : Fld Z hh a O nm d old) (E : Exa Z hh a K) (L : (Cond.lays K O nm d).before a0 Z = true ∨ ((Cond.laysFinal K O nm d).before a0 Z = true ∧ own = O ∧ meth.name = "<init>")) (wi : (Cond.instantiable K kk).before a0 Z = true) (hty : parseFieldDescriptor d = some ty) (hn : narrow ty v = v) (hf : fits ty v = true) (q : pc + 3 = n) (h : ∀ T' h', Stand p l e R s m args below meth c T' (locs ++ [⟨a, slotOf Z O nm d⟩]) (cells) (slots) → T'.heap = h' → Wr hh h' a (slotOf Z O nm d) v → Gz p e below s C N Q (T'.setTop (mkF m n Ls st))) : Gz p e below s C N Q (T.setTop (mkF m pc Ls (v :: .ref a :: st))) := by
  subst q
  obtain ⟨T', h', X', e', W, st'⟩ := Jvm.RoadKit.putF X hx hZ hown w via eT F E L wi hty hn hf (g := mkF m pc Ls (v :: .ref a :: st)) rfl rfl hd
  exact Gz.st st' (h T' h' X' e' W)
theorem Gz.stI (n : Nat) (X : Stand p l e R s m args below meth c T locs cells slots) (hx : p.tables.exec = Jvm.exec) (hZ : Z.Warmed39 s.vm) {a : Addr} {cl : Cell} {j : Int32} {x : Int32} (hd : decode c.code pc = .ok (.iastore, 1)) (eT : T.heap = hh) (A : Arr Z hh a cl .int) (hj : ¬ (j < 0 ∨ cl.slots.size ≤ j.toNatClampNeg)) (q : pc + 1 = n) (h : ∀ T' h', Stand p l e R s m args below meth c T' (locs ++ [⟨a, j.toNatClampNeg⟩]) (cells) (slots) → T'.heap = h' → Wr hh h' a j.toNatClampNeg (.int x) → Gz p e below s C N Q (T'.setTop (mkF m n Ls st))) : Gz p e below s C N Q (T.setTop (mkF m pc Ls (.int x :: .int j :: .ref a :: st))) := by
  subst q
  obtain ⟨T', h', X', e', W, st'⟩ := Jvm.RoadKit.stI X hx hZ eT A (j := j) hj (g := mkF m pc Ls (.int x :: .int j :: .ref a :: st)) rfl rfl hd
  exact Gz.st st' (h T' h' X' e' W)
theorem Gz.stB (n : Nat) (X : Stand p l e R s m args below meth c T locs cells slots) (hx : p.tables.exec = Jvm.exec) (hZ : Z.Warmed39 s.vm) {a : Addr} {cl : Cell} {j : Int32} {x : Int32} (hd : decode c.code pc = .ok (.bastore, 1)) (eT : T.heap = hh) (A : Arr Z hh a cl .byte) (hj : ¬ (j < 0 ∨ cl.slots.size ≤ j.toNatClampNeg)) (q : pc + 1 = n) (h : ∀ T' h', Stand p l e R s m args below meth c T' (locs ++ [⟨a, j.toNatClampNeg⟩]) (cells) (slots) → T'.heap = h' → Wr hh h' a j.toNatClampNeg (.int (nar .byte x)) → Gz p e below s C N Q (T'.setTop (mkF m n Ls st))) : Gz p e below s C N Q (T.setTop (mkF m pc Ls (.int x :: .int j :: .ref a :: st))) := by
  subst q
  obtain ⟨T', h', X', e', W, st'⟩ := Jvm.RoadKit.stB X hx hZ eT A (j := j) hj (g := mkF m pc Ls (.int x :: .int j :: .ref a :: st)) rfl rfl hd
  exact Gz.st st' (h T' h' X' e' W)
theorem Gz.stR (n : Nat) (X : Stand p l e R s m args below meth c T locs cells slots) (hx : p.tables.exec = Jvm.exec) (hZ : Z.Warmed39 s.vm) {a : Addr} {cl : Cell} {j : Int32} {v : Value} {ty : FieldType} (hd : decode c.code pc = .ok (.aastore, 1)) (eT : T.heap = hh) (A : Arr Z hh a cl ty) (hj : ¬ (j < 0 ∨ cl.slots.size ≤ j.toNatClampNeg)) (hty : ty.isReference = true) (F : Sto Z hh a v) (q : pc + 1 = n) (h : ∀ T' h', Stand p l e R s m args below meth c T' (locs ++ [⟨a, j.toNatClampNeg⟩]) (cells) (slots) → T'.heap = h' → Wr hh h' a j.toNatClampNeg v → Gz p e below s C N Q (T'.setTop (mkF m n Ls st))) : Gz p e below s C N Q (T.setTop (mkF m pc Ls (v :: .int j :: .ref a :: st))) := by
  subst q
  obtain ⟨T', h', X', e', W, st'⟩ := Jvm.RoadKit.stR X hx hZ eT A (j := j) hj hty F (g := mkF m pc Ls (v :: .int j :: .ref a :: st)) rfl rfl hd
  exact Gz.st st' (h T' h' X' e' W)
theorem Gz.ldI (n : Nat) (X : Stand p l e R s m args below meth c T locs cells slots) (hx : p.tables.exec = Jvm.exec) (hZ : Z.Warmed39 s.vm) {a : Addr} {cl : Cell} {j : Int32} {v : Value} (hd : decode c.code pc = .ok (.iaload, 1)) (eT : T.heap = hh) (A : Arr Z hh a cl .int) (hj : ¬ (j < 0 ∨ cl.slots.size ≤ j.toNatClampNeg)) (hv : cl.slots[j.toNatClampNeg]? = some v) (q : pc + 1 = n) (h : Gz p e below s C N Q (T.setTop (mkF m n Ls (v :: st)))) : Gz p e below s C N Q (T.setTop (mkF m pc Ls (.int j :: .ref a :: st))) := by
  subst q
  exact Gz.st (X.iaload hx (j := j) (v := v) (by rw [eT]; exact A.1) (State.isArrayOf_alike hZ.alike A.2.1) A.2.2 hj hv (g := mkF m pc Ls (.int j :: .ref a :: st)) rfl rfl hd) h
theorem Gz.ldB (n : Nat) (X : Stand p l e R s m args below meth c T locs cells slots) (hx : p.tables.exec = Jvm.exec) (hZ : Z.Warmed39 s.vm) {a : Addr} {cl : Cell} {j : Int32} {v : Value} (hd : decode c.code pc = .ok (.baload, 1)) (eT : T.heap = hh) (A : Arr Z hh a cl .byte) (hj : ¬ (j < 0 ∨ cl.slots.size ≤ j.toNatClampNeg)) (hv : cl.slots[j.toNatClampNeg]? = some v) (q : pc + 1 = n) (h : Gz p e below s C N Q (T.setTop (mkF m n Ls (v :: st)))) : Gz p e below s C N Q (T.setTop (mkF m pc Ls (.int j :: .ref a :: st))) := by
  subst q
  exact Gz.st (X.baloadBytes hx (j := j) (v := v) (by rw [eT]; exact A.1) (State.isArrayOf_alike hZ.alike A.2.1) A.2.2 hj hv (g := mkF m pc Ls (.int j :: .ref a :: st)) rfl rfl hd) h
theorem Gz.ldA (n : Nat) (X : Stand p l e R s m args below meth c T locs cells slots) (hx : p.tables.exec = Jvm.exec) (hZ : Z.Warmed39 s.vm) {a : Addr} {cl : Cell} {j : Int32} {v : Value} {ty : FieldType} (hr : ty.isReference = true) (hd : decode c.code pc = .ok (.aaload, 1)) (eT : T.heap = hh) (A : Arr Z hh a cl ty) (hj : ¬ (j < 0 ∨ cl.slots.size ≤ j.toNatClampNeg)) (hv : cl.slots[j.toNatClampNeg]? = some v) (q : pc + 1 = n) (h : Gz p e below s C N Q (T.setTop (mkF m n Ls (v :: st)))) : Gz p e below s C N Q (T.setTop (mkF m pc Ls (.int j :: .ref a :: st))) := by
  subst q
  exact Gz.st (X.aaload hx (j := j) (v := v) (by rw [eT]; exact A.1) (State.isArrayOf_alike hZ.alike A.2.1) hr A.2.2 hj hv (g := mkF m pc Ls (.int j :: .ref a :: st)) rfl rfl hd) h
theorem Gz.alen (n : Nat) (X : Stand p l e R s m args below meth c T locs cells slots) (hx : p.tables.exec = Jvm.exec) (hZ : Z.Warmed39 s.vm) {a : Addr} {cl : Cell} {z : Int32} {ty : FieldType} (hd : decode c.code pc = .ok (.arraylength, 1)) (eT : T.heap = hh) (A : Arr Z hh a cl ty) (hs : cl.slots.size = z.toNatClampNeg) (hz : ¬ z < 0) (q : pc + 1 = n) (h : Gz p e below s C N Q (T.setTop (mkF m n Ls (.int z :: st)))) : Gz p e below s C N Q (T.setTop (mkF m pc Ls (.ref a :: st))) := by
  subst q
  refine Gz.st (X.arraylength hx (by rw [eT]; exact A.1) (State.isArrayOf_alike hZ.alike A.2.1) (g := mkF m pc Ls (.ref a :: st)) rfl rfl hd) ?_
  rw [len_of hs hz]
  exact h
theorem Gz.enter {g g' : JFrame} (q : g = g') (h : Gz p e below s C N Q (T.setTop g')) : Gz p e below s C N Q (T.setTop g) := q ▸ h
theorem Gz.fin (X : Stand p l e R s m args below meth c T locs cells slots) {v : Option Value} (hv : meth.sig.returnType = none → v = none) (hlocks : meth.locks = false) (hc : cells ≤ C) (hn : slots ≤ N)
    (hst : ∀ fs, (∀ (f : JFrame) (acts : List Action), f.method = m → f.locked = none → f.entered = [] → (doReturn e (T.setTop f) acts v).1 = T.setFrames fs) → Steps p.tables e below S (T.setFrames fs)) (hq : Q v T.heap locs) : Gz p e below s C N Q S := by
  obtain ⟨fs, hr, hrun, hended, hW, hsame⟩ := X.leave hv hlocks
  exact ⟨_, _, hst fs hr, hrun, hended, _, _, rfl, hq, ⟨_, rfl⟩, hW, hsame.mono hc hn⟩
theorem retNV (X : Stand p l e R s m args below meth c T locs cells slots) (hx : p.tables.exec = Jvm.exec) {pc : Nat} {Ls : Array Slot} {z w : Int32} {t : FieldType} {rest : List Value} (hret : meth.sig.returnType = some t) (ht : t = .boolean ∨ t = .byte ∨ t = .char ∨ t = .short)
    (hd : decode c.code pc = .ok (.ireturn, 1)) {fs : List Frame} (hl : ∀ (f : JFrame) (acts : List Action), f.method = m → f.locked = none → f.entered = [] → (doReturn e (T.setTop f) acts (some (.int w))).1 = T.setFrames fs) (hw : nar t z = w) :
    Steps p.tables e below (T.setTop (mkF m pc Ls (.int z :: rest))) (T.setFrames fs) := by subst hw; exact retN X hx hret ht hd hl
theorem own_nb (x : Int32) : nar .byte (x.toInt8.toInt32) = x.toInt8.toInt32 := by show (x.toInt8.toInt32).toInt8.toInt32 = _; simp
theorem lt_irr (x : Int32) : ¬ x < x := Int32.lt_irrefl
theorem own_rl {a z r j : Nat} (h : a < z) (q : r = z + 1 + j) : a ≠ r := by omega
theorem own_ro {x z r j : Nat} (h : x = z) (q : r = z + 1 + j) : x ≠ r := by omega
theorem own_rr {z a b i j : Nat} (h : a = z + 1 + i) (q : b = z + 1 + j) (w : i ≠ j) : a ≠ b := by omega
theorem own_rg {n z r j : Nat} (h : n ≤ z) (q : r = z + 1 + j) : n ≤ r := by omega
theorem own_selp {a0 : Array Value} {y y' : MethodName} (hsame : y'.cls = y.cls) (hsel : (Cond.selects y'.cls y' y').before a0 s = true) (hi' : (Cond.instanceMethod y').before a0 s = true) (hi : (Cond.instanceMethod y).before a0 s = true) (hp : s.PrivateAt y) (hy : y.cls ≠ "java/lang/invoke/MethodHandle" ∧ y.cls ≠ "java/lang/invoke/VarHandle") : (Cond.selects y.cls y y).before a0 s = true := by
  obtain ⟨mk, methM, hn, hm, -, -⟩ := Cond.instanceMethod_spec hi'
  obtain ⟨kr, hkr, hni⟩ := notFace_of_selects hsel mk hn
  exact selects_self_of_private (hsame ▸ findClass_of_methodNamed hn) hkr hni hp hi hy
def NSt (h : Heap) (w : Addr) : Prop := ∀ cell : Cell, h[w]? = some cell → cell.vm.isStatics = false
theorem nst_of {Z : State} {h : Heap} {w : Addr} {K : String} (E : Exa Z h w K) : NSt h w := fun cell hc => by
  obtain ⟨c', k, h1, h2, h3, h4, -⟩ := E
  cases hc.symm.trans h1
  exact h4
theorem own_staK {Z : State} {h h' : Heap} {ws : List Addr} {K n d : String} {v : Value} (F : Sta Z h K n d v) (KK : Keep h h' ws) (q : ∀ w ∈ ws, NSt h w) : Sta Z h' K n d v := by
  obtain ⟨cf, i, k, f, a, cell, h1, h2, h3, h4, h5, h6, h7⟩ := F
  refine ⟨cf, i, k, f, a, cell, h1, h2, h3, h4, KK.2.1 a cell h5 fun hm => ?_, h6, h7⟩
  have := q a hm cell h5
  rw [h6] at this
  cases this
/-- a call of a method that the named class inherits, by the contract of the one that declares it -/
theorem own_upBack (X : Stand p l e R s m args below meth c T locs cells slots) (hx : p.tables.exec = Jvm.exec) {own K owner : String} {index : Nat} {y : MethodName} (hown : s.vm.findClass own = some m.cls) (w1 : (Cond.methodLink own index y).before args s = true) (w2 : (Cond.sameMethod y.cls owner y.name y.desc).before args s = true) (ho : owner ≠ "java/lang/invoke/MethodHandle" ∧ owner ≠ "java/lang/invoke/VarHandle")
    (w3 : (Cond.declares ⟨owner, y.name, y.desc⟩).before args s = true) (w4 : (Cond.selects K y ⟨owner, y.name, y.desc⟩).before args s = true) (w5 : (Cond.instanceMethod ⟨owner, y.name, y.desc⟩).before args s = true)
    {W : Nat} {Pre : Pt → Array Value → Prop} {Post : Pt → Array Value → Option Value → Pt → Prop} (hK : Back l R p e below s args ⟨owner, y.name, y.desc⟩ 3 W Pre Post)
    {b : Addr} {cB : ClassId} (hcB : s.vm.findClass K = some cB) (hb : IsOf cB T b) {g : JFrame} (hg : g.method = m) (hsize : g.locals.size = c.maxLocals) {argsL rest : List Value}
    (hlen : ∀ sig, parseMethodDescriptor y.desc = some sig → argsL.length = sig.parameters.length) (hstack : g.stack = argsL.reverse ++ .ref b :: rest) (hW : 2 * g.monitorRoom + (rest.map fun v => v.category).sum ≤ W)
    (hd : decode c.code g.pc = .ok (.invokevirtual index, 3)) (hpre : ∀ vm₁, s.WarmedH vm₁ → Pre ⟨T.setVm vm₁, locs, cells, slots⟩ (.ref b :: argsL).toArray) :
    ∃ (v : Option Value) (vm₁ : Vm) (B : Pt), s.WarmedH vm₁ ∧ Stand p l e R s m args below meth c B.U B.locs B.cells B.slots ∧ Post ⟨T.setVm vm₁, locs, cells, slots⟩ (.ref b :: argsL).toArray v B ∧
      Steps p.tables e below (T.setTop g) (B.U.setTop { g with pc := g.pc + 3, stack := v.toList ++ rest }) := by
  obtain ⟨cell, hc1, hc2, hc3⟩ := hb
  obtain ⟨r0, r, n0, hr0, st0, sig0⟩ := Cond.declares_spec w3
  obtain ⟨mk, mm, nk, hmk, -, abk⟩ := Cond.instanceMethod_spec w5
  obtain ⟨cn, ck, r1, f1, f2, f3, f4, f5⟩ := Cond.sameMethod_found w2
  obtain ⟨c2, r2, m2, q1, q2, q3, q4, kP, k1, k2⟩ := Cond.selects_spec w4
  obtain rfl : r0 = mk := Option.some.inj (n0.symm.trans nk)
  obtain rfl : r0 = r1 := Option.some.inj (n0.symm.trans f5)
  obtain rfl : r0 = r2 := Option.some.inj (f4.symm.trans q2)
  obtain rfl : r0 = m2 := Option.some.inj (n0.symm.trans q3)
  obtain rfl : cB = c2 := Option.some.inj (hcB.symm.trans q1)
  obtain ⟨vm₁, X₁, st₁⟩ := X.invokevirtualUp hx hown w1 w2 ho n0 hr0 st0 hc1 (fun z h => by rw [h] at hc3; cases hc3) (by rw [Launch.admits_selectMethod X.admits, hc2]; exact q4) hmk abk k1 k2 hg (argsL := argsL) (rest := rest) (hlen _ sig0) hstack hd
  obtain ⟨v, B, X', hp, hs⟩ := hK m meth c ⟨T.setVm vm₁, locs, cells, slots⟩ { g with stack := rest } (.invokevirtual index) r0 (.ref b :: argsL).toArray X₁ hg hsize hd hW (X₁.named n0) (hpre vm₁ X₁.warmed)
  exact ⟨v, vm₁, B, X₁.warmed, X', hp, (st₁ _ fun acts => by rw [doInvoke_state]; exact Steps.refl _).trans hs⟩
theorem own_fldI {a0 : Array Value} {Z : State} {t : Term} {a : Addr} {C n d : String} {k : Int32} (ev : t.eval a0 Z none [] Z = some (.ref a)) (h : (Cond.eq (.field t C n d) (.int k)).value a0 Z none Z [] = some true) : Fld Z Z.heap a C n d (.int k) := by
  obtain ⟨x, y, e1, e2, k1, k2⟩ := cmp_v (Or.inl h)
  cases Option.some.inj (e2.symm.trans (Term.int_eval k))
  obtain ⟨z, rfl⟩ := k2
  have q := gotT (Cond.eq_ints e1 (Term.int_eval k)) h
  subst q
  rw [fld_at ev] at e1
  exact Fld.start e1
theorem own_len {a0 : Array Value} {Z : State} {t : Term} {a : Addr} {cl : Cell} {ty : FieldType} {z : Int32} (ev : t.eval a0 Z none [] Z = some (.ref a)) (A : Arr Z Z.heap a cl ty) (h : (Cond.eq (.length t) (.int z)).value a0 Z none Z [] = some true) : cl.slots.size < 2 ^ 31 ∧ cl.slots.size.toInt32 = z := by
  obtain ⟨x, y, e1, e2, k1, k2⟩ := cmp_v (Or.inl h)
  obtain ⟨b, cell, f1, f2, f3, f4⟩ := Jvm.Lib.length_spec e1
  cases Option.some.inj (ev.symm.trans f1)
  cases f2.symm.trans (Arr.fin (U := Z) (Vm.Alike.refl _) A)
  subst f4
  exact ⟨f3, gotT (Cond.eq_ints e1 (Term.int_eval z)) h⟩
theorem own_el {a0 : Array Value} {Z : State} {t : Term} {a : Addr} {cl : Cell} {ty : FieldType} {j v : Int32} (ev : t.eval a0 Z none [] Z = some (.ref a)) (A : Arr Z Z.heap a cl ty) (h : (Cond.eq (.elem t (.int j)) (.int v)).value a0 Z none Z [] = some true) : cl.slots[j.toNatClampNeg]? = some (.int v) := by
  obtain ⟨x, y, e1, e2, k1, k2⟩ := cmp_v (Or.inl h)
  cases Option.some.inj (e2.symm.trans (Term.int_eval v))
  obtain ⟨z, rfl⟩ := k2
  have q := gotT (Cond.eq_ints e1 (Term.int_eval v)) h
  subst q
  exact (elem_in e1 ev (Term.int_eval j) A.1).2
end New
end Jvm.RoadKit
namespace Jvm.Pilot.@@N@@
open Jvm Jvm.ClassFile Sem Op Lib Jvm.Free Jvm.Stand Jvm.LawKit Jvm.RoadKit Bundle Jvm.Pilot.@@N@@.Jvm.D
abbrev cs0 : String := "com/example/bad_status/badstatus/model/JsonReader"
abbrev cs1 : String := "com/example/bad_status/badstatus/model/JsonReader$Token"
abbrev cs2 : String := "com/example/bad_status/badstatus/model/JsonReader$Mark"
theorem ww {av : Array Value} {Z : State} (hw : ∀ d ∈ tables_1, d.before av Z = true) (i : Nat) {d : Jvm.Cond} (h : tables_1[i]? = some d) : d.before av Z = true := hw _ (List.mem_of_getElem? h)
theorem own_nat (z : Int32) (n : Nat) (hn : n ≤ 2147483648) (h0 : 0 ≤ z.toInt) (h1 : z.toInt < n) : ∃ k : Nat, k < n ∧ z = Int32.ofNat k := by
  refine ⟨z.toInt.toNat, by omega, ?_⟩
  apply Int32.toInt_inj.mp
  rw [Int32.toInt_ofNat_of_lt (by omega)]
  omega
theorem own_i2c (z : Int32) (h0 : 0 ≤ z.toInt) (h1 : z.toInt < 65536) : z.toUInt32.toUInt16.toUInt32.toInt32 = z := by
  apply Int32.toInt_inj.mp
  have := c_i2c z
  omega
theorem own_asym32 {x y : Int32} (h : y < x) : ¬ x < y := fun q => by rw [Int32.lt_iff_toInt_lt] at *; omega
theorem own_asym64 {x y : Int64} (h : y < x) : ¬ x < y := fun q => by rw [Int64.lt_iff_toInt_lt] at *; omega
theorem own_irr32 {x y : Int32} (h : x = y) : ¬ x < y := fun q => by rw [Int32.lt_iff_toInt_lt] at *; subst h; omega
theorem own_irr64 {x y : Int64} (h : x = y) : ¬ x < y := fun q => by rw [Int64.lt_iff_toInt_lt] at *; subst h; omega
theorem own_tri32 {x y : Int32} (h : ¬ y < x) (g : ¬ x = y) : x < y := by
  rw [← Int32.toInt_inj] at g; rw [Int32.lt_iff_toInt_lt] at *; omega
theorem own_tri64 {x y : Int64} (h : ¬ y < x) (g : ¬ x = y) : x < y := by
  rw [← Int64.toInt_inj] at g; rw [Int64.lt_iff_toInt_lt] at *; omega
theorem own_nlt32 {x y : Int32} (h : x < y) : ¬ x = y := fun q => own_irr32 q h
theorem own_nlt64 {x y : Int64} (h : x < y) : ¬ x = y := fun q => own_irr64 q h
theorem own_ngt32 {x y : Int32} (h : y < x) : ¬ x = y := fun q => own_irr32 q.symm h
theorem own_ngt64 {x y : Int64} (h : y < x) : ¬ x = y := fun q => own_irr64 q.symm h
theorem own_both32 {x y : Int32} (h : ¬ x < y) (g : ¬ y < x) : x = y := by
  rw [← Int32.toInt_inj]; rw [Int32.lt_iff_toInt_lt] at *; omega
theorem own_both64 {x y : Int64} (h : ¬ x < y) (g : ¬ y < x) : x = y := by
  rw [← Int64.toInt_inj]; rw [Int64.lt_iff_toInt_lt] at *; omega
theorem own_rem (z d : Int32) (hd : d ≠ 0) (h0 : 0 ≤ z.toInt) (n : Nat) (hn : d.toInt = n) (hn2 : n ≤ 2147483648) : ∃ k : Nat, k < n ∧ z % d = Int32.ofNat k := by
  have hr := c_irem z d n hn
  have hn0 : n ≠ 0 := fun q => hd (Int32.toInt_inj.mp (by rw [hn, q]; rfl))
  have h1 := hr.1 h0
  have h2 : 0 ≤ z.toInt % (n : Int) := Int.emod_nonneg _ (by omega)
  have h3 : z.toInt % (n : Int) < n := Int.emod_lt_of_pos _ (by omega)
  exact own_nat _ n hn2 (by omega) (by omega)
theorem own_ALt32 {e j k : Int32} (h : e < j) (q : j.toInt ≤ k.toInt) : e < k := by
  rw [Int32.lt_iff_toInt_lt] at *; omega
theorem own_AGf32 {e j k : Int32} (h : e < j) (q : j.toInt ≤ k.toInt + 1) : ¬ k < e := by
  rw [Int32.lt_iff_toInt_lt] at *; omega
theorem own_AEf32 {e j k : Int32} (h : e < j) (q : j.toInt ≤ k.toInt) : ¬ e = k := by
  intro z; subst z; rw [Int32.lt_iff_toInt_lt] at h; omega
theorem own_BLf32 {e j k : Int32} (h : ¬ e < j) (q : k.toInt ≤ j.toInt) : ¬ e < k := by
  rw [Int32.lt_iff_toInt_lt] at *; omega
theorem own_BGt32 {e j k : Int32} (h : ¬ e < j) (q : k.toInt < j.toInt) : k < e := by
  rw [Int32.lt_iff_toInt_lt] at *; omega
theorem own_BEf32 {e j k : Int32} (h : ¬ e < j) (q : k.toInt < j.toInt) : ¬ e = k := by
  intro z; subst z; rw [Int32.lt_iff_toInt_lt] at h; omega
theorem own_CLf32 {e j k : Int32} (h : j < e) (q : k.toInt ≤ j.toInt + 1) : ¬ e < k := by
  rw [Int32.lt_iff_toInt_lt] at *; omega
theorem own_CGt32 {e j k : Int32} (h : j < e) (q : k.toInt ≤ j.toInt) : k < e := by
  rw [Int32.lt_iff_toInt_lt] at *; omega
theorem own_CEf32 {e j k : Int32} (h : j < e) (q : k.toInt ≤ j.toInt) : ¬ e = k := by
  intro z; subst z; rw [Int32.lt_iff_toInt_lt] at h; omega
theorem own_DLt32 {e j k : Int32} (h : ¬ j < e) (q : j.toInt < k.toInt) : e < k := by
  rw [Int32.lt_iff_toInt_lt] at *; omega
theorem own_DGf32 {e j k : Int32} (h : ¬ j < e) (q : j.toInt ≤ k.toInt) : ¬ k < e := by
  rw [Int32.lt_iff_toInt_lt] at *; omega
theorem own_DEf32 {e j k : Int32} (h : ¬ j < e) (q : j.toInt < k.toInt) : ¬ e = k := by
  intro z; subst z; rw [Int32.lt_iff_toInt_lt] at h; omega
theorem own_eqEt32 {e j k : Int32} (h : e = j) (q : j = k) : e = k := by rw [h]; exact q
theorem own_eqEf32 {e j k : Int32} (h : e = j) (q : ¬ j = k) : ¬ e = k := by rw [h]; exact q
theorem own_eqLt32 {e j k : Int32} (h : e = j) (q : j < k) : e < k := by rw [h]; exact q
theorem own_eqLf32 {e j k : Int32} (h : e = j) (q : ¬ j < k) : ¬ e < k := by rw [h]; exact q
theorem own_eqGt32 {e j k : Int32} (h : e = j) (q : k < j) : k < e := by rw [h]; exact q
theorem own_eqGf32 {e j k : Int32} (h : e = j) (q : ¬ k < j) : ¬ k < e := by rw [h]; exact q
theorem own_ALt64 {e j k : Int64} (h : e < j) (q : j.toInt ≤ k.toInt) : e < k := by
  rw [Int64.lt_iff_toInt_lt] at *; omega
theorem own_AGf64 {e j k : Int64} (h : e < j) (q : j.toInt ≤ k.toInt + 1) : ¬ k < e := by
  rw [Int64.lt_iff_toInt_lt] at *; omega
theorem own_AEf64 {e j k : Int64} (h : e < j) (q : j.toInt ≤ k.toInt) : ¬ e = k := by
  intro z; subst z; rw [Int64.lt_iff_toInt_lt] at h; omega
theorem own_BLf64 {e j k : Int64} (h : ¬ e < j) (q : k.toInt ≤ j.toInt) : ¬ e < k := by
  rw [Int64.lt_iff_toInt_lt] at *; omega
theorem own_BGt64 {e j k : Int64} (h : ¬ e < j) (q : k.toInt < j.toInt) : k < e := by
  rw [Int64.lt_iff_toInt_lt] at *; omega
theorem own_BEf64 {e j k : Int64} (h : ¬ e < j) (q : k.toInt < j.toInt) : ¬ e = k := by
  intro z; subst z; rw [Int64.lt_iff_toInt_lt] at h; omega
theorem own_CLf64 {e j k : Int64} (h : j < e) (q : k.toInt ≤ j.toInt + 1) : ¬ e < k := by
  rw [Int64.lt_iff_toInt_lt] at *; omega
theorem own_CGt64 {e j k : Int64} (h : j < e) (q : k.toInt ≤ j.toInt) : k < e := by
  rw [Int64.lt_iff_toInt_lt] at *; omega
theorem own_CEf64 {e j k : Int64} (h : j < e) (q : k.toInt ≤ j.toInt) : ¬ e = k := by
  intro z; subst z; rw [Int64.lt_iff_toInt_lt] at h; omega
theorem own_DLt64 {e j k : Int64} (h : ¬ j < e) (q : j.toInt < k.toInt) : e < k := by
  rw [Int64.lt_iff_toInt_lt] at *; omega
theorem own_DGf64 {e j k : Int64} (h : ¬ j < e) (q : j.toInt ≤ k.toInt) : ¬ k < e := by
  rw [Int64.lt_iff_toInt_lt] at *; omega
theorem own_DEf64 {e j k : Int64} (h : ¬ j < e) (q : j.toInt < k.toInt) : ¬ e = k := by
  intro z; subst z; rw [Int64.lt_iff_toInt_lt] at h; omega
theorem own_eqEt64 {e j k : Int64} (h : e = j) (q : j = k) : e = k := by rw [h]; exact q
theorem own_eqEf64 {e j k : Int64} (h : e = j) (q : ¬ j = k) : ¬ e = k := by rw [h]; exact q
theorem own_eqLt64 {e j k : Int64} (h : e = j) (q : j < k) : e < k := by rw [h]; exact q
theorem own_eqLf64 {e j k : Int64} (h : e = j) (q : ¬ j < k) : ¬ e < k := by rw [h]; exact q
theorem own_eqGt64 {e j k : Int64} (h : e = j) (q : k < j) : k < e := by rw [h]; exact q
theorem own_eqGf64 {e j k : Int64} (h : e = j) (q : ¬ k < j) : ¬ k < e := by rw [h]; exact q
theorem own_and3 (x : Int32) : (x &&& (3 : Int32)) = (0 : Int32) ∨ (x &&& (3 : Int32)) = (1 : Int32) ∨ (x &&& (3 : Int32)) = (2 : Int32) ∨ (x &&& (3 : Int32)) = (3 : Int32) := by
  have hm := c_mask x 3 2 (by decide) (by decide)
  obtain ⟨k, hk, e⟩ := own_nat (x &&& (3 : Int32)) 4 (by decide) (by rw [hm]; omega) (by rw [hm]; omega)
  rw [e]
  have : k = 0 ∨ k = 1 ∨ k = 2 ∨ k = 3 := by omega
  rcases this with rfl | rfl | rfl | rfl <;> decide
theorem own_six (x : Int32) : ((x &&& (2147483647 : Int32)) % (6 : Int32)) = (0 : Int32) ∨ ((x &&& (2147483647 : Int32)) % (6 : Int32)) = (1 : Int32) ∨ ((x &&& (2147483647 : Int32)) % (6 : Int32)) = (2 : Int32) ∨ ((x &&& (2147483647 : Int32)) % (6 : Int32)) = (3 : Int32) ∨ ((x &&& (2147483647 : Int32)) % (6 : Int32)) = (4 : Int32) ∨ ((x &&& (2147483647 : Int32)) % (6 : Int32)) = (5 : Int32) := by
  have hm := c_mask x 2147483647 31 (by decide) (by decide)
  obtain ⟨k, hk, e⟩ := own_rem (x &&& (2147483647 : Int32)) 6 (by decide) (by rw [hm]; omega) 6 (by decide) (by decide)
  rw [e]
  have : k = 0 ∨ k = 1 ∨ k = 2 ∨ k = 3 ∨ k = 4 ∨ k = 5 := by omega
  rcases this with rfl | rfl | rfl | rfl | rfl | rfl <;> decide
theorem own_ne2a {x : Int32} (h : x < 0) : ¬ x = (2 : Int32) := by
  intro q; subst q; exact absurd h (by decide)
theorem own_ne2b {x : Int32} (h : ¬ x < (3 : Int32)) : ¬ x = (2 : Int32) := by
  intro q; subst q; exact absurd (by decide) h
theorem own_ne3 {x : Int32} (h : x < (3 : Int32)) : ¬ x = (3 : Int32) := by
  intro q; subst q; exact absurd h (by decide)
theorem own_addsub (x : Int32) : ((x + (1 : Int32)) - (1 : Int32)) = x := by
  simp
theorem d5_0 : decode prog_11_method_15_code 0 = .ok (.iload_n 0, 1) := by decide +kernel
theorem d5_1 : decode prog_11_method_15_code 1 = .ok (.bipush 32, 2) := by decide +kernel
theorem d5_3 : decode prog_11_method_15_code 3 = .ok (.if_icmp .gt 31, 3) := by decide +kernel
theorem d5_6 : decode prog_11_method_15_code 6 = .ok (.iload_n 0, 1) := by decide +kernel
theorem d5_7 : decode prog_11_method_15_code 7 = .ok (.bipush 32, 2) := by decide +kernel
theorem d5_9 : decode prog_11_method_15_code 9 = .ok (.if_icmp .eq 21, 3) := by decide +kernel
theorem d5_12 : decode prog_11_method_15_code 12 = .ok (.iload_n 0, 1) := by decide +kernel
theorem d5_13 : decode prog_11_method_15_code 13 = .ok (.bipush 10, 2) := by decide +kernel
theorem d5_15 : decode prog_11_method_15_code 15 = .ok (.if_icmp .eq 15, 3) := by decide +kernel
theorem d5_18 : decode prog_11_method_15_code 18 = .ok (.iload_n 0, 1) := by decide +kernel
theorem d5_19 : decode prog_11_method_15_code 19 = .ok (.bipush 13, 2) := by decide +kernel
theorem d5_21 : decode prog_11_method_15_code 21 = .ok (.if_icmp .eq 9, 3) := by decide +kernel
theorem d5_24 : decode prog_11_method_15_code 24 = .ok (.iload_n 0, 1) := by decide +kernel
theorem d5_25 : decode prog_11_method_15_code 25 = .ok (.bipush 9, 2) := by decide +kernel
theorem d5_27 : decode prog_11_method_15_code 27 = .ok (.if_icmp .ne 7, 3) := by decide +kernel
theorem d5_30 : decode prog_11_method_15_code 30 = .ok (.iconst 1, 1) := by decide +kernel
theorem d5_31 : decode prog_11_method_15_code 31 = .ok (.goto 4, 3) := by decide +kernel
theorem d5_34 : decode prog_11_method_15_code 34 = .ok (.iconst 0, 1) := by decide +kernel
theorem d5_35 : decode prog_11_method_15_code 35 = .ok (.ireturn, 1) := by decide +kernel
theorem pn_0 : plainName cs0 = true := by first | (simp [plainName, overriddenIn]; done) | decide +kernel
theorem ef_rm5 (m : MethodId) (p0 : Int32) : entryFrame m #[(.int p0)] 1 = mkF m 0 #[.val (.int p0)] [] := by first | (simp [entryFrame, mkF, argsToLocals, Value.category]; done) | rfl
def fWs (p0 : Int32) : Int32 := (if (32 : Int32) < p0 then (0 : Int32) else (if p0 = (32 : Int32) then (1 : Int32) else (if p0 = (10 : Int32) then (1 : Int32) else (if p0 = (13 : Int32) then (1 : Int32) else (if p0 = (9 : Int32) then (1 : Int32) else (0 : Int32))))))
def Q_rm5 (Z : State) (p0 : Int32) (h0 : Heap) (n0 : Nat) (v : Option Value) (h : Heap) (L : List Loc) : Prop := v = some (.int (fWs p0)) ∧ Fr n0 L ∧ h = h0
set_option maxRecDepth 65536 in
set_option maxHeartbeats 40000000 in
theorem rm5 (l : Launch) (Z : State) (av0 : Array Value) (hw : ∀ d ∈ tables_1, d.before av0 Z = true) (ws : List Jvm.Cond) (p0 : Int32) (h0 : Heap) (n0 : Nat) (Z0 : n0 ≤ h0.size)  :
    MetFree l (⟨cs0, "isWhitespace", "(B)Z"⟩ : MethodName) (head1 (Jvm.Cond.code (⟨cs0, "isWhitespace", "(B)Z"⟩ : MethodName) prog_11_method_15_code 1 (some .boolean) :: ws) ({ frames := 0, cells := 0, slots := 0, locals := 0 } : Room)) (fun a U => a = #[(.int p0)] ∧ Z.Warmed39 U.vm ∧ U.heap = h0) (fun _ _ _ _ _ => True) (fun _ U o U' => ∃ v L, o = .returned v ∧ Q_rm5 Z p0 h0 n0 v U'.heap L ∧ FrameEnd U o U' L ({ frames := 0, cells := 0, slots := 0, locals := 0 } : Room).cells ({ frames := 0, cells := 0, slots := 0, locals := 0 } : Room).slots) := by
  refine MetFree.of_bodySF (plainFor_of_name pn_0) hisR ?_
  intro p e s m args below meth c s₁ Bd hml0 hP hK
  obtain ⟨rfl, hZ, hh⟩ := hP
  have hx := Bd.exec
  have hby := Bd.bytes
  have hml : c.maxLocals = 1 := hml0
  have dd : ∀ {pc : Nat} {r : Except DecodeError (Instr × Nat)}, decode prog_11_method_15_code pc = r → decode c.code pc = r := fun q => hb hby q
  have hown : s.vm.findClass cs0 = some m.cls := findClass_of_methodNamed Bd.named
  have hnm := (name_of_methodNamed Bd.named Bd.method).1
  have X0 : Stand p l e ({ frames := 0, cells := 0, slots := 0, locals := 0 } : Room) s m #[(.int p0)] below meth c s₁ [] 0 0 := Stand.of_body Bd
  have e0 : s₁.heap = h0 := by rw [← hh, Bd.state]; rfl
  have N0 := Fr.nil n0
  have hret := Bd.returns
  have hlk := Bd.notSynchronized
  show Gz p e below s ({ frames := 0, cells := 0, slots := 0, locals := 0 } : Room).cells ({ frames := 0, cells := 0, slots := 0, locals := 0 } : Room).slots (Q_rm5 Z p0 h0 n0) (s₁.setTop (entryFrame m #[(.int p0)] 1))
  refine Gz.enter (ef_rm5 m p0) ?_
  refine Gz.iloadN 1 X0 hx (dd d5_0) rfl rfl ?_
  refine Gz.bipush 3 (32 : Int32) X0 hx (dd d5_1) rfl rfl ?_
  by_cases hc1 : (32 : Int32) < p0
  · refine Gz.icmpYes 34 X0 hx (dd d5_3) (tlt hc1).2.2.1 (by decide) (by decide) ?_
    refine Gz.iconst 35 (0 : Int32) X0 hx (dd d5_34) rfl rfl ?_
    refine Gz.fin X0 (v := some (.int (0 : Int32))) (fun h => by rw [hret] at h; cases h) hlk (by decide) (by decide) (fun fs hr => retN X0 hx (t := .boolean) hret (by simp) (dd d5_35) hr) ?_
    rw [e0]
    exact ⟨(by unfold fWs; rw [if_pos hc1]), N0, rfl⟩
  · refine Gz.icmpNo 6 X0 hx (dd d5_3) (flt hc1).2.2.1 rfl ?_
    refine Gz.iloadN 7 X0 hx (dd d5_6) rfl rfl ?_
    refine Gz.bipush 9 (32 : Int32) X0 hx (dd d5_7) rfl rfl ?_
    by_cases hc2 : p0 = (32 : Int32)
    · refine Gz.icmpYes 30 X0 hx (dd d5_9) (teq hc2).1 (by decide) (by decide) ?_
      refine Gz.iconst 31 (1 : Int32) X0 hx (dd d5_30) rfl rfl ?_
      refine Gz.goto 35 X0 hx (dd d5_31) (by decide) (by decide) ?_
      refine Gz.fin X0 (v := some (.int (1 : Int32))) (fun h => by rw [hret] at h; cases h) hlk (by decide) (by decide) (fun fs hr => retN X0 hx (t := .boolean) hret (by simp) (dd d5_35) hr) ?_
      rw [e0]
      exact ⟨(by unfold fWs; rw [if_neg hc1, if_pos hc2]), N0, rfl⟩
    · refine Gz.icmpNo 12 X0 hx (dd d5_9) (feq hc2).1 rfl ?_
      refine Gz.iloadN 13 X0 hx (dd d5_12) rfl rfl ?_
      refine Gz.bipush 15 (10 : Int32) X0 hx (dd d5_13) rfl rfl ?_
      by_cases hc3 : p0 = (10 : Int32)
      · refine Gz.icmpYes 30 X0 hx (dd d5_15) (teq hc3).1 (by decide) (by decide) ?_
        refine Gz.iconst 31 (1 : Int32) X0 hx (dd d5_30) rfl rfl ?_
        refine Gz.goto 35 X0 hx (dd d5_31) (by decide) (by decide) ?_
        refine Gz.fin X0 (v := some (.int (1 : Int32))) (fun h => by rw [hret] at h; cases h) hlk (by decide) (by decide) (fun fs hr => retN X0 hx (t := .boolean) hret (by simp) (dd d5_35) hr) ?_
        rw [e0]
        exact ⟨(by unfold fWs; rw [if_neg hc1, if_neg hc2, if_pos hc3]), N0, rfl⟩
      · refine Gz.icmpNo 18 X0 hx (dd d5_15) (feq hc3).1 rfl ?_
        refine Gz.iloadN 19 X0 hx (dd d5_18) rfl rfl ?_
        refine Gz.bipush 21 (13 : Int32) X0 hx (dd d5_19) rfl rfl ?_
        by_cases hc4 : p0 = (13 : Int32)
        · refine Gz.icmpYes 30 X0 hx (dd d5_21) (teq hc4).1 (by decide) (by decide) ?_
          refine Gz.iconst 31 (1 : Int32) X0 hx (dd d5_30) rfl rfl ?_
          refine Gz.goto 35 X0 hx (dd d5_31) (by decide) (by decide) ?_
          refine Gz.fin X0 (v := some (.int (1 : Int32))) (fun h => by rw [hret] at h; cases h) hlk (by decide) (by decide) (fun fs hr => retN X0 hx (t := .boolean) hret (by simp) (dd d5_35) hr) ?_
          rw [e0]
          exact ⟨(by unfold fWs; rw [if_neg hc1, if_neg hc2, if_neg hc3, if_pos hc4]), N0, rfl⟩
        · refine Gz.icmpNo 24 X0 hx (dd d5_21) (feq hc4).1 rfl ?_
          refine Gz.iloadN 25 X0 hx (dd d5_24) rfl rfl ?_
          refine Gz.bipush 27 (9 : Int32) X0 hx (dd d5_25) rfl rfl ?_
          by_cases hc5 : p0 = (9 : Int32)
          · refine Gz.icmpNo 30 X0 hx (dd d5_27) (teq hc5).2 rfl ?_
            refine Gz.iconst 31 (1 : Int32) X0 hx (dd d5_30) rfl rfl ?_
            refine Gz.goto 35 X0 hx (dd d5_31) (by decide) (by decide) ?_
            refine Gz.fin X0 (v := some (.int (1 : Int32))) (fun h => by rw [hret] at h; cases h) hlk (by decide) (by decide) (fun fs hr => retN X0 hx (t := .boolean) hret (by simp) (dd d5_35) hr) ?_
            rw [e0]
            exact ⟨(by unfold fWs; rw [if_neg hc1, if_neg hc2, if_neg hc3, if_neg hc4, if_pos hc5]), N0, rfl⟩
          · refine Gz.icmpYes 34 X0 hx (dd d5_27) (feq hc5).2 (by decide) (by decide) ?_
            refine Gz.iconst 35 (0 : Int32) X0 hx (dd d5_34) rfl rfl ?_
            refine Gz.fin X0 (v := some (.int (0 : Int32))) (fun h => by rw [hret] at h; cases h) hlk (by decide) (by decide) (fun fs hr => retN X0 hx (t := .boolean) hret (by simp) (dd d5_35) hr) ?_
            rw [e0]
            exact ⟨(by unfold fWs; rw [if_neg hc1, if_neg hc2, if_neg hc3, if_neg hc4, if_neg hc5]), N0, rfl⟩
theorem d8_0 : decode prog_11_method_28_code 0 = .ok (.iload_n 0, 1) := by decide +kernel
theorem d8_1 : decode prog_11_method_28_code 1 = .ok (.bipush 48, 2) := by decide +kernel
theorem d8_3 : decode prog_11_method_28_code 3 = .ok (.if_icmp .lt 13, 3) := by decide +kernel
theorem d8_6 : decode prog_11_method_28_code 6 = .ok (.iload_n 0, 1) := by decide +kernel
theorem d8_7 : decode prog_11_method_28_code 7 = .ok (.bipush 57, 2) := by decide +kernel
theorem d8_9 : decode prog_11_method_28_code 9 = .ok (.if_icmp .gt 7, 3) := by decide +kernel
theorem d8_12 : decode prog_11_method_28_code 12 = .ok (.iconst 1, 1) := by decide +kernel
theorem d8_13 : decode prog_11_method_28_code 13 = .ok (.goto 4, 3) := by decide +kernel
theorem d8_16 : decode prog_11_method_28_code 16 = .ok (.iconst 0, 1) := by decide +kernel
theorem d8_17 : decode prog_11_method_28_code 17 = .ok (.ireturn, 1) := by decide +kernel
theorem ef_rm8 (m : MethodId) (p0 : Int32) : entryFrame m #[(.int p0)] 1 = mkF m 0 #[.val (.int p0)] [] := by first | (simp [entryFrame, mkF, argsToLocals, Value.category]; done) | rfl
def fDg (p0 : Int32) : Int32 := (if p0 < (48 : Int32) then (0 : Int32) else (if (57 : Int32) < p0 then (0 : Int32) else (1 : Int32)))
def Q_rm8 (Z : State) (p0 : Int32) (h0 : Heap) (n0 : Nat) (v : Option Value) (h : Heap) (L : List Loc) : Prop := v = some (.int (fDg p0)) ∧ Fr n0 L ∧ h = h0
set_option maxRecDepth 65536 in
set_option maxHeartbeats 40000000 in
theorem rm8 (l : Launch) (Z : State) (av0 : Array Value) (hw : ∀ d ∈ tables_1, d.before av0 Z = true) (ws : List Jvm.Cond) (p0 : Int32) (h0 : Heap) (n0 : Nat) (Z0 : n0 ≤ h0.size)  :
    MetFree l (⟨cs0, "isDigit", "(I)Z"⟩ : MethodName) (head1 (Jvm.Cond.code (⟨cs0, "isDigit", "(I)Z"⟩ : MethodName) prog_11_method_28_code 1 (some .boolean) :: ws) ({ frames := 0, cells := 0, slots := 0, locals := 0 } : Room)) (fun a U => a = #[(.int p0)] ∧ Z.Warmed39 U.vm ∧ U.heap = h0) (fun _ _ _ _ _ => True) (fun _ U o U' => ∃ v L, o = .returned v ∧ Q_rm8 Z p0 h0 n0 v U'.heap L ∧ FrameEnd U o U' L ({ frames := 0, cells := 0, slots := 0, locals := 0 } : Room).cells ({ frames := 0, cells := 0, slots := 0, locals := 0 } : Room).slots) := by
  refine MetFree.of_bodySF (plainFor_of_name pn_0) hisR ?_
  intro p e s m args below meth c s₁ Bd hml0 hP hK
  obtain ⟨rfl, hZ, hh⟩ := hP
  have hx := Bd.exec
  have hby := Bd.bytes
  have hml : c.maxLocals = 1 := hml0
  have dd : ∀ {pc : Nat} {r : Except DecodeError (Instr × Nat)}, decode prog_11_method_28_code pc = r → decode c.code pc = r := fun q => hb hby q
  have hown : s.vm.findClass cs0 = some m.cls := findClass_of_methodNamed Bd.named
  have hnm := (name_of_methodNamed Bd.named Bd.method).1
  have X0 : Stand p l e ({ frames := 0, cells := 0, slots := 0, locals := 0 } : Room) s m #[(.int p0)] below meth c s₁ [] 0 0 := Stand.of_body Bd
  have e0 : s₁.heap = h0 := by rw [← hh, Bd.state]; rfl
  have N0 := Fr.nil n0
  have hret := Bd.returns
  have hlk := Bd.notSynchronized
  show Gz p e below s ({ frames := 0, cells := 0, slots := 0, locals := 0 } : Room).cells ({ frames := 0, cells := 0, slots := 0, locals := 0 } : Room).slots (Q_rm8 Z p0 h0 n0) (s₁.setTop (entryFrame m #[(.int p0)] 1))
  refine Gz.enter (ef_rm8 m p0) ?_
  refine Gz.iloadN 1 X0 hx (dd d8_0) rfl rfl ?_
  refine Gz.bipush 3 (48 : Int32) X0 hx (dd d8_1) rfl rfl ?_
  by_cases hc1 : p0 < (48 : Int32)
  · refine Gz.icmpYes 16 X0 hx (dd d8_3) (tlt hc1).1 (by decide) (by decide) ?_
    refine Gz.iconst 17 (0 : Int32) X0 hx (dd d8_16) rfl rfl ?_
    refine Gz.fin X0 (v := some (.int (0 : Int32))) (fun h => by rw [hret] at h; cases h) hlk (by decide) (by decide) (fun fs hr => retN X0 hx (t := .boolean) hret (by simp) (dd d8_17) hr) ?_
    rw [e0]
    exact ⟨(by unfold fDg; rw [if_pos hc1]), N0, rfl⟩
  · refine Gz.icmpNo 6 X0 hx (dd d8_3) (flt hc1).1 rfl ?_
    refine Gz.iloadN 7 X0 hx (dd d8_6) rfl rfl ?_
    refine Gz.bipush 9 (57 : Int32) X0 hx (dd d8_7) rfl rfl ?_
    by_cases hc2 : (57 : Int32) < p0
    · refine Gz.icmpYes 16 X0 hx (dd d8_9) (tlt hc2).2.2.1 (by decide) (by decide) ?_
      refine Gz.iconst 17 (0 : Int32) X0 hx (dd d8_16) rfl rfl ?_
      refine Gz.fin X0 (v := some (.int (0 : Int32))) (fun h => by rw [hret] at h; cases h) hlk (by decide) (by decide) (fun fs hr => retN X0 hx (t := .boolean) hret (by simp) (dd d8_17) hr) ?_
      rw [e0]
      exact ⟨(by unfold fDg; rw [if_neg hc1, if_pos hc2]), N0, rfl⟩
    · refine Gz.icmpNo 12 X0 hx (dd d8_9) (flt hc2).2.2.1 rfl ?_
      refine Gz.iconst 13 (1 : Int32) X0 hx (dd d8_12) rfl rfl ?_
      refine Gz.goto 17 X0 hx (dd d8_13) (by decide) (by decide) ?_
      refine Gz.fin X0 (v := some (.int (1 : Int32))) (fun h => by rw [hret] at h; cases h) hlk (by decide) (by decide) (fun fs hr => retN X0 hx (t := .boolean) hret (by simp) (dd d8_17) hr) ?_
      rw [e0]
      exact ⟨(by unfold fDg; rw [if_neg hc1, if_neg hc2]), N0, rfl⟩
theorem d12_0 : decode jdk_30_method_1_code 0 = .ok (.aload_n 0, 1) := by decide +kernel
theorem d12_1 : decode jdk_30_method_1_code 1 = .ok (.invokespecial 1, 3) := by decide +kernel
theorem d12_4 : decode jdk_30_method_1_code 4 = .ok (.return_, 1) := by decide +kernel
theorem pn_1 : plainName "java/lang/Record" = true := by first | (simp [plainName, overriddenIn]; done) | decide +kernel
theorem ef_rmRec (m : MethodId) (a0 : Addr) : entryFrame m #[(.ref a0)] 1 = mkF m 0 #[.val (.ref a0)] [] := by first | (simp [entryFrame, mkF, argsToLocals, Value.category]; done) | rfl
def Q_rmRec (Z : State) (a0 : Addr) (h0 : Heap) (n0 : Nat) (v : Option Value) (h : Heap) (L : List Loc) : Prop := v = none ∧ Fr n0 L ∧ h = h0
set_option maxRecDepth 65536 in
set_option maxHeartbeats 40000000 in
theorem rmRec (l : Launch) (Z : State) (av0 : Array Value) (hw : ∀ d ∈ tables_1, d.before av0 Z = true) (ws : List Jvm.Cond) (a0 : Addr) (h0 : Heap) (n0 : Nat) (Z0 : n0 ≤ h0.size)  :
    MetFree l (⟨"java/lang/Record", "<init>", "()V"⟩ : MethodName) (head1 (Jvm.Cond.code (⟨"java/lang/Record", "<init>", "()V"⟩ : MethodName) jdk_30_method_1_code 1 none :: ws) ({ frames := 1, cells := 0, slots := 0, locals := 12 } : Room)) (fun a U => a = #[(.ref a0)] ∧ Z.Warmed39 U.vm ∧ U.heap = h0) (fun _ _ _ _ _ => True) (fun _ U o U' => ∃ v L, o = .returned v ∧ Q_rmRec Z a0 h0 n0 v U'.heap L ∧ FrameEnd U o U' L ({ frames := 1, cells := 0, slots := 0, locals := 12 } : Room).cells ({ frames := 1, cells := 0, slots := 0, locals := 12 } : Room).slots) := by
  refine MetFree.of_bodySF (plainFor_of_name pn_1) hisR ?_
  intro p e s m args below meth c s₁ Bd hml0 hP hK
  obtain ⟨rfl, hZ, hh⟩ := hP
  have hx := Bd.exec
  have hby := Bd.bytes
  have hml : c.maxLocals = 1 := hml0
  have dd : ∀ {pc : Nat} {r : Except DecodeError (Instr × Nat)}, decode jdk_30_method_1_code pc = r → decode c.code pc = r := fun q => hb hby q
  have hown : s.vm.findClass "java/lang/Record" = some m.cls := findClass_of_methodNamed Bd.named
  have hnm := (name_of_methodNamed Bd.named Bd.method).1
  have X0 : Stand p l e ({ frames := 1, cells := 0, slots := 0, locals := 12 } : Room) s m #[(.ref a0)] below meth c s₁ [] 0 0 := Stand.of_body Bd
  have e0 : s₁.heap = h0 := by rw [← hh, Bd.state]; rfl
  have N0 := Fr.nil n0
  have hret := Bd.returns
  have hlk := Bd.notSynchronized
  show Gz p e below s ({ frames := 1, cells := 0, slots := 0, locals := 12 } : Room).cells ({ frames := 1, cells := 0, slots := 0, locals := 12 } : Room).slots (Q_rmRec Z a0 h0 n0) (s₁.setTop (entryFrame m #[(.ref a0)] 1))
  refine Gz.enter (ef_rmRec m a0) ?_
  refine Gz.aloadN 1 X0 hx (dd d12_0) rfl rfl rfl ?_
  obtain ⟨T1, X1, e1, st1⟩ := initO X0 hx hZ hown (ww hw 92 rfl) (ww hw 20 rfl) (ww hw 21 rfl) e0 (g := (mkF m 1 #[.val (.ref a0)] [(.ref a0)])) rfl (by rw [hml]; rfl) rfl (dd d12_1) (by decide) (W := 0) (Nat.le_refl _) (by decide)
  refine Gz.st st1 ?_
  refine Gz.fin X1 (v := none) (fun _ => rfl) hlk (by decide) (by decide) (fun fs hr => X1.returnOut hx hret (dd d12_4) hr) ?_
  rw [e1]
  exact ⟨rfl, N0, rfl⟩
theorem d21_0 : decode jdk_48_method_14_code 0 = .ok (.iconst 0, 1) := by decide +kernel
theorem d21_1 : decode jdk_48_method_14_code 1 = .ok (.istore 5, 2) := by decide +kernel
theorem d21_3 : decode jdk_48_method_14_code 3 = .ok (.iload 4, 2) := by decide +kernel
theorem d21_5 : decode jdk_48_method_14_code 5 = .ok (.bipush 7, 2) := by decide +kernel
theorem d21_7 : decode jdk_48_method_14_code 7 = .ok (.if_icmp .le 63, 3) := by decide +kernel
theorem d21_70 : decode jdk_48_method_14_code 70 = .ok (.iload 5, 2) := by decide +kernel
theorem d21_72 : decode jdk_48_method_14_code 72 = .ok (.iload 4, 2) := by decide +kernel
theorem d21_74 : decode jdk_48_method_14_code 74 = .ok (.if_icmp .ge 27, 3) := by decide +kernel
theorem d21_77 : decode jdk_48_method_14_code 77 = .ok (.aload_n 0, 1) := by decide +kernel
theorem d21_78 : decode jdk_48_method_14_code 78 = .ok (.iload_n 1, 1) := by decide +kernel
theorem d21_79 : decode jdk_48_method_14_code 79 = .ok (.iload 5, 2) := by decide +kernel
theorem d21_81 : decode jdk_48_method_14_code 81 = .ok (.iadd, 1) := by decide +kernel
theorem d21_82 : decode jdk_48_method_14_code 82 = .ok (.baload, 1) := by decide +kernel
theorem d21_83 : decode jdk_48_method_14_code 83 = .ok (.aload_n 2, 1) := by decide +kernel
theorem d21_84 : decode jdk_48_method_14_code 84 = .ok (.iload_n 3, 1) := by decide +kernel
theorem d21_85 : decode jdk_48_method_14_code 85 = .ok (.iload 5, 2) := by decide +kernel
theorem d21_87 : decode jdk_48_method_14_code 87 = .ok (.iadd, 1) := by decide +kernel
theorem d21_88 : decode jdk_48_method_14_code 88 = .ok (.baload, 1) := by decide +kernel
theorem d21_89 : decode jdk_48_method_14_code 89 = .ok (.if_icmp .eq 6, 3) := by decide +kernel
theorem d21_95 : decode jdk_48_method_14_code 95 = .ok (.iinc 5 1, 3) := by decide +kernel
theorem d21_98 : decode jdk_48_method_14_code 98 = .ok (.goto (-28), 3) := by decide +kernel
theorem d21_101 : decode jdk_48_method_14_code 101 = .ok (.iconst (-1), 1) := by decide +kernel
theorem d21_102 : decode jdk_48_method_14_code 102 = .ok (.ireturn, 1) := by decide +kernel
theorem pn_2 : plainName "jdk/internal/util/ArraysSupport" = true := by first | (simp [plainName, overriddenIn]; done) | decide +kernel
theorem ef_rm21 (m : MethodId) (a0 : Addr) (a2 : Addr) : entryFrame m #[(.ref a0), (.int (6 : Int32)), (.ref a2), (.int (0 : Int32)), (.int (4 : Int32))] 8 = mkF m 0 #[.val (.ref a0), .val (.int (6 : Int32)), .val (.ref a2), .val (.int (0 : Int32)), .val (.int (4 : Int32)), .unset, .unset, .unset] [] := by first | (simp [entryFrame, mkF, argsToLocals, Value.category]; done) | rfl
def fMis (a0 : Addr) (a2 : Addr) : Int32 := (-1 : Int32)
def Q_rm21 (Z : State) (a0 : Addr) (a2 : Addr) (k_a0 : ClassId) (k_a2 : ClassId) (h0 : Heap) (n0 : Nat) (v : Option Value) (h : Heap) (L : List Loc) : Prop := v = some (.int (fMis a0 a2)) ∧ Fr n0 L ∧ h = h0
set_option maxRecDepth 65536 in
set_option maxHeartbeats 40000000 in
theorem rm21 (l : Launch) (Z : State) (av0 : Array Value) (hw : ∀ d ∈ tables_1, d.before av0 Z = true) (ws : List Jvm.Cond) (a0 : Addr) (a2 : Addr) (k_a0 : ClassId) (k_a2 : ClassId) (h0 : Heap) (n0 : Nat) (Z0 : n0 ≤ h0.size) (V_a0 : Arv Z h0 a0 k_a0 .byte (10 : Int32) [(.int (91 : Int32)), (.int (32 : Int32)), (.int (52 : Int32)), (.int (50 : Int32)), (.int (44 : Int32)), (.int (91 : Int32)), (.int (116 : Int32)), (.int (114 : Int32)), (.int (117 : Int32)), (.int (101 : Int32))] (.int (0 : Int32))) (V_a2 : Arv Z h0 a2 k_a2 .byte (4 : Int32) [(.int (116 : Int32)), (.int (114 : Int32)), (.int (117 : Int32)), (.int (101 : Int32))] (.int (0 : Int32))) :
    MetFree l (⟨"jdk/internal/util/ArraysSupport", "mismatch", "([BI[BII)I"⟩ : MethodName) (head1 (Jvm.Cond.code (⟨"jdk/internal/util/ArraysSupport", "mismatch", "([BI[BII)I"⟩ : MethodName) jdk_48_method_14_code 8 (some .int) :: ws) ({ frames := 0, cells := 0, slots := 0, locals := 0 } : Room)) (fun a U => a = #[(.ref a0), (.int (6 : Int32)), (.ref a2), (.int (0 : Int32)), (.int (4 : Int32))] ∧ Z.Warmed39 U.vm ∧ U.heap = h0) (fun _ _ _ _ _ => True) (fun _ U o U' => ∃ v L, o = .returned v ∧ Q_rm21 Z a0 a2 k_a0 k_a2 h0 n0 v U'.heap L ∧ FrameEnd U o U' L ({ frames := 0, cells := 0, slots := 0, locals := 0 } : Room).cells ({ frames := 0, cells := 0, slots := 0, locals := 0 } : Room).slots) := by
  refine MetFree.of_bodySF (plainFor_of_name pn_2) hisR ?_
  intro p e s m args below meth c s₁ Bd hml0 hP hK
  obtain ⟨rfl, hZ, hh⟩ := hP
  have hx := Bd.exec
  have hby := Bd.bytes
  have hml : c.maxLocals = 8 := hml0
  have dd : ∀ {pc : Nat} {r : Except DecodeError (Instr × Nat)}, decode jdk_48_method_14_code pc = r → decode c.code pc = r := fun q => hb hby q
  have hown : s.vm.findClass "jdk/internal/util/ArraysSupport" = some m.cls := findClass_of_methodNamed Bd.named
  have hnm := (name_of_methodNamed Bd.named Bd.method).1
  have X0 : Stand p l e ({ frames := 0, cells := 0, slots := 0, locals := 0 } : Room) s m #[(.ref a0), (.int (6 : Int32)), (.ref a2), (.int (0 : Int32)), (.int (4 : Int32))] below meth c s₁ [] 0 0 := Stand.of_body Bd
  have e0 : s₁.heap = h0 := by rw [← hh, Bd.state]; rfl
  have N0 := Fr.nil n0
  have hret := Bd.returns
  have hlk := Bd.notSynchronized
  show Gz p e below s ({ frames := 0, cells := 0, slots := 0, locals := 0 } : Room).cells ({ frames := 0, cells := 0, slots := 0, locals := 0 } : Room).slots (Q_rm21 Z a0 a2 k_a0 k_a2 h0 n0) (s₁.setTop (entryFrame m #[(.ref a0), (.int (6 : Int32)), (.ref a2), (.int (0 : Int32)), (.int (4 : Int32))] 8))
  refine Gz.enter (ef_rm21 m a0 a2) ?_
  refine Gz.iconst 1 (0 : Int32) X0 hx (dd d21_0) rfl rfl ?_
  refine Gz.istore 3 #[.val (.ref a0), .val (.int (6 : Int32)), .val (.ref a2), .val (.int (0 : Int32)), .val (.int (4 : Int32)), .val (.int (0 : Int32)), .unset, .unset] X0 hx (dd d21_1) rfl rfl ?_
  refine Gz.iload 5 X0 hx (dd d21_3) rfl rfl ?_
  refine Gz.bipush 7 (7 : Int32) X0 hx (dd d21_5) rfl rfl ?_
  refine Gz.icmpYes 70 X0 hx (dd d21_7) (flt (by decide : ¬ ((7 : Int32) < (4 : Int32)))).2.2.2 (by decide) (by decide) ?_
  refine Gz.iload 72 X0 hx (dd d21_70) rfl rfl ?_
  refine Gz.iload 74 X0 hx (dd d21_72) rfl rfl ?_
  refine Gz.icmpNo 77 X0 hx (dd d21_74) (tlt (by decide : (0 : Int32) < (4 : Int32))).2.1 rfl ?_
  refine Gz.aloadN 78 X0 hx (dd d21_77) rfl rfl rfl ?_
  refine Gz.iloadN 79 X0 hx (dd d21_78) rfl rfl ?_
  refine Gz.iload 81 X0 hx (dd d21_79) rfl rfl ?_
  refine Gz.iaddV 82 (6 : Int32) X0 hx (dd d21_81) rfl rfl ?_
  obtain ⟨c1, A1, q1, S1, N1, H1, G1⟩ := id V_a0
  have hin1 : ¬ ((6 : Int32) < 0 ∨ c1.slots.size ≤ ((6 : Int32)).toNatClampNeg) := inb_of S1 ⟨by decide, by decide⟩
  refine Gz.ldB 83 X0 hx hZ (dd d21_82) e0 A1 hin1 (Has.at H1 hin1 (rfl : _ = ((.int (116 : Int32)) : Value))) rfl ?_
  refine Gz.aloadN 84 X0 hx (dd d21_83) rfl rfl rfl ?_
  refine Gz.iloadN 85 X0 hx (dd d21_84) rfl rfl ?_
  refine Gz.iload 87 X0 hx (dd d21_85) rfl rfl ?_
  refine Gz.iaddV 88 (0 : Int32) X0 hx (dd d21_87) rfl rfl ?_
  obtain ⟨c2, A2, q2, S2, N2, H2, G2⟩ := id V_a2
  have hin2 : ¬ ((0 : Int32) < 0 ∨ c2.slots.size ≤ ((0 : Int32)).toNatClampNeg) := inb_of S2 ⟨by decide, by decide⟩
  refine Gz.ldB 89 X0 hx hZ (dd d21_88) e0 A2 hin2 (Has.at H2 hin2 (rfl : _ = ((.int (116 : Int32)) : Value))) rfl ?_
  refine Gz.icmpYes 95 X0 hx (dd d21_89) (teq (by decide : (116 : Int32) = (116 : Int32))).1 (by decide) (by decide) ?_
  refine Gz.iinc 98 #[.val (.ref a0), .val (.int (6 : Int32)), .val (.ref a2), .val (.int (0 : Int32)), .val (.int (4 : Int32)), .val (.int (1 : Int32)), .unset, .unset] X0 hx (dd d21_95) rfl rfl rfl ?_
  refine Gz.goto 70 X0 hx (dd d21_98) (by decide) (by decide) ?_
  refine Gz.iload 72 X0 hx (dd d21_70) rfl rfl ?_
  refine Gz.iload 74 X0 hx (dd d21_72) rfl rfl ?_
  refine Gz.icmpNo 77 X0 hx (dd d21_74) (tlt (by decide : (1 : Int32) < (4 : Int32))).2.1 rfl ?_
  refine Gz.aloadN 78 X0 hx (dd d21_77) rfl rfl rfl ?_
  refine Gz.iloadN 79 X0 hx (dd d21_78) rfl rfl ?_
  refine Gz.iload 81 X0 hx (dd d21_79) rfl rfl ?_
  refine Gz.iaddV 82 (7 : Int32) X0 hx (dd d21_81) rfl rfl ?_
  obtain ⟨c3, A3, q3, S3, N3, H3, G3⟩ := id V_a0
  have hin3 : ¬ ((7 : Int32) < 0 ∨ c3.slots.size ≤ ((7 : Int32)).toNatClampNeg) := inb_of S3 ⟨by decide, by decide⟩
  refine Gz.ldB 83 X0 hx hZ (dd d21_82) e0 A3 hin3 (Has.at H3 hin3 (rfl : _ = ((.int (114 : Int32)) : Value))) rfl ?_
  refine Gz.aloadN 84 X0 hx (dd d21_83) rfl rfl rfl ?_
  refine Gz.iloadN 85 X0 hx (dd d21_84) rfl rfl ?_
  refine Gz.iload 87 X0 hx (dd d21_85) rfl rfl ?_
  refine Gz.iaddV 88 (1 : Int32) X0 hx (dd d21_87) rfl rfl ?_
  obtain ⟨c4, A4, q4, S4, N4, H4, G4⟩ := id V_a2
  have hin4 : ¬ ((1 : Int32) < 0 ∨ c4.slots.size ≤ ((1 : Int32)).toNatClampNeg) := inb_of S4 ⟨by decide, by decide⟩
  refine Gz.ldB 89 X0 hx hZ (dd d21_88) e0 A4 hin4 (Has.at H4 hin4 (rfl : _ = ((.int (114 : Int32)) : Value))) rfl ?_
  refine Gz.icmpYes 95 X0 hx (dd d21_89) (teq (by decide : (114 : Int32) = (114 : Int32))).1 (by decide) (by decide) ?_
  refine Gz.iinc 98 #[.val (.ref a0), .val (.int (6 : Int32)), .val (.ref a2), .val (.int (0 : Int32)), .val (.int (4 : Int32)), .val (.int (2 : Int32)), .unset, .unset] X0 hx (dd d21_95) rfl rfl rfl ?_
  refine Gz.goto 70 X0 hx (dd d21_98) (by decide) (by decide) ?_
  refine Gz.iload 72 X0 hx (dd d21_70) rfl rfl ?_
  refine Gz.iload 74 X0 hx (dd d21_72) rfl rfl ?_
  refine Gz.icmpNo 77 X0 hx (dd d21_74) (tlt (by decide : (2 : Int32) < (4 : Int32))).2.1 rfl ?_
  refine Gz.aloadN 78 X0 hx (dd d21_77) rfl rfl rfl ?_
  refine Gz.iloadN 79 X0 hx (dd d21_78) rfl rfl ?_
  refine Gz.iload 81 X0 hx (dd d21_79) rfl rfl ?_
  refine Gz.iaddV 82 (8 : Int32) X0 hx (dd d21_81) rfl rfl ?_
  obtain ⟨c5, A5, q5, S5, N5, H5, G5⟩ := id V_a0
  have hin5 : ¬ ((8 : Int32) < 0 ∨ c5.slots.size ≤ ((8 : Int32)).toNatClampNeg) := inb_of S5 ⟨by decide, by decide⟩
  refine Gz.ldB 83 X0 hx hZ (dd d21_82) e0 A5 hin5 (Has.at H5 hin5 (rfl : _ = ((.int (117 : Int32)) : Value))) rfl ?_
  refine Gz.aloadN 84 X0 hx (dd d21_83) rfl rfl rfl ?_
  refine Gz.iloadN 85 X0 hx (dd d21_84) rfl rfl ?_
  refine Gz.iload 87 X0 hx (dd d21_85) rfl rfl ?_
  refine Gz.iaddV 88 (2 : Int32) X0 hx (dd d21_87) rfl rfl ?_
  obtain ⟨c6, A6, q6, S6, N6, H6, G6⟩ := id V_a2
  have hin6 : ¬ ((2 : Int32) < 0 ∨ c6.slots.size ≤ ((2 : Int32)).toNatClampNeg) := inb_of S6 ⟨by decide, by decide⟩
  refine Gz.ldB 89 X0 hx hZ (dd d21_88) e0 A6 hin6 (Has.at H6 hin6 (rfl : _ = ((.int (117 : Int32)) : Value))) rfl ?_
  refine Gz.icmpYes 95 X0 hx (dd d21_89) (teq (by decide : (117 : Int32) = (117 : Int32))).1 (by decide) (by decide) ?_
  refine Gz.iinc 98 #[.val (.ref a0), .val (.int (6 : Int32)), .val (.ref a2), .val (.int (0 : Int32)), .val (.int (4 : Int32)), .val (.int (3 : Int32)), .unset, .unset] X0 hx (dd d21_95) rfl rfl rfl ?_
  refine Gz.goto 70 X0 hx (dd d21_98) (by decide) (by decide) ?_
  refine Gz.iload 72 X0 hx (dd d21_70) rfl rfl ?_
  refine Gz.iload 74 X0 hx (dd d21_72) rfl rfl ?_
  refine Gz.icmpNo 77 X0 hx (dd d21_74) (tlt (by decide : (3 : Int32) < (4 : Int32))).2.1 rfl ?_
  refine Gz.aloadN 78 X0 hx (dd d21_77) rfl rfl rfl ?_
  refine Gz.iloadN 79 X0 hx (dd d21_78) rfl rfl ?_
  refine Gz.iload 81 X0 hx (dd d21_79) rfl rfl ?_
  refine Gz.iaddV 82 (9 : Int32) X0 hx (dd d21_81) rfl rfl ?_
  obtain ⟨c7, A7, q7, S7, N7, H7, G7⟩ := id V_a0
  have hin7 : ¬ ((9 : Int32) < 0 ∨ c7.slots.size ≤ ((9 : Int32)).toNatClampNeg) := inb_of S7 ⟨by decide, by decide⟩
  refine Gz.ldB 83 X0 hx hZ (dd d21_82) e0 A7 hin7 (Has.at H7 hin7 (rfl : _ = ((.int (101 : Int32)) : Value))) rfl ?_
  refine Gz.aloadN 84 X0 hx (dd d21_83) rfl rfl rfl ?_
  refine Gz.iloadN 85 X0 hx (dd d21_84) rfl rfl ?_
  refine Gz.iload 87 X0 hx (dd d21_85) rfl rfl ?_
  refine Gz.iaddV 88 (3 : Int32) X0 hx (dd d21_87) rfl rfl ?_
  obtain ⟨c8, A8, q8, S8, N8, H8, G8⟩ := id V_a2
  have hin8 : ¬ ((3 : Int32) < 0 ∨ c8.slots.size ≤ ((3 : Int32)).toNatClampNeg) := inb_of S8 ⟨by decide, by decide⟩
  refine Gz.ldB 89 X0 hx hZ (dd d21_88) e0 A8 hin8 (Has.at H8 hin8 (rfl : _ = ((.int (101 : Int32)) : Value))) rfl ?_
  refine Gz.icmpYes 95 X0 hx (dd d21_89) (teq (by decide : (101 : Int32) = (101 : Int32))).1 (by decide) (by decide) ?_
  refine Gz.iinc 98 #[.val (.ref a0), .val (.int (6 : Int32)), .val (.ref a2), .val (.int (0 : Int32)), .val (.int (4 : Int32)), .val (.int (4 : Int32)), .unset, .unset] X0 hx (dd d21_95) rfl rfl rfl ?_
  refine Gz.goto 70 X0 hx (dd d21_98) (by decide) (by decide) ?_
  refine Gz.iload 72 X0 hx (dd d21_70) rfl rfl ?_
  refine Gz.iload 74 X0 hx (dd d21_72) rfl rfl ?_
  refine Gz.icmpYes 101 X0 hx (dd d21_74) (flt (by decide : ¬ ((4 : Int32) < (4 : Int32)))).2.1 (by decide) (by decide) ?_
  refine Gz.iconst 102 (-1 : Int32) X0 hx (dd d21_101) rfl rfl ?_
  refine Gz.fin X0 (v := some (.int (-1 : Int32))) (fun h => by rw [hret] at h; cases h) hlk (by decide) (by decide) (fun fs hr => retI X0 hx hret (dd d21_102) hr) ?_
  rw [e0]
  exact ⟨rfl, N0, rfl⟩
theorem d20_0 : decode jdk_65_method_30_code 0 = .ok (.iload_n 1, 1) := by decide +kernel
theorem d20_1 : decode jdk_65_method_30_code 1 = .ok (.iload_n 2, 1) := by decide +kernel
theorem d20_2 : decode jdk_65_method_30_code 2 = .ok (.if_icmp .le 44, 3) := by decide +kernel
theorem d20_46 : decode jdk_65_method_30_code 46 = .ok (.iload_n 1, 1) := by decide +kernel
theorem d20_47 : decode jdk_65_method_30_code 47 = .ok (.ifCond .ge 12, 3) := by decide +kernel
theorem d20_59 : decode jdk_65_method_30_code 59 = .ok (.iload_n 2, 1) := by decide +kernel
theorem d20_60 : decode jdk_65_method_30_code 60 = .ok (.iload_n 0, 1) := by decide +kernel
theorem d20_61 : decode jdk_65_method_30_code 61 = .ok (.if_icmp .le 12, 3) := by decide +kernel
theorem d20_73 : decode jdk_65_method_30_code 73 = .ok (.return_, 1) := by decide +kernel
theorem pn_3 : plainName "java/util/Arrays" = true := by first | (simp [plainName, overriddenIn]; done) | decide +kernel
theorem ef_rmRC_10_6_10 (m : MethodId) : entryFrame m #[(.int (10 : Int32)), (.int (6 : Int32)), (.int (10 : Int32))] 3 = mkF m 0 #[.val (.int (10 : Int32)), .val (.int (6 : Int32)), .val (.int (10 : Int32))] [] := by first | (simp [entryFrame, mkF, argsToLocals, Value.category]; done) | rfl
def Q_rmRC_10_6_10 (Z : State)  (h0 : Heap) (n0 : Nat) (v : Option Value) (h : Heap) (L : List Loc) : Prop := v = none ∧ Fr n0 L ∧ h = h0
set_option maxRecDepth 65536 in
set_option maxHeartbeats 40000000 in
theorem rmRC_10_6_10 (l : Launch) (Z : State) (av0 : Array Value) (hw : ∀ d ∈ tables_1, d.before av0 Z = true) (ws : List Jvm.Cond)  (h0 : Heap) (n0 : Nat) (Z0 : n0 ≤ h0.size)  :
    MetFree l (⟨"java/util/Arrays", "rangeCheck", "(III)V"⟩ : MethodName) (head1 (Jvm.Cond.code (⟨"java/util/Arrays", "rangeCheck", "(III)V"⟩ : MethodName) jdk_65_method_30_code 3 none :: ws) ({ frames := 0, cells := 0, slots := 0, locals := 0 } : Room)) (fun a U => a = #[(.int (10 : Int32)), (.int (6 : Int32)), (.int (10 : Int32))] ∧ Z.Warmed39 U.vm ∧ U.heap = h0) (fun _ _ _ _ _ => True) (fun _ U o U' => ∃ v L, o = .returned v ∧ Q_rmRC_10_6_10 Z  h0 n0 v U'.heap L ∧ FrameEnd U o U' L ({ frames := 0, cells := 0, slots := 0, locals := 0 } : Room).cells ({ frames := 0, cells := 0, slots := 0, locals := 0 } : Room).slots) := by
  refine MetFree.of_bodySF (plainFor_of_name pn_3) hisR ?_
  intro p e s m args below meth c s₁ Bd hml0 hP hK
  obtain ⟨rfl, hZ, hh⟩ := hP
  have hx := Bd.exec
  have hby := Bd.bytes
  have hml : c.maxLocals = 3 := hml0
  have dd : ∀ {pc : Nat} {r : Except DecodeError (Instr × Nat)}, decode jdk_65_method_30_code pc = r → decode c.code pc = r := fun q => hb hby q
  have hown : s.vm.findClass "java/util/Arrays" = some m.cls := findClass_of_methodNamed Bd.named
  have hnm := (name_of_methodNamed Bd.named Bd.method).1
  have X0 : Stand p l e ({ frames := 0, cells := 0, slots := 0, locals := 0 } : Room) s m #[(.int (10 : Int32)), (.int (6 : Int32)), (.int (10 : Int32))] below meth c s₁ [] 0 0 := Stand.of_body Bd
  have e0 : s₁.heap = h0 := by rw [← hh, Bd.state]; rfl
  have N0 := Fr.nil n0
  have hret := Bd.returns
  have hlk := Bd.notSynchronized
  show Gz p e below s ({ frames := 0, cells := 0, slots := 0, locals := 0 } : Room).cells ({ frames := 0, cells := 0, slots := 0, locals := 0 } : Room).slots (Q_rmRC_10_6_10 Z  h0 n0) (s₁.setTop (entryFrame m #[(.int (10 : Int32)), (.int (6 : Int32)), (.int (10 : Int32))] 3))
  refine Gz.enter (ef_rmRC_10_6_10 m) ?_
  refine Gz.iloadN 1 X0 hx (dd d20_0) rfl rfl ?_
  refine Gz.iloadN 2 X0 hx (dd d20_1) rfl rfl ?_
  refine Gz.icmpYes 46 X0 hx (dd d20_2) (flt (by decide : ¬ ((10 : Int32) < (6 : Int32)))).2.2.2 (by decide) (by decide) ?_
  refine Gz.iloadN 47 X0 hx (dd d20_46) rfl rfl ?_
  refine Gz.ifYes 59 X0 hx (dd d20_47) ((if0 _ _).trans (flt (by decide : ¬ ((6 : Int32) < (0 : Int32)))).2.1) (by decide) (by decide) ?_
  refine Gz.iloadN 60 X0 hx (dd d20_59) rfl rfl ?_
  refine Gz.iloadN 61 X0 hx (dd d20_60) rfl rfl ?_
  refine Gz.icmpYes 73 X0 hx (dd d20_61) (flt (by decide : ¬ ((10 : Int32) < (10 : Int32)))).2.2.2 (by decide) (by decide) ?_
  refine Gz.fin X0 (v := none) (fun _ => rfl) hlk (by decide) (by decide) (fun fs hr => X0.returnOut hx hret (dd d20_73) hr) ?_
  rw [e0]
  exact ⟨rfl, N0, rfl⟩
theorem pd_0 : parseMethodDescriptor "(III)V" = some ⟨[.int, .int, .int], none⟩ := by decide +kernel
abbrev ym0 : MethodName := ⟨"java/util/Arrays", "rangeCheck", "(III)V"⟩
theorem ef_rmRC_4_0_4 (m : MethodId) : entryFrame m #[(.int (4 : Int32)), (.int (0 : Int32)), (.int (4 : Int32))] 3 = mkF m 0 #[.val (.int (4 : Int32)), .val (.int (0 : Int32)), .val (.int (4 : Int32))] [] := by first | (simp [entryFrame, mkF, argsToLocals, Value.category]; done) | rfl
def Q_rmRC_4_0_4 (Z : State)  (h0 : Heap) (n0 : Nat) (v : Option Value) (h : Heap) (L : List Loc) : Prop := v = none ∧ Fr n0 L ∧ h = h0
set_option maxRecDepth 65536 in
set_option maxHeartbeats 40000000 in
theorem rmRC_4_0_4 (l : Launch) (Z : State) (av0 : Array Value) (hw : ∀ d ∈ tables_1, d.before av0 Z = true) (ws : List Jvm.Cond)  (h0 : Heap) (n0 : Nat) (Z0 : n0 ≤ h0.size)  :
    MetFree l (⟨"java/util/Arrays", "rangeCheck", "(III)V"⟩ : MethodName) (head1 (Jvm.Cond.code (⟨"java/util/Arrays", "rangeCheck", "(III)V"⟩ : MethodName) jdk_65_method_30_code 3 none :: ws) ({ frames := 0, cells := 0, slots := 0, locals := 0 } : Room)) (fun a U => a = #[(.int (4 : Int32)), (.int (0 : Int32)), (.int (4 : Int32))] ∧ Z.Warmed39 U.vm ∧ U.heap = h0) (fun _ _ _ _ _ => True) (fun _ U o U' => ∃ v L, o = .returned v ∧ Q_rmRC_4_0_4 Z  h0 n0 v U'.heap L ∧ FrameEnd U o U' L ({ frames := 0, cells := 0, slots := 0, locals := 0 } : Room).cells ({ frames := 0, cells := 0, slots := 0, locals := 0 } : Room).slots) := by
  refine MetFree.of_bodySF (plainFor_of_name pn_3) hisR ?_
  intro p e s m args below meth c s₁ Bd hml0 hP hK
  obtain ⟨rfl, hZ, hh⟩ := hP
  have hx := Bd.exec
  have hby := Bd.bytes
  have hml : c.maxLocals = 3 := hml0
  have dd : ∀ {pc : Nat} {r : Except DecodeError (Instr × Nat)}, decode jdk_65_method_30_code pc = r → decode c.code pc = r := fun q => hb hby q
  have hown : s.vm.findClass "java/util/Arrays" = some m.cls := findClass_of_methodNamed Bd.named
  have hnm := (name_of_methodNamed Bd.named Bd.method).1
  have X0 : Stand p l e ({ frames := 0, cells := 0, slots := 0, locals := 0 } : Room) s m #[(.int (4 : Int32)), (.int (0 : Int32)), (.int (4 : Int32))] below meth c s₁ [] 0 0 := Stand.of_body Bd
  have e0 : s₁.heap = h0 := by rw [← hh, Bd.state]; rfl
  have N0 := Fr.nil n0
  have hret := Bd.returns
  have hlk := Bd.notSynchronized
  show Gz p e below s ({ frames := 0, cells := 0, slots := 0, locals := 0 } : Room).cells ({ frames := 0, cells := 0, slots := 0, locals := 0 } : Room).slots (Q_rmRC_4_0_4 Z  h0 n0) (s₁.setTop (entryFrame m #[(.int (4 : Int32)), (.int (0 : Int32)), (.int (4 : Int32))] 3))
  refine Gz.enter (ef_rmRC_4_0_4 m) ?_
  refine Gz.iloadN 1 X0 hx (dd d20_0) rfl rfl ?_
  refine Gz.iloadN 2 X0 hx (dd d20_1) rfl rfl ?_
  refine Gz.icmpYes 46 X0 hx (dd d20_2) (flt (by decide : ¬ ((4 : Int32) < (0 : Int32)))).2.2.2 (by decide) (by decide) ?_
  refine Gz.iloadN 47 X0 hx (dd d20_46) rfl rfl ?_
  refine Gz.ifYes 59 X0 hx (dd d20_47) ((if0 _ _).trans (flt (by decide : ¬ ((0 : Int32) < (0 : Int32)))).2.1) (by decide) (by decide) ?_
  refine Gz.iloadN 60 X0 hx (dd d20_59) rfl rfl ?_
  refine Gz.iloadN 61 X0 hx (dd d20_60) rfl rfl ?_
  refine Gz.icmpYes 73 X0 hx (dd d20_61) (flt (by decide : ¬ ((4 : Int32) < (4 : Int32)))).2.2.2 (by decide) (by decide) ?_
  refine Gz.fin X0 (v := none) (fun _ => rfl) hlk (by decide) (by decide) (fun fs hr => X0.returnOut hx hret (dd d20_73) hr) ?_
  rw [e0]
  exact ⟨rfl, N0, rfl⟩
theorem pd_1 : parseMethodDescriptor "([BI[BII)I" = some ⟨[(.array .byte), .int, (.array .byte), .int, .int], some .int⟩ := by decide +kernel
abbrev ym1 : MethodName := ⟨"jdk/internal/util/ArraysSupport", "mismatch", "([BI[BII)I"⟩
theorem d19_0 : decode jdk_65_method_90_code 0 = .ok (.aload_n 0, 1) := by decide +kernel
theorem d19_1 : decode jdk_65_method_90_code 1 = .ok (.arraylength, 1) := by decide +kernel
theorem d19_2 : decode jdk_65_method_90_code 2 = .ok (.iload_n 1, 1) := by decide +kernel
theorem d19_3 : decode jdk_65_method_90_code 3 = .ok (.iload_n 2, 1) := by decide +kernel
theorem d19_4 : decode jdk_65_method_90_code 4 = .ok (.invokestatic 13, 3) := by decide +kernel
theorem d19_7 : decode jdk_65_method_90_code 7 = .ok (.aload_n 3, 1) := by decide +kernel
theorem d19_8 : decode jdk_65_method_90_code 8 = .ok (.arraylength, 1) := by decide +kernel
theorem d19_9 : decode jdk_65_method_90_code 9 = .ok (.iload 4, 2) := by decide +kernel
theorem d19_11 : decode jdk_65_method_90_code 11 = .ok (.iload 5, 2) := by decide +kernel
theorem d19_13 : decode jdk_65_method_90_code 13 = .ok (.invokestatic 13, 3) := by decide +kernel
theorem d19_16 : decode jdk_65_method_90_code 16 = .ok (.iload_n 2, 1) := by decide +kernel
theorem d19_17 : decode jdk_65_method_90_code 17 = .ok (.iload_n 1, 1) := by decide +kernel
theorem d19_18 : decode jdk_65_method_90_code 18 = .ok (.isub, 1) := by decide +kernel
theorem d19_19 : decode jdk_65_method_90_code 19 = .ok (.istore 6, 2) := by decide +kernel
theorem d19_21 : decode jdk_65_method_90_code 21 = .ok (.iload 5, 2) := by decide +kernel
theorem d19_23 : decode jdk_65_method_90_code 23 = .ok (.iload 4, 2) := by decide +kernel
theorem d19_25 : decode jdk_65_method_90_code 25 = .ok (.isub, 1) := by decide +kernel
theorem d19_26 : decode jdk_65_method_90_code 26 = .ok (.istore 7, 2) := by decide +kernel
theorem d19_28 : decode jdk_65_method_90_code 28 = .ok (.iload 6, 2) := by decide +kernel
theorem d19_30 : decode jdk_65_method_90_code 30 = .ok (.iload 7, 2) := by decide +kernel
theorem d19_32 : decode jdk_65_method_90_code 32 = .ok (.if_icmp .eq 5, 3) := by decide +kernel
theorem d19_37 : decode jdk_65_method_90_code 37 = .ok (.aload_n 0, 1) := by decide +kernel
theorem d19_38 : decode jdk_65_method_90_code 38 = .ok (.iload_n 1, 1) := by decide +kernel
theorem d19_39 : decode jdk_65_method_90_code 39 = .ok (.aload_n 3, 1) := by decide +kernel
theorem d19_40 : decode jdk_65_method_90_code 40 = .ok (.iload 4, 2) := by decide +kernel
theorem d19_42 : decode jdk_65_method_90_code 42 = .ok (.iload 6, 2) := by decide +kernel
theorem d19_44 : decode jdk_65_method_90_code 44 = .ok (.invokestatic 275, 3) := by decide +kernel
theorem d19_47 : decode jdk_65_method_90_code 47 = .ok (.ifCond .ge 7, 3) := by decide +kernel
theorem d19_50 : decode jdk_65_method_90_code 50 = .ok (.iconst 1, 1) := by decide +kernel
theorem d19_51 : decode jdk_65_method_90_code 51 = .ok (.goto 4, 3) := by decide +kernel
theorem d19_55 : decode jdk_65_method_90_code 55 = .ok (.ireturn, 1) := by decide +kernel
theorem ef_rm19 (m : MethodId) (a0 : Addr) (a3 : Addr) : entryFrame m #[(.ref a0), (.int (6 : Int32)), (.int (10 : Int32)), (.ref a3), (.int (0 : Int32)), (.int (4 : Int32))] 8 = mkF m 0 #[.val (.ref a0), .val (.int (6 : Int32)), .val (.int (10 : Int32)), .val (.ref a3), .val (.int (0 : Int32)), .val (.int (4 : Int32)), .unset, .unset] [] := by first | (simp [entryFrame, mkF, argsToLocals, Value.category]; done) | rfl
def fAeq (a0 : Addr) (a3 : Addr) : Int32 := (1 : Int32)
def Q_rm19 (Z : State) (a0 : Addr) (a3 : Addr) (k_a0 : ClassId) (k_a3 : ClassId) (h0 : Heap) (n0 : Nat) (v : Option Value) (h : Heap) (L : List Loc) : Prop := v = some (.int (fAeq a0 a3)) ∧ Fr n0 L ∧ h = h0
set_option maxRecDepth 65536 in
set_option maxHeartbeats 40000000 in
theorem rm19 (l : Launch) (Z : State) (av0 : Array Value) (hw : ∀ d ∈ tables_1, d.before av0 Z = true) (ws : List Jvm.Cond) (a0 : Addr) (a3 : Addr) (k_a0 : ClassId) (k_a3 : ClassId) (h0 : Heap) (n0 : Nat) (Z0 : n0 ≤ h0.size) (V_a0 : Arv Z h0 a0 k_a0 .byte (10 : Int32) [(.int (91 : Int32)), (.int (32 : Int32)), (.int (52 : Int32)), (.int (50 : Int32)), (.int (44 : Int32)), (.int (91 : Int32)), (.int (116 : Int32)), (.int (114 : Int32)), (.int (117 : Int32)), (.int (101 : Int32))] (.int (0 : Int32))) (V_a3 : Arv Z h0 a3 k_a3 .byte (4 : Int32) [(.int (116 : Int32)), (.int (114 : Int32)), (.int (117 : Int32)), (.int (101 : Int32))] (.int (0 : Int32))) :
    MetFree l (⟨"java/util/Arrays", "equals", "([BII[BII)Z"⟩ : MethodName) (head1 (Jvm.Cond.code (⟨"java/util/Arrays", "equals", "([BII[BII)Z"⟩ : MethodName) jdk_65_method_90_code 8 (some .boolean) :: ws) ({ frames := 1, cells := 0, slots := 0, locals := 19 } : Room)) (fun a U => a = #[(.ref a0), (.int (6 : Int32)), (.int (10 : Int32)), (.ref a3), (.int (0 : Int32)), (.int (4 : Int32))] ∧ Z.Warmed39 U.vm ∧ U.heap = h0) (fun _ _ _ _ _ => True) (fun _ U o U' => ∃ v L, o = .returned v ∧ Q_rm19 Z a0 a3 k_a0 k_a3 h0 n0 v U'.heap L ∧ FrameEnd U o U' L ({ frames := 1, cells := 0, slots := 0, locals := 19 } : Room).cells ({ frames := 1, cells := 0, slots := 0, locals := 19 } : Room).slots) := by
  refine MetFree.of_bodySF (plainFor_of_name pn_3) hisR ?_
  intro p e s m args below meth c s₁ Bd hml0 hP hK
  obtain ⟨rfl, hZ, hh⟩ := hP
  have hx := Bd.exec
  have hby := Bd.bytes
  have hml : c.maxLocals = 8 := hml0
  have dd : ∀ {pc : Nat} {r : Except DecodeError (Instr × Nat)}, decode jdk_65_method_90_code pc = r → decode c.code pc = r := fun q => hb hby q
  have hown : s.vm.findClass "java/util/Arrays" = some m.cls := findClass_of_methodNamed Bd.named
  have hnm := (name_of_methodNamed Bd.named Bd.method).1
  have X0 : Stand p l e ({ frames := 1, cells := 0, slots := 0, locals := 19 } : Room) s m #[(.ref a0), (.int (6 : Int32)), (.int (10 : Int32)), (.ref a3), (.int (0 : Int32)), (.int (4 : Int32))] below meth c s₁ [] 0 0 := Stand.of_body Bd
  have e0 : s₁.heap = h0 := by rw [← hh, Bd.state]; rfl
  have N0 := Fr.nil n0
  have hret := Bd.returns
  have hlk := Bd.notSynchronized
  show Gz p e below s ({ frames := 1, cells := 0, slots := 0, locals := 19 } : Room).cells ({ frames := 1, cells := 0, slots := 0, locals := 19 } : Room).slots (Q_rm19 Z a0 a3 k_a0 k_a3 h0 n0) (s₁.setTop (entryFrame m #[(.ref a0), (.int (6 : Int32)), (.int (10 : Int32)), (.ref a3), (.int (0 : Int32)), (.int (4 : Int32))] 8))
  refine Gz.enter (ef_rm19 m a0 a3) ?_
  refine Gz.aloadN 1 X0 hx (dd d19_0) rfl rfl rfl ?_
  obtain ⟨c1, A1, -, S1, N1, -, -⟩ := id V_a0
  refine Gz.alen 2 X0 hx hZ (dd d19_1) e0 A1 S1 N1 rfl ?_
  refine Gz.iloadN 3 X0 hx (dd d19_2) rfl rfl ?_
  refine Gz.iloadN 4 X0 hx (dd d19_3) rfl rfl ?_
  obtain ⟨_, _, ⟨T2, L2, k2, n2⟩, -, X2, ⟨Lc2, hQ2, l2, y2, z2⟩, st2⟩ := Jvm.LawKit.callS X0 hx (y := ym0) hown (mvT hZ (ww hw 138 rfl)) (mvT hZ (ww hw 139 rfl)) (mvT hZ (ww hw 136 rfl)) (mvT hZ (ww hw 140 rfl)) (by decide) (backOf (W := 0) (rmRC_10_6_10 l Z av0 hw []   h0 n0 Z0 ) hZ (ww hw 140 rfl) (ww hw 136 rfl) (by decide) (by decide)) (g := (mkF m 4 #[.val (.ref a0), .val (.int (6 : Int32)), .val (.int (10 : Int32)), .val (.ref a3), .val (.int (0 : Int32)), .val (.int (4 : Int32)), .unset, .unset] [(.int (10 : Int32)), (.int (6 : Int32)), (.int (10 : Int32))])) rfl (by rw [hml]; rfl) (argsL := [(.int (10 : Int32)), (.int (6 : Int32)), (.int (10 : Int32))]) (rest := []) (lenOf pd_0 rfl) rfl (Nat.le_refl _) (dd d19_4) (fun _ _ => ⟨rfl, e0, (by decide : 0 + 0 ≤ _), (by decide : 0 + 0 ≤ _)⟩)
  dsimp only [Pt.U, Pt.locs, Pt.cells, Pt.slots, Q_rmRC_10_6_10] at X2 l2 y2 z2 st2 hQ2
  subst l2 y2 z2
  obtain ⟨rfl, N2q, e2⟩ := hQ2
  have N2 := Fr.app N0 N2q
  refine Gz.st st2 ?_
  refine Gz.aloadN 8 X2 hx (dd d19_7) rfl rfl rfl ?_
  obtain ⟨c3, A3, -, S3, N3, -, -⟩ := id V_a3
  refine Gz.alen 9 X2 hx hZ (dd d19_8) e2 A3 S3 N3 rfl ?_
  refine Gz.iload 11 X2 hx (dd d19_9) rfl rfl ?_
  refine Gz.iload 13 X2 hx (dd d19_11) rfl rfl ?_
  obtain ⟨_, _, ⟨T4, L4, k4, n4⟩, -, X4, ⟨Lc4, hQ4, l4, y4, z4⟩, st4⟩ := Jvm.LawKit.callS X2 hx (y := ym0) hown (mvT hZ (ww hw 138 rfl)) (mvT hZ (ww hw 139 rfl)) (mvT hZ (ww hw 136 rfl)) (mvT hZ (ww hw 140 rfl)) (by decide) (backOf (W := 0) (rmRC_4_0_4 l Z av0 hw []   h0 n0 Z0 ) hZ (ww hw 140 rfl) (ww hw 136 rfl) (by decide) (by decide)) (g := (mkF m 13 #[.val (.ref a0), .val (.int (6 : Int32)), .val (.int (10 : Int32)), .val (.ref a3), .val (.int (0 : Int32)), .val (.int (4 : Int32)), .unset, .unset] [(.int (4 : Int32)), (.int (0 : Int32)), (.int (4 : Int32))])) rfl (by rw [hml]; rfl) (argsL := [(.int (4 : Int32)), (.int (0 : Int32)), (.int (4 : Int32))]) (rest := []) (lenOf pd_0 rfl) rfl (Nat.le_refl _) (dd d19_13) (fun _ _ => ⟨rfl, e2, (by decide : 0 + 0 ≤ _), (by decide : 0 + 0 ≤ _)⟩)
  dsimp only [Pt.U, Pt.locs, Pt.cells, Pt.slots, Q_rmRC_4_0_4] at X4 l4 y4 z4 st4 hQ4
  subst l4 y4 z4
  obtain ⟨rfl, N4q, e4⟩ := hQ4
  have N4 := Fr.app N2 N4q
  refine Gz.st st4 ?_
  refine Gz.iloadN 17 X4 hx (dd d19_16) rfl rfl ?_
  refine Gz.iloadN 18 X4 hx (dd d19_17) rfl rfl ?_
  refine Gz.isubV 19 (4 : Int32) X4 hx (dd d19_18) rfl rfl ?_
  refine Gz.istore 21 #[.val (.ref a0), .val (.int (6 : Int32)), .val (.int (10 : Int32)), .val (.ref a3), .val (.int (0 : Int32)), .val (.int (4 : Int32)), .val (.int (4 : Int32)), .unset] X4 hx (dd d19_19) rfl rfl ?_
  refine Gz.iload 23 X4 hx (dd d19_21) rfl rfl ?_
  refine Gz.iload 25 X4 hx (dd d19_23) rfl rfl ?_
  refine Gz.isubV 26 (4 : Int32) X4 hx (dd d19_25) rfl rfl ?_
  refine Gz.istore 28 #[.val (.ref a0), .val (.int (6 : Int32)), .val (.int (10 : Int32)), .val (.ref a3), .val (.int (0 : Int32)), .val (.int (4 : Int32)), .val (.int (4 : Int32)), .val (.int (4 : Int32))] X4 hx (dd d19_26) rfl rfl ?_
  refine Gz.iload 30 X4 hx (dd d19_28) rfl rfl ?_
  refine Gz.iload 32 X4 hx (dd d19_30) rfl rfl ?_
  refine Gz.icmpYes 37 X4 hx (dd d19_32) (teq (by decide : (4 : Int32) = (4 : Int32))).1 (by decide) (by decide) ?_
  refine Gz.aloadN 38 X4 hx (dd d19_37) rfl rfl rfl ?_
  refine Gz.iloadN 39 X4 hx (dd d19_38) rfl rfl ?_
  refine Gz.aloadN 40 X4 hx (dd d19_39) rfl rfl rfl ?_
  refine Gz.iload 42 X4 hx (dd d19_40) rfl rfl ?_
  refine Gz.iload 44 X4 hx (dd d19_42) rfl rfl ?_
  obtain ⟨_, _, ⟨T5, L5, k5, n5⟩, -, X5, ⟨Lc5, hQ5, l5, y5, z5⟩, st5⟩ := Jvm.LawKit.callS X4 hx (y := ym1) hown (mvT hZ (ww hw 141 rfl)) (mvT hZ (ww hw 142 rfl)) (mvT hZ (ww hw 143 rfl)) (mvT hZ (ww hw 144 rfl)) (by decide) (backOf (W := 0) (rm21 l Z av0 hw [] a0 a3 k_a0 k_a3 h0 n0 Z0 V_a0 V_a3) hZ (ww hw 144 rfl) (ww hw 143 rfl) (by decide) (by decide)) (g := (mkF m 44 #[.val (.ref a0), .val (.int (6 : Int32)), .val (.int (10 : Int32)), .val (.ref a3), .val (.int (0 : Int32)), .val (.int (4 : Int32)), .val (.int (4 : Int32)), .val (.int (4 : Int32))] [(.int (4 : Int32)), (.int (0 : Int32)), (.ref a3), (.int (6 : Int32)), (.ref a0)])) rfl (by rw [hml]; rfl) (argsL := [(.ref a0), (.int (6 : Int32)), (.ref a3), (.int (0 : Int32)), (.int (4 : Int32))]) (rest := []) (lenOf pd_1 rfl) rfl (Nat.le_refl _) (dd d19_44) (fun _ _ => ⟨rfl, e4, (by decide : 0 + 0 ≤ _), (by decide : 0 + 0 ≤ _)⟩)
  dsimp only [Pt.U, Pt.locs, Pt.cells, Pt.slots, Q_rm21] at X5 l5 y5 z5 st5 hQ5
  subst l5 y5 z5
  rw [show (fMis a0 a3) = (-1 : Int32) from (by unfold fMis; rfl)] at hQ5
  obtain ⟨rfl, N5q, e5⟩ := hQ5
  have N5 := Fr.app N4 N5q
  refine Gz.st st5 ?_
  refine Gz.ifNo 50 X5 hx (dd d19_47) ((if0 _ _).trans (tlt (by decide : (-1 : Int32) < (0 : Int32))).2.1) rfl ?_
  refine Gz.iconst 51 (1 : Int32) X5 hx (dd d19_50) rfl rfl ?_
  refine Gz.goto 55 X5 hx (dd d19_51) (by decide) (by decide) ?_
  refine Gz.fin X5 (v := some (.int (1 : Int32))) (fun h => by rw [hret] at h; cases h) hlk (by decide) (by decide) (fun fs hr => retN X5 hx (t := .boolean) hret (by simp) (dd d19_55) hr) ?_
  rw [e5]
  exact ⟨rfl, N5, rfl⟩
theorem sn0 {Z : State} {av0 : Array Value} (hw : ∀ d ∈ tables_1, d.before av0 Z = true) : Jvm.RoadKit.slotOf Z cs0 "maxDepth" "I" ≠ Jvm.RoadKit.slotOf Z cs0 "bytes" "[B" := slot_ne (Or.inr (ww hw 27 rfl)) (Or.inr (ww hw 23 rfl)) (by decide) (t := .int) (t' := (.array .byte)) (by decide) (by decide)
theorem sn1 {Z : State} {av0 : Array Value} (hw : ∀ d ∈ tables_1, d.before av0 Z = true) : Jvm.RoadKit.slotOf Z cs0 "position" "I" ≠ Jvm.RoadKit.slotOf Z cs0 "bytes" "[B" := slot_ne (Or.inl (ww hw 25 rfl)) (Or.inr (ww hw 23 rfl)) (by decide) (t := .int) (t' := (.array .byte)) (by decide) (by decide)
theorem sn2 {Z : State} {av0 : Array Value} (hw : ∀ d ∈ tables_1, d.before av0 Z = true) : Jvm.RoadKit.slotOf Z cs0 "depth" "I" ≠ Jvm.RoadKit.slotOf Z cs0 "bytes" "[B" := slot_ne (Or.inl (ww hw 48 rfl)) (Or.inr (ww hw 23 rfl)) (by decide) (t := .int) (t' := (.array .byte)) (by decide) (by decide)
theorem sn3 {Z : State} {av0 : Array Value} (hw : ∀ d ∈ tables_1, d.before av0 Z = true) : Jvm.RoadKit.slotOf Z cs0 "first" "Z" ≠ Jvm.RoadKit.slotOf Z cs0 "bytes" "[B" := slot_ne (Or.inl (ww hw 50 rfl)) (Or.inr (ww hw 23 rfl)) (by decide) (t := .boolean) (t' := (.array .byte)) (by decide) (by decide)
theorem sn4 {Z : State} {av0 : Array Value} (hw : ∀ d ∈ tables_1, d.before av0 Z = true) : Jvm.RoadKit.slotOf Z cs0 "token" "Lcom/example/bad_status/badstatus/model/JsonReader$Token;" ≠ Jvm.RoadKit.slotOf Z cs0 "bytes" "[B" := slot_ne (Or.inl (ww hw 52 rfl)) (Or.inr (ww hw 23 rfl)) (by decide) (t := (.object cs1)) (t' := (.array .byte)) (by decide) (by decide)
theorem sn5 {Z : State} {av0 : Array Value} (hw : ∀ d ∈ tables_1, d.before av0 Z = true) : Jvm.RoadKit.slotOf Z cs0 "tokenStart" "I" ≠ Jvm.RoadKit.slotOf Z cs0 "bytes" "[B" := slot_ne (Or.inl (ww hw 41 rfl)) (Or.inr (ww hw 23 rfl)) (by decide) (t := .int) (t' := (.array .byte)) (by decide) (by decide)
theorem sn6 {Z : State} {av0 : Array Value} (hw : ∀ d ∈ tables_1, d.before av0 Z = true) : Jvm.RoadKit.slotOf Z cs0 "textStart" "I" ≠ Jvm.RoadKit.slotOf Z cs0 "bytes" "[B" := slot_ne (Or.inl (ww hw 71 rfl)) (Or.inr (ww hw 23 rfl)) (by decide) (t := .int) (t' := (.array .byte)) (by decide) (by decide)
theorem sn7 {Z : State} {av0 : Array Value} (hw : ∀ d ∈ tables_1, d.before av0 Z = true) : Jvm.RoadKit.slotOf Z cs0 "textEnd" "I" ≠ Jvm.RoadKit.slotOf Z cs0 "bytes" "[B" := slot_ne (Or.inl (ww hw 73 rfl)) (Or.inr (ww hw 23 rfl)) (by decide) (t := .int) (t' := (.array .byte)) (by decide) (by decide)
theorem sn8 {Z : State} {av0 : Array Value} (hw : ∀ d ∈ tables_1, d.before av0 Z = true) : Jvm.RoadKit.slotOf Z cs0 "escaped" "Z" ≠ Jvm.RoadKit.slotOf Z cs0 "bytes" "[B" := slot_ne (Or.inl (ww hw 75 rfl)) (Or.inr (ww hw 23 rfl)) (by decide) (t := .boolean) (t' := (.array .byte)) (by decide) (by decide)
theorem sn9 {Z : State} {av0 : Array Value} (hw : ∀ d ∈ tables_1, d.before av0 Z = true) : Jvm.RoadKit.slotOf Z cs0 "ascii" "Z" ≠ Jvm.RoadKit.slotOf Z cs0 "bytes" "[B" := slot_ne (Or.inl (ww hw 77 rfl)) (Or.inr (ww hw 23 rfl)) (by decide) (t := .boolean) (t' := (.array .byte)) (by decide) (by decide)
theorem sn10 {Z : State} {av0 : Array Value} (hw : ∀ d ∈ tables_1, d.before av0 Z = true) : Jvm.RoadKit.slotOf Z cs0 "integral" "Z" ≠ Jvm.RoadKit.slotOf Z cs0 "bytes" "[B" := slot_ne (Or.inl (ww hw 79 rfl)) (Or.inr (ww hw 23 rfl)) (by decide) (t := .boolean) (t' := (.array .byte)) (by decide) (by decide)
theorem sn11 {Z : State} {av0 : Array Value} (hw : ∀ d ∈ tables_1, d.before av0 Z = true) : Jvm.RoadKit.slotOf Z cs0 "maxDepth" "I" ≠ Jvm.RoadKit.slotOf Z cs0 "position" "I" := slot_ne (Or.inr (ww hw 27 rfl)) (Or.inl (ww hw 25 rfl)) (by decide) (t := .int) (t' := .int) (by decide) (by decide)
theorem sn12 {Z : State} {av0 : Array Value} (hw : ∀ d ∈ tables_1, d.before av0 Z = true) : Jvm.RoadKit.slotOf Z cs0 "depth" "I" ≠ Jvm.RoadKit.slotOf Z cs0 "position" "I" := slot_ne (Or.inl (ww hw 48 rfl)) (Or.inl (ww hw 25 rfl)) (by decide) (t := .int) (t' := .int) (by decide) (by decide)
theorem sn13 {Z : State} {av0 : Array Value} (hw : ∀ d ∈ tables_1, d.before av0 Z = true) : Jvm.RoadKit.slotOf Z cs0 "first" "Z" ≠ Jvm.RoadKit.slotOf Z cs0 "position" "I" := slot_ne (Or.inl (ww hw 50 rfl)) (Or.inl (ww hw 25 rfl)) (by decide) (t := .boolean) (t' := .int) (by decide) (by decide)
theorem sn14 {Z : State} {av0 : Array Value} (hw : ∀ d ∈ tables_1, d.before av0 Z = true) : Jvm.RoadKit.slotOf Z cs0 "token" "Lcom/example/bad_status/badstatus/model/JsonReader$Token;" ≠ Jvm.RoadKit.slotOf Z cs0 "position" "I" := slot_ne (Or.inl (ww hw 52 rfl)) (Or.inl (ww hw 25 rfl)) (by decide) (t := (.object cs1)) (t' := .int) (by decide) (by decide)
theorem sn15 {Z : State} {av0 : Array Value} (hw : ∀ d ∈ tables_1, d.before av0 Z = true) : Jvm.RoadKit.slotOf Z cs0 "tokenStart" "I" ≠ Jvm.RoadKit.slotOf Z cs0 "position" "I" := slot_ne (Or.inl (ww hw 41 rfl)) (Or.inl (ww hw 25 rfl)) (by decide) (t := .int) (t' := .int) (by decide) (by decide)
theorem sn16 {Z : State} {av0 : Array Value} (hw : ∀ d ∈ tables_1, d.before av0 Z = true) : Jvm.RoadKit.slotOf Z cs0 "textStart" "I" ≠ Jvm.RoadKit.slotOf Z cs0 "position" "I" := slot_ne (Or.inl (ww hw 71 rfl)) (Or.inl (ww hw 25 rfl)) (by decide) (t := .int) (t' := .int) (by decide) (by decide)
theorem sn17 {Z : State} {av0 : Array Value} (hw : ∀ d ∈ tables_1, d.before av0 Z = true) : Jvm.RoadKit.slotOf Z cs0 "textEnd" "I" ≠ Jvm.RoadKit.slotOf Z cs0 "position" "I" := slot_ne (Or.inl (ww hw 73 rfl)) (Or.inl (ww hw 25 rfl)) (by decide) (t := .int) (t' := .int) (by decide) (by decide)
theorem sn18 {Z : State} {av0 : Array Value} (hw : ∀ d ∈ tables_1, d.before av0 Z = true) : Jvm.RoadKit.slotOf Z cs0 "escaped" "Z" ≠ Jvm.RoadKit.slotOf Z cs0 "position" "I" := slot_ne (Or.inl (ww hw 75 rfl)) (Or.inl (ww hw 25 rfl)) (by decide) (t := .boolean) (t' := .int) (by decide) (by decide)
theorem sn19 {Z : State} {av0 : Array Value} (hw : ∀ d ∈ tables_1, d.before av0 Z = true) : Jvm.RoadKit.slotOf Z cs0 "ascii" "Z" ≠ Jvm.RoadKit.slotOf Z cs0 "position" "I" := slot_ne (Or.inl (ww hw 77 rfl)) (Or.inl (ww hw 25 rfl)) (by decide) (t := .boolean) (t' := .int) (by decide) (by decide)
theorem sn20 {Z : State} {av0 : Array Value} (hw : ∀ d ∈ tables_1, d.before av0 Z = true) : Jvm.RoadKit.slotOf Z cs0 "integral" "Z" ≠ Jvm.RoadKit.slotOf Z cs0 "position" "I" := slot_ne (Or.inl (ww hw 79 rfl)) (Or.inl (ww hw 25 rfl)) (by decide) (t := .boolean) (t' := .int) (by decide) (by decide)
theorem sn21 {Z : State} {av0 : Array Value} (hw : ∀ d ∈ tables_1, d.before av0 Z = true) : Jvm.RoadKit.slotOf Z cs0 "depth" "I" ≠ Jvm.RoadKit.slotOf Z cs0 "maxDepth" "I" := slot_ne (Or.inl (ww hw 48 rfl)) (Or.inr (ww hw 27 rfl)) (by decide) (t := .int) (t' := .int) (by decide) (by decide)
theorem sn22 {Z : State} {av0 : Array Value} (hw : ∀ d ∈ tables_1, d.before av0 Z = true) : Jvm.RoadKit.slotOf Z cs0 "first" "Z" ≠ Jvm.RoadKit.slotOf Z cs0 "maxDepth" "I" := slot_ne (Or.inl (ww hw 50 rfl)) (Or.inr (ww hw 27 rfl)) (by decide) (t := .boolean) (t' := .int) (by decide) (by decide)
theorem sn23 {Z : State} {av0 : Array Value} (hw : ∀ d ∈ tables_1, d.before av0 Z = true) : Jvm.RoadKit.slotOf Z cs0 "token" "Lcom/example/bad_status/badstatus/model/JsonReader$Token;" ≠ Jvm.RoadKit.slotOf Z cs0 "maxDepth" "I" := slot_ne (Or.inl (ww hw 52 rfl)) (Or.inr (ww hw 27 rfl)) (by decide) (t := (.object cs1)) (t' := .int) (by decide) (by decide)
theorem sn24 {Z : State} {av0 : Array Value} (hw : ∀ d ∈ tables_1, d.before av0 Z = true) : Jvm.RoadKit.slotOf Z cs0 "tokenStart" "I" ≠ Jvm.RoadKit.slotOf Z cs0 "maxDepth" "I" := slot_ne (Or.inl (ww hw 41 rfl)) (Or.inr (ww hw 27 rfl)) (by decide) (t := .int) (t' := .int) (by decide) (by decide)
theorem sn25 {Z : State} {av0 : Array Value} (hw : ∀ d ∈ tables_1, d.before av0 Z = true) : Jvm.RoadKit.slotOf Z cs0 "textStart" "I" ≠ Jvm.RoadKit.slotOf Z cs0 "maxDepth" "I" := slot_ne (Or.inl (ww hw 71 rfl)) (Or.inr (ww hw 27 rfl)) (by decide) (t := .int) (t' := .int) (by decide) (by decide)
theorem sn26 {Z : State} {av0 : Array Value} (hw : ∀ d ∈ tables_1, d.before av0 Z = true) : Jvm.RoadKit.slotOf Z cs0 "textEnd" "I" ≠ Jvm.RoadKit.slotOf Z cs0 "maxDepth" "I" := slot_ne (Or.inl (ww hw 73 rfl)) (Or.inr (ww hw 27 rfl)) (by decide) (t := .int) (t' := .int) (by decide) (by decide)
theorem sn27 {Z : State} {av0 : Array Value} (hw : ∀ d ∈ tables_1, d.before av0 Z = true) : Jvm.RoadKit.slotOf Z cs0 "escaped" "Z" ≠ Jvm.RoadKit.slotOf Z cs0 "maxDepth" "I" := slot_ne (Or.inl (ww hw 75 rfl)) (Or.inr (ww hw 27 rfl)) (by decide) (t := .boolean) (t' := .int) (by decide) (by decide)
theorem sn28 {Z : State} {av0 : Array Value} (hw : ∀ d ∈ tables_1, d.before av0 Z = true) : Jvm.RoadKit.slotOf Z cs0 "ascii" "Z" ≠ Jvm.RoadKit.slotOf Z cs0 "maxDepth" "I" := slot_ne (Or.inl (ww hw 77 rfl)) (Or.inr (ww hw 27 rfl)) (by decide) (t := .boolean) (t' := .int) (by decide) (by decide)
theorem sn29 {Z : State} {av0 : Array Value} (hw : ∀ d ∈ tables_1, d.before av0 Z = true) : Jvm.RoadKit.slotOf Z cs0 "integral" "Z" ≠ Jvm.RoadKit.slotOf Z cs0 "maxDepth" "I" := slot_ne (Or.inl (ww hw 79 rfl)) (Or.inr (ww hw 27 rfl)) (by decide) (t := .boolean) (t' := .int) (by decide) (by decide)
theorem d1_0 : decode prog_11_method_1_code 0 = .ok (.aload_n 0, 1) := by decide +kernel
theorem d1_1 : decode prog_11_method_1_code 1 = .ok (.invokespecial 3, 3) := by decide +kernel
theorem d1_4 : decode prog_11_method_1_code 4 = .ok (.aload_n 0, 1) := by decide +kernel
theorem d1_5 : decode prog_11_method_1_code 5 = .ok (.aload_n 1, 1) := by decide +kernel
theorem d1_6 : decode prog_11_method_1_code 6 = .ok (.putfield 9, 3) := by decide +kernel
theorem d1_9 : decode prog_11_method_1_code 9 = .ok (.aload_n 0, 1) := by decide +kernel
theorem d1_10 : decode prog_11_method_1_code 10 = .ok (.iload_n 2, 1) := by decide +kernel
theorem d1_11 : decode prog_11_method_1_code 11 = .ok (.putfield 15, 3) := by decide +kernel
theorem d1_14 : decode prog_11_method_1_code 14 = .ok (.aload_n 0, 1) := by decide +kernel
theorem d1_15 : decode prog_11_method_1_code 15 = .ok (.iload_n 3, 1) := by decide +kernel
theorem d1_16 : decode prog_11_method_1_code 16 = .ok (.putfield 19, 3) := by decide +kernel
theorem d1_19 : decode prog_11_method_1_code 19 = .ok (.return_, 1) := by decide +kernel
theorem ef_rm1 (m : MethodId) (a0 : Addr) (a1 : Addr) (p2 : Int32) (p3 : Int32) : entryFrame m #[(.ref a0), (.ref a1), (.int p2), (.int p3)] 4 = mkF m 0 #[.val (.ref a0), .val (.ref a1), .val (.int p2), .val (.int p3)] [] := by first | (simp [entryFrame, mkF, argsToLocals, Value.category]; done) | rfl
def Q_rm1 (Z : State) (a0 : Addr) (a1 : Addr) (p2 : Int32) (p3 : Int32) (h0 : Heap) (n0 : Nat) (v : Option Value) (h : Heap) (L : List Loc) : Prop := v = none ∧ Fr n0 L ∧ Keep h0 h [a0] ∧ Exa Z h a0 cs0 ∧ Fld Z h a0 cs0 "bytes" "[B" (.ref a1) ∧ Fld Z h a0 cs0 "maxDepth" "I" (.int p3) ∧ Fld Z h a0 cs0 "position" "I" (.int p2) ∧ Fld Z h a0 cs0 "depth" "I" (.int (0 : Int32)) ∧ Fld Z h a0 cs0 "first" "Z" (.int (0 : Int32)) ∧ Fld Z h a0 cs0 "token" "Lcom/example/bad_status/badstatus/model/JsonReader$Token;" .null ∧ Fld Z h a0 cs0 "tokenStart" "I" (.int (0 : Int32)) ∧ Fld Z h a0 cs0 "textStart" "I" (.int (0 : Int32)) ∧ Fld Z h a0 cs0 "textEnd" "I" (.int (0 : Int32)) ∧ Fld Z h a0 cs0 "escaped" "Z" (.int (0 : Int32)) ∧ Fld Z h a0 cs0 "ascii" "Z" (.int (0 : Int32)) ∧ Fld Z h a0 cs0 "integral" "Z" (.int (0 : Int32))
set_option maxRecDepth 65536 in
set_option maxHeartbeats 40000000 in
theorem rm1 (l : Launch) (Z : State) (av0 : Array Value) (hw : ∀ d ∈ tables_1, d.before av0 Z = true) (ws : List Jvm.Cond) (a0 : Addr) (a1 : Addr) (p2 : Int32) (p3 : Int32) (h0 : Heap) (n0 : Nat) (Z0 : n0 ≤ h0.size) (E_a0 : Exa Z h0 a0 cs0) (F_bytes_a0 : Fld Z h0 a0 cs0 "bytes" "[B" .null) (F_maxDepth_a0 : Fld Z h0 a0 cs0 "maxDepth" "I" (.int (0 : Int32))) (F_position_a0 : Fld Z h0 a0 cs0 "position" "I" (.int (0 : Int32))) (F_depth_a0 : Fld Z h0 a0 cs0 "depth" "I" (.int (0 : Int32))) (F_first_a0 : Fld Z h0 a0 cs0 "first" "Z" (.int (0 : Int32))) (F_token_a0 : Fld Z h0 a0 cs0 "token" "Lcom/example/bad_status/badstatus/model/JsonReader$Token;" .null) (F_tokenStart_a0 : Fld Z h0 a0 cs0 "tokenStart" "I" (.int (0 : Int32))) (F_textStart_a0 : Fld Z h0 a0 cs0 "textStart" "I" (.int (0 : Int32))) (F_textEnd_a0 : Fld Z h0 a0 cs0 "textEnd" "I" (.int (0 : Int32))) (F_escaped_a0 : Fld Z h0 a0 cs0 "escaped" "Z" (.int (0 : Int32))) (F_ascii_a0 : Fld Z h0 a0 cs0 "ascii" "Z" (.int (0 : Int32))) (F_integral_a0 : Fld Z h0 a0 cs0 "integral" "Z" (.int (0 : Int32))) (g_a0 : n0 ≤ a0) :
    MetFree l (⟨cs0, "<init>", "([BII)V"⟩ : MethodName) (head1 (Jvm.Cond.code (⟨cs0, "<init>", "([BII)V"⟩ : MethodName) prog_11_method_1_code 4 none :: ws) ({ frames := 1, cells := 0, slots := 0, locals := 12 } : Room)) (fun a U => a = #[(.ref a0), (.ref a1), (.int p2), (.int p3)] ∧ Z.Warmed39 U.vm ∧ U.heap = h0) (fun _ _ _ _ _ => True) (fun _ U o U' => ∃ v L, o = .returned v ∧ Q_rm1 Z a0 a1 p2 p3 h0 n0 v U'.heap L ∧ FrameEnd U o U' L ({ frames := 1, cells := 0, slots := 0, locals := 12 } : Room).cells ({ frames := 1, cells := 0, slots := 0, locals := 12 } : Room).slots) := by
  refine MetFree.of_bodySF (plainFor_of_name pn_0) hisR ?_
  intro p e s m args below meth c s₁ Bd hml0 hP hK
  obtain ⟨rfl, hZ, hh⟩ := hP
  have hx := Bd.exec
  have hby := Bd.bytes
  have hml : c.maxLocals = 4 := hml0
  have dd : ∀ {pc : Nat} {r : Except DecodeError (Instr × Nat)}, decode prog_11_method_1_code pc = r → decode c.code pc = r := fun q => hb hby q
  have hown : s.vm.findClass cs0 = some m.cls := findClass_of_methodNamed Bd.named
  have hnm := (name_of_methodNamed Bd.named Bd.method).1
  have X0 : Stand p l e ({ frames := 1, cells := 0, slots := 0, locals := 12 } : Room) s m #[(.ref a0), (.ref a1), (.int p2), (.int p3)] below meth c s₁ [] 0 0 := Stand.of_body Bd
  have e0 : s₁.heap = h0 := by rw [← hh, Bd.state]; rfl
  have N0 := Fr.nil n0
  have hret := Bd.returns
  have hlk := Bd.notSynchronized
  show Gz p e below s ({ frames := 1, cells := 0, slots := 0, locals := 12 } : Room).cells ({ frames := 1, cells := 0, slots := 0, locals := 12 } : Room).slots (Q_rm1 Z a0 a1 p2 p3 h0 n0) (s₁.setTop (entryFrame m #[(.ref a0), (.ref a1), (.int p2), (.int p3)] 4))
  refine Gz.enter (ef_rm1 m a0 a1 p2 p3) ?_
  refine Gz.aloadN 1 X0 hx (dd d1_0) rfl rfl rfl ?_
  obtain ⟨T1, X1, e1, st1⟩ := initO X0 hx hZ hown (ww hw 19 rfl) (ww hw 20 rfl) (ww hw 21 rfl) e0 (g := (mkF m 1 #[.val (.ref a0), .val (.ref a1), .val (.int p2), .val (.int p3)] [(.ref a0)])) rfl (by rw [hml]; rfl) rfl (dd d1_1) (by decide) (W := 0) (Nat.le_refl _) (by decide)
  refine Gz.st st1 ?_
  refine Gz.aloadN 5 X1 hx (dd d1_4) rfl rfl rfl ?_
  refine Gz.aloadN 6 X1 hx (dd d1_5) rfl rfl rfl ?_
  refine Gz.putF 9 X1 hx hZ hown (.array .byte) (dd d1_6) (host := "") (Or.inl (ww hw 22 rfl)) Via.refl e1 F_bytes_a0 E_a0 (Or.inr ⟨(ww hw 23 rfl), rfl, hnm⟩) (ww hw 14 rfl) (by decide) rfl rfl rfl fun T2 h2 X2 e2 W2 => ?_
  have f2_E_a0 := Exa.wr W2 E_a0
  have f2_F_maxDepth_a0 := Fld.other W2 F_maxDepth_a0 (Or.inr (sn0 hw))
  have f2_F_position_a0 := Fld.other W2 F_position_a0 (Or.inr (sn1 hw))
  have f2_F_depth_a0 := Fld.other W2 F_depth_a0 (Or.inr (sn2 hw))
  have f2_F_first_a0 := Fld.other W2 F_first_a0 (Or.inr (sn3 hw))
  have f2_F_token_a0 := Fld.other W2 F_token_a0 (Or.inr (sn4 hw))
  have f2_F_tokenStart_a0 := Fld.other W2 F_tokenStart_a0 (Or.inr (sn5 hw))
  have f2_F_textStart_a0 := Fld.other W2 F_textStart_a0 (Or.inr (sn6 hw))
  have f2_F_textEnd_a0 := Fld.other W2 F_textEnd_a0 (Or.inr (sn7 hw))
  have f2_F_escaped_a0 := Fld.other W2 F_escaped_a0 (Or.inr (sn8 hw))
  have f2_F_ascii_a0 := Fld.other W2 F_ascii_a0 (Or.inr (sn9 hw))
  have f2_F_integral_a0 := Fld.other W2 F_integral_a0 (Or.inr (sn10 hw))
  have f2_F_bytes_a0 := Fld.same W2 F_bytes_a0
  have N2 := Fr.snoc X2 N0 g_a0
  have SZ2 : n0 ≤ h2.size := Nat.le_trans Z0 (Keep.of_wr W2).1
  have K2 := Keep.wr (Keep.refl h0 [a0]) W2 (Or.inl (List.mem_of_getElem? (i := 0) rfl))
  refine Gz.aloadN 10 X2 hx (dd d1_9) rfl rfl rfl ?_
  refine Gz.iloadN 11 X2 hx (dd d1_10) rfl rfl ?_
  refine Gz.putF 14 X2 hx hZ hown .int (dd d1_11) (host := "") (Or.inl (ww hw 24 rfl)) Via.refl e2 f2_F_position_a0 f2_E_a0 (Or.inl (ww hw 25 rfl)) (ww hw 14 rfl) (by decide) rfl rfl rfl fun T3 h3 X3 e3 W3 => ?_
  have f3_E_a0 := Exa.wr W3 f2_E_a0
  have f3_F_bytes_a0 := Fld.other W3 f2_F_bytes_a0 (Or.inr (Ne.symm <| sn1 hw))
  have f3_F_maxDepth_a0 := Fld.other W3 f2_F_maxDepth_a0 (Or.inr (sn11 hw))
  have f3_F_depth_a0 := Fld.other W3 f2_F_depth_a0 (Or.inr (sn12 hw))
  have f3_F_first_a0 := Fld.other W3 f2_F_first_a0 (Or.inr (sn13 hw))
  have f3_F_token_a0 := Fld.other W3 f2_F_token_a0 (Or.inr (sn14 hw))
  have f3_F_tokenStart_a0 := Fld.other W3 f2_F_tokenStart_a0 (Or.inr (sn15 hw))
  have f3_F_textStart_a0 := Fld.other W3 f2_F_textStart_a0 (Or.inr (sn16 hw))
  have f3_F_textEnd_a0 := Fld.other W3 f2_F_textEnd_a0 (Or.inr (sn17 hw))
  have f3_F_escaped_a0 := Fld.other W3 f2_F_escaped_a0 (Or.inr (sn18 hw))
  have f3_F_ascii_a0 := Fld.other W3 f2_F_ascii_a0 (Or.inr (sn19 hw))
  have f3_F_integral_a0 := Fld.other W3 f2_F_integral_a0 (Or.inr (sn20 hw))
  have f3_F_position_a0 := Fld.same W3 f2_F_position_a0
  have N3 := Fr.snoc X3 N2 g_a0
  have SZ3 : n0 ≤ h3.size := Nat.le_trans SZ2 (Keep.of_wr W3).1
  have K3 := Keep.wr K2 W3 (Or.inl (List.mem_of_getElem? (i := 0) rfl))
  refine Gz.aloadN 15 X3 hx (dd d1_14) rfl rfl rfl ?_
  refine Gz.iloadN 16 X3 hx (dd d1_15) rfl rfl ?_
  refine Gz.putF 19 X3 hx hZ hown .int (dd d1_16) (host := "") (Or.inl (ww hw 26 rfl)) Via.refl e3 f3_F_maxDepth_a0 f3_E_a0 (Or.inr ⟨(ww hw 27 rfl), rfl, hnm⟩) (ww hw 14 rfl) (by decide) rfl rfl rfl fun T4 h4 X4 e4 W4 => ?_
  have f4_E_a0 := Exa.wr W4 f3_E_a0
  have f4_F_bytes_a0 := Fld.other W4 f3_F_bytes_a0 (Or.inr (Ne.symm <| sn0 hw))
  have f4_F_position_a0 := Fld.other W4 f3_F_position_a0 (Or.inr (Ne.symm <| sn11 hw))
  have f4_F_depth_a0 := Fld.other W4 f3_F_depth_a0 (Or.inr (sn21 hw))
  have f4_F_first_a0 := Fld.other W4 f3_F_first_a0 (Or.inr (sn22 hw))
  have f4_F_token_a0 := Fld.other W4 f3_F_token_a0 (Or.inr (sn23 hw))
  have f4_F_tokenStart_a0 := Fld.other W4 f3_F_tokenStart_a0 (Or.inr (sn24 hw))
  have f4_F_textStart_a0 := Fld.other W4 f3_F_textStart_a0 (Or.inr (sn25 hw))
  have f4_F_textEnd_a0 := Fld.other W4 f3_F_textEnd_a0 (Or.inr (sn26 hw))
  have f4_F_escaped_a0 := Fld.other W4 f3_F_escaped_a0 (Or.inr (sn27 hw))
  have f4_F_ascii_a0 := Fld.other W4 f3_F_ascii_a0 (Or.inr (sn28 hw))
  have f4_F_integral_a0 := Fld.other W4 f3_F_integral_a0 (Or.inr (sn29 hw))
  have f4_F_maxDepth_a0 := Fld.same W4 f3_F_maxDepth_a0
  have N4 := Fr.snoc X4 N3 g_a0
  have SZ4 : n0 ≤ h4.size := Nat.le_trans SZ3 (Keep.of_wr W4).1
  have K4 := Keep.wr K3 W4 (Or.inl (List.mem_of_getElem? (i := 0) rfl))
  refine Gz.fin X4 (v := none) (fun _ => rfl) hlk (by decide) (by decide) (fun fs hr => X4.returnOut hx hret (dd d1_19) hr) ?_
  rw [e4]
  exact ⟨rfl, N4, K4, f4_E_a0, f4_F_bytes_a0, f4_F_maxDepth_a0, f4_F_position_a0, f4_F_depth_a0, f4_F_first_a0, f4_F_token_a0, f4_F_tokenStart_a0, f4_F_textStart_a0, f4_F_textEnd_a0, f4_F_escaped_a0, f4_F_ascii_a0, f4_F_integral_a0⟩
theorem pd_2 : parseMethodDescriptor "()V" = some ⟨[], none⟩ := by decide +kernel
abbrev ym2 : MethodName := ⟨"java/lang/Record", "<init>", "()V"⟩
theorem sn30 {Z : State} {av0 : Array Value} (hw : ∀ d ∈ tables_1, d.before av0 Z = true) : Jvm.RoadKit.slotOf Z cs2 "depth" "I" ≠ Jvm.RoadKit.slotOf Z cs2 "position" "I" := slot_ne (Or.inr (ww hw 96 rfl)) (Or.inr (ww hw 94 rfl)) (by decide) (t := .int) (t' := .int) (by decide) (by decide)
theorem d11_0 : decode prog_12_method_1_code 0 = .ok (.aload_n 0, 1) := by decide +kernel
theorem d11_1 : decode prog_12_method_1_code 1 = .ok (.invokespecial 1, 3) := by decide +kernel
theorem d11_4 : decode prog_12_method_1_code 4 = .ok (.aload_n 0, 1) := by decide +kernel
theorem d11_5 : decode prog_12_method_1_code 5 = .ok (.iload_n 1, 1) := by decide +kernel
theorem d11_6 : decode prog_12_method_1_code 6 = .ok (.putfield 7, 3) := by decide +kernel
theorem d11_9 : decode prog_12_method_1_code 9 = .ok (.aload_n 0, 1) := by decide +kernel
theorem d11_10 : decode prog_12_method_1_code 10 = .ok (.iload_n 2, 1) := by decide +kernel
theorem d11_11 : decode prog_12_method_1_code 11 = .ok (.putfield 13, 3) := by decide +kernel
theorem d11_14 : decode prog_12_method_1_code 14 = .ok (.return_, 1) := by decide +kernel
theorem pn_4 : plainName cs2 = true := by first | (simp [plainName, overriddenIn]; done) | decide +kernel
theorem ef_rm11 (m : MethodId) (a0 : Addr) (p1 : Int32) (p2 : Int32) : entryFrame m #[(.ref a0), (.int p1), (.int p2)] 3 = mkF m 0 #[.val (.ref a0), .val (.int p1), .val (.int p2)] [] := by first | (simp [entryFrame, mkF, argsToLocals, Value.category]; done) | rfl
def Q_rm11 (Z : State) (a0 : Addr) (p1 : Int32) (p2 : Int32) (h0 : Heap) (n0 : Nat) (v : Option Value) (h : Heap) (L : List Loc) : Prop := v = none ∧ Fr n0 L ∧ Keep h0 h [a0] ∧ Exa Z h a0 cs2 ∧ Fld Z h a0 cs2 "position" "I" (.int p1) ∧ Fld Z h a0 cs2 "depth" "I" (.int p2)
set_option maxRecDepth 65536 in
set_option maxHeartbeats 40000000 in
theorem rm11 (l : Launch) (Z : State) (av0 : Array Value) (hw : ∀ d ∈ tables_1, d.before av0 Z = true) (ws : List Jvm.Cond) (a0 : Addr) (p1 : Int32) (p2 : Int32) (h0 : Heap) (n0 : Nat) (Z0 : n0 ≤ h0.size) (E_a0 : Exa Z h0 a0 cs2) (F_position_a0 : Fld Z h0 a0 cs2 "position" "I" (.int (0 : Int32))) (F_depth_a0 : Fld Z h0 a0 cs2 "depth" "I" (.int (0 : Int32))) (g_a0 : n0 ≤ a0) :
    MetFree l (⟨cs2, "<init>", "(II)V"⟩ : MethodName) (head1 (Jvm.Cond.code (⟨cs2, "<init>", "(II)V"⟩ : MethodName) prog_12_method_1_code 3 none :: ws) ({ frames := 2, cells := 0, slots := 0, locals := 24 } : Room)) (fun a U => a = #[(.ref a0), (.int p1), (.int p2)] ∧ Z.Warmed39 U.vm ∧ U.heap = h0) (fun _ _ _ _ _ => True) (fun _ U o U' => ∃ v L, o = .returned v ∧ Q_rm11 Z a0 p1 p2 h0 n0 v U'.heap L ∧ FrameEnd U o U' L ({ frames := 2, cells := 0, slots := 0, locals := 24 } : Room).cells ({ frames := 2, cells := 0, slots := 0, locals := 24 } : Room).slots) := by
  refine MetFree.of_bodySF (plainFor_of_name pn_4) hisR ?_
  intro p e s m args below meth c s₁ Bd hml0 hP hK
  obtain ⟨rfl, hZ, hh⟩ := hP
  have hx := Bd.exec
  have hby := Bd.bytes
  have hml : c.maxLocals = 3 := hml0
  have dd : ∀ {pc : Nat} {r : Except DecodeError (Instr × Nat)}, decode prog_12_method_1_code pc = r → decode c.code pc = r := fun q => hb hby q
  have hown : s.vm.findClass cs2 = some m.cls := findClass_of_methodNamed Bd.named
  have hnm := (name_of_methodNamed Bd.named Bd.method).1
  have X0 : Stand p l e ({ frames := 2, cells := 0, slots := 0, locals := 24 } : Room) s m #[(.ref a0), (.int p1), (.int p2)] below meth c s₁ [] 0 0 := Stand.of_body Bd
  have e0 : s₁.heap = h0 := by rw [← hh, Bd.state]; rfl
  have N0 := Fr.nil n0
  have hret := Bd.returns
  have hlk := Bd.notSynchronized
  show Gz p e below s ({ frames := 2, cells := 0, slots := 0, locals := 24 } : Room).cells ({ frames := 2, cells := 0, slots := 0, locals := 24 } : Room).slots (Q_rm11 Z a0 p1 p2 h0 n0) (s₁.setTop (entryFrame m #[(.ref a0), (.int p1), (.int p2)] 3))
  refine Gz.enter (ef_rm11 m a0 p1 p2) ?_
  refine Gz.aloadN 1 X0 hx (dd d11_0) rfl rfl rfl ?_
  obtain ⟨_, _, ⟨T1, L1, k1, n1⟩, -, X1, ⟨Lc1, hQ1, l1, y1, z1⟩, st1⟩ := X0.specialBack hx (y := ym2) rfl hown (mvT hZ (ww hw 87 rfl)) (mvT hZ (ww hw 88 rfl)) (mvT hZ (ww hw 91 rfl)) (by decide) (backOf (W := 0) (rmRec l Z av0 hw [] a0  h0 n0 Z0 ) hZ (ww hw 91 rfl) (ww hw 90 rfl) (by decide) (by decide)) (g := (mkF m 1 #[.val (.ref a0), .val (.int p1), .val (.int p2)] [(.ref a0)])) rfl (by rw [hml]; rfl) (Steps.refl _) (a := a0) (argsL := []) (rest := []) (lenOf pd_2 rfl) rfl (Nat.le_refl _) (dd d11_1) (fun _ _ => ⟨rfl, e0, (by decide : 0 + 0 ≤ _), (by decide : 0 + 0 ≤ _)⟩)
  dsimp only [Pt.U, Pt.locs, Pt.cells, Pt.slots, Q_rmRec] at X1 l1 y1 z1 st1 hQ1
  subst l1 y1 z1
  obtain ⟨rfl, N1q, e1⟩ := hQ1
  have N1 := Fr.app N0 N1q
  refine Gz.tr st1 ?_
  refine Gz.aloadN 5 X1 hx (dd d11_4) rfl rfl rfl ?_
  refine Gz.iloadN 6 X1 hx (dd d11_5) rfl rfl ?_
  refine Gz.putF 9 X1 hx hZ hown .int (dd d11_6) (host := "") (Or.inl (ww hw 93 rfl)) Via.refl e1 F_position_a0 E_a0 (Or.inr ⟨(ww hw 94 rfl), rfl, hnm⟩) (ww hw 82 rfl) (by decide) rfl rfl rfl fun T2 h2 X2 e2 W2 => ?_
  have f2_E_a0 := Exa.wr W2 E_a0
  have f2_F_depth_a0 := Fld.other W2 F_depth_a0 (Or.inr (sn30 hw))
  have f2_F_position_a0 := Fld.same W2 F_position_a0
  have N2 := Fr.snoc X2 N1 g_a0
  have SZ2 : n0 ≤ h2.size := Nat.le_trans Z0 (Keep.of_wr W2).1
  have K2 := Keep.wr (Keep.refl h0 [a0]) W2 (Or.inl (List.mem_of_getElem? (i := 0) rfl))
  refine Gz.aloadN 10 X2 hx (dd d11_9) rfl rfl rfl ?_
  refine Gz.iloadN 11 X2 hx (dd d11_10) rfl rfl ?_
  refine Gz.putF 14 X2 hx hZ hown .int (dd d11_11) (host := "") (Or.inl (ww hw 95 rfl)) Via.refl e2 f2_F_depth_a0 f2_E_a0 (Or.inr ⟨(ww hw 96 rfl), rfl, hnm⟩) (ww hw 82 rfl) (by decide) rfl rfl rfl fun T3 h3 X3 e3 W3 => ?_
  have f3_E_a0 := Exa.wr W3 f2_E_a0
  have f3_F_position_a0 := Fld.other W3 f2_F_position_a0 (Or.inr (Ne.symm <| sn30 hw))
  have f3_F_depth_a0 := Fld.same W3 f2_F_depth_a0
  have N3 := Fr.snoc X3 N2 g_a0
  have SZ3 : n0 ≤ h3.size := Nat.le_trans SZ2 (Keep.of_wr W3).1
  have K3 := Keep.wr K2 W3 (Or.inl (List.mem_of_getElem? (i := 0) rfl))
  refine Gz.fin X3 (v := none) (fun _ => rfl) hlk (by decide) (by decide) (fun fs hr => X3.returnOut hx hret (dd d11_14) hr) ?_
  rw [e3]
  exact ⟨rfl, N3, K3, f3_E_a0, f3_F_position_a0, f3_F_depth_a0⟩
theorem d14_0 : decode prog_12_method_5_code 0 = .ok (.aload_n 0, 1) := by decide +kernel
theorem d14_1 : decode prog_12_method_5_code 1 = .ok (.getfield 7, 3) := by decide +kernel
theorem d14_4 : decode prog_12_method_5_code 4 = .ok (.ireturn, 1) := by decide +kernel
theorem ef_rm14 (m : MethodId) (a0 : Addr) : entryFrame m #[(.ref a0)] 1 = mkF m 0 #[.val (.ref a0)] [] := by first | (simp [entryFrame, mkF, argsToLocals, Value.category]; done) | rfl
def fMp (a0 : Addr) (mp : Int32) : Int32 := mp
def Q_rm14 (Z : State) (a0 : Addr) (mp : Int32) (h0 : Heap) (n0 : Nat) (v : Option Value) (h : Heap) (L : List Loc) : Prop := v = some (.int (fMp a0 mp)) ∧ Fr n0 L ∧ h = h0
set_option maxRecDepth 65536 in
set_option maxHeartbeats 40000000 in
theorem rm14 (l : Launch) (Z : State) (av0 : Array Value) (hw : ∀ d ∈ tables_1, d.before av0 Z = true) (ws : List Jvm.Cond) (a0 : Addr) (mp : Int32) (h0 : Heap) (n0 : Nat) (Z0 : n0 ≤ h0.size) (F_position_a0 : Fld Z h0 a0 cs2 "position" "I" (.int mp)) :
    MetFree l (⟨cs2, "position", "()I"⟩ : MethodName) (head1 (Jvm.Cond.code (⟨cs2, "position", "()I"⟩ : MethodName) prog_12_method_5_code 1 (some .int) :: ws) ({ frames := 0, cells := 0, slots := 0, locals := 0 } : Room)) (fun a U => a = #[(.ref a0)] ∧ Z.Warmed39 U.vm ∧ U.heap = h0) (fun _ _ _ _ _ => True) (fun _ U o U' => ∃ v L, o = .returned v ∧ Q_rm14 Z a0 mp h0 n0 v U'.heap L ∧ FrameEnd U o U' L ({ frames := 0, cells := 0, slots := 0, locals := 0 } : Room).cells ({ frames := 0, cells := 0, slots := 0, locals := 0 } : Room).slots) := by
  refine MetFree.of_bodySF (plainFor_of_name pn_4) hisR ?_
  intro p e s m args below meth c s₁ Bd hml0 hP hK
  obtain ⟨rfl, hZ, hh⟩ := hP
  have hx := Bd.exec
  have hby := Bd.bytes
  have hml : c.maxLocals = 1 := hml0
  have dd : ∀ {pc : Nat} {r : Except DecodeError (Instr × Nat)}, decode prog_12_method_5_code pc = r → decode c.code pc = r := fun q => hb hby q
  have hown : s.vm.findClass cs2 = some m.cls := findClass_of_methodNamed Bd.named
  have hnm := (name_of_methodNamed Bd.named Bd.method).1
  have X0 : Stand p l e ({ frames := 0, cells := 0, slots := 0, locals := 0 } : Room) s m #[(.ref a0)] below meth c s₁ [] 0 0 := Stand.of_body Bd
  have e0 : s₁.heap = h0 := by rw [← hh, Bd.state]; rfl
  have N0 := Fr.nil n0
  have hret := Bd.returns
  have hlk := Bd.notSynchronized
  show Gz p e below s ({ frames := 0, cells := 0, slots := 0, locals := 0 } : Room).cells ({ frames := 0, cells := 0, slots := 0, locals := 0 } : Room).slots (Q_rm14 Z a0 mp h0 n0) (s₁.setTop (entryFrame m #[(.ref a0)] 1))
  refine Gz.enter (ef_rm14 m a0) ?_
  refine Gz.aloadN 1 X0 hx (dd d14_0) rfl rfl rfl ?_
  refine Gz.getF 4 X0 hx hZ hown (dd d14_1) (host := "") (Or.inl (ww hw 93 rfl)) Via.refl e0 F_position_a0 rfl fun T1 X1 e1 => ?_
  refine Gz.fin X1 (v := some (.int mp)) (fun h => by rw [hret] at h; cases h) hlk (by decide) (by decide) (fun fs hr => retI X1 hx hret (dd d14_4) hr) ?_
  rw [e1]
  exact ⟨rfl, N0, rfl⟩
theorem d15_0 : decode prog_12_method_6_code 0 = .ok (.aload_n 0, 1) := by decide +kernel
theorem d15_1 : decode prog_12_method_6_code 1 = .ok (.getfield 13, 3) := by decide +kernel
theorem d15_4 : decode prog_12_method_6_code 4 = .ok (.ireturn, 1) := by decide +kernel
theorem ef_rm15 (m : MethodId) (a0 : Addr) : entryFrame m #[(.ref a0)] 1 = mkF m 0 #[.val (.ref a0)] [] := by first | (simp [entryFrame, mkF, argsToLocals, Value.category]; done) | rfl
def fMd (a0 : Addr) (mp : Int32) : Int32 := mp
def Q_rm15 (Z : State) (a0 : Addr) (mp : Int32) (h0 : Heap) (n0 : Nat) (v : Option Value) (h : Heap) (L : List Loc) : Prop := v = some (.int (fMd a0 mp)) ∧ Fr n0 L ∧ h = h0
set_option maxRecDepth 65536 in
set_option maxHeartbeats 40000000 in
theorem rm15 (l : Launch) (Z : State) (av0 : Array Value) (hw : ∀ d ∈ tables_1, d.before av0 Z = true) (ws : List Jvm.Cond) (a0 : Addr) (mp : Int32) (h0 : Heap) (n0 : Nat) (Z0 : n0 ≤ h0.size) (F_depth_a0 : Fld Z h0 a0 cs2 "depth" "I" (.int mp)) :
    MetFree l (⟨cs2, "depth", "()I"⟩ : MethodName) (head1 (Jvm.Cond.code (⟨cs2, "depth", "()I"⟩ : MethodName) prog_12_method_6_code 1 (some .int) :: ws) ({ frames := 0, cells := 0, slots := 0, locals := 0 } : Room)) (fun a U => a = #[(.ref a0)] ∧ Z.Warmed39 U.vm ∧ U.heap = h0) (fun _ _ _ _ _ => True) (fun _ U o U' => ∃ v L, o = .returned v ∧ Q_rm15 Z a0 mp h0 n0 v U'.heap L ∧ FrameEnd U o U' L ({ frames := 0, cells := 0, slots := 0, locals := 0 } : Room).cells ({ frames := 0, cells := 0, slots := 0, locals := 0 } : Room).slots) := by
  refine MetFree.of_bodySF (plainFor_of_name pn_4) hisR ?_
  intro p e s m args below meth c s₁ Bd hml0 hP hK
  obtain ⟨rfl, hZ, hh⟩ := hP
  have hx := Bd.exec
  have hby := Bd.bytes
  have hml : c.maxLocals = 1 := hml0
  have dd : ∀ {pc : Nat} {r : Except DecodeError (Instr × Nat)}, decode prog_12_method_6_code pc = r → decode c.code pc = r := fun q => hb hby q
  have hown : s.vm.findClass cs2 = some m.cls := findClass_of_methodNamed Bd.named
  have hnm := (name_of_methodNamed Bd.named Bd.method).1
  have X0 : Stand p l e ({ frames := 0, cells := 0, slots := 0, locals := 0 } : Room) s m #[(.ref a0)] below meth c s₁ [] 0 0 := Stand.of_body Bd
  have e0 : s₁.heap = h0 := by rw [← hh, Bd.state]; rfl
  have N0 := Fr.nil n0
  have hret := Bd.returns
  have hlk := Bd.notSynchronized
  show Gz p e below s ({ frames := 0, cells := 0, slots := 0, locals := 0 } : Room).cells ({ frames := 0, cells := 0, slots := 0, locals := 0 } : Room).slots (Q_rm15 Z a0 mp h0 n0) (s₁.setTop (entryFrame m #[(.ref a0)] 1))
  refine Gz.enter (ef_rm15 m a0) ?_
  refine Gz.aloadN 1 X0 hx (dd d15_0) rfl rfl rfl ?_
  refine Gz.getF 4 X0 hx hZ hown (dd d15_1) (host := "") (Or.inl (ww hw 95 rfl)) Via.refl e0 F_depth_a0 rfl fun T1 X1 e1 => ?_
  refine Gz.fin X1 (v := some (.int mp)) (fun h => by rw [hret] at h; cases h) hlk (by decide) (by decide) (fun fs hr => retI X1 hx hret (dd d15_4) hr) ?_
  rw [e1]
  exact ⟨rfl, N0, rfl⟩
theorem pd_3 : parseMethodDescriptor "(II)V" = some ⟨[.int, .int], none⟩ := by decide +kernel
abbrev ym3 : MethodName := ⟨cs2, "<init>", "(II)V"⟩
theorem d16_0 : decode prog_11_method_7_code 0 = .ok (.aload_n 0, 1) := by decide +kernel
theorem d16_1 : decode prog_11_method_7_code 1 = .ok (.getfield 81, 3) := by decide +kernel
theorem d16_4 : decode prog_11_method_7_code 4 = .ok (.getstatic 29, 3) := by decide +kernel
theorem d16_7 : decode prog_11_method_7_code 7 = .ok (.if_acmp .eq 13, 3) := by decide +kernel
theorem d16_10 : decode prog_11_method_7_code 10 = .ok (.aload_n 0, 1) := by decide +kernel
theorem d16_11 : decode prog_11_method_7_code 11 = .ok (.getfield 81, 3) := by decide +kernel
theorem d16_14 : decode prog_11_method_7_code 14 = .ok (.getstatic 39, 3) := by decide +kernel
theorem d16_17 : decode prog_11_method_7_code 17 = .ok (.if_acmp .ne 7, 3) := by decide +kernel
theorem d16_24 : decode prog_11_method_7_code 24 = .ok (.iconst 0, 1) := by decide +kernel
theorem d16_25 : decode prog_11_method_7_code 25 = .ok (.istore_n 1, 1) := by decide +kernel
theorem d16_26 : decode prog_11_method_7_code 26 = .ok (.new 113, 3) := by decide +kernel
theorem d16_29 : decode prog_11_method_7_code 29 = .ok (.dup, 1) := by decide +kernel
theorem d16_30 : decode prog_11_method_7_code 30 = .ok (.aload_n 0, 1) := by decide +kernel
theorem d16_31 : decode prog_11_method_7_code 31 = .ok (.getfield 26, 3) := by decide +kernel
theorem d16_34 : decode prog_11_method_7_code 34 = .ok (.iload_n 1, 1) := by decide +kernel
theorem d16_35 : decode prog_11_method_7_code 35 = .ok (.ifCond .eq 12, 3) := by decide +kernel
theorem d16_47 : decode prog_11_method_7_code 47 = .ok (.aload_n 0, 1) := by decide +kernel
theorem d16_48 : decode prog_11_method_7_code 48 = .ok (.getfield 115, 3) := by decide +kernel
theorem d16_51 : decode prog_11_method_7_code 51 = .ok (.invokespecial 118, 3) := by decide +kernel
theorem d16_54 : decode prog_11_method_7_code 54 = .ok (.areturn, 1) := by decide +kernel
theorem ef_rmMk_n (m : MethodId) (a0 : Addr) : entryFrame m #[(.ref a0)] 2 = mkF m 0 #[.val (.ref a0), .unset] [] := by first | (simp [entryFrame, mkF, argsToLocals, Value.category]; done) | rfl
def Q_rmMk_n (Z : State) (a0 : Addr) (s_OBJECT : Addr) (s_ARRAY : Addr) (dp : Int32) (ts : Int32) (h0 : Heap) (n0 : Nat) (v : Option Value) (h : Heap) (L : List Loc) : Prop := ∃ rd : Addr, v = some (.ref rd) ∧ Fr n0 L ∧ Keep h0 h [] ∧ n0 ≤ rd ∧ h0.size ≤ rd ∧ Exa Z h rd cs2 ∧ Fld Z h rd cs2 "position" "I" (.int ts) ∧ Fld Z h rd cs2 "depth" "I" (.int dp)
set_option maxRecDepth 65536 in
set_option maxHeartbeats 40000000 in
theorem rmMk_n (l : Launch) (Z : State) (av0 : Array Value) (hw : ∀ d ∈ tables_1, d.before av0 Z = true) (ws : List Jvm.Cond) (a0 : Addr) (s_OBJECT : Addr) (s_ARRAY : Addr) (dp : Int32) (ts : Int32) (h0 : Heap) (n0 : Nat) (Z0 : n0 ≤ h0.size) (S_s_OBJECT : Sta Z h0 cs1 "OBJECT" "Lcom/example/bad_status/badstatus/model/JsonReader$Token;" (.ref s_OBJECT)) (S_s_ARRAY : Sta Z h0 cs1 "ARRAY" "Lcom/example/bad_status/badstatus/model/JsonReader$Token;" (.ref s_ARRAY)) (E_a0 : Exa Z h0 a0 cs0) (F_depth_a0 : Fld Z h0 a0 cs0 "depth" "I" (.int dp)) (F_token_a0 : Fld Z h0 a0 cs0 "token" "Lcom/example/bad_status/badstatus/model/JsonReader$Token;" .null) (F_tokenStart_a0 : Fld Z h0 a0 cs0 "tokenStart" "I" (.int ts)) :
    MetFree l (⟨cs0, "mark", "()Lcom/example/bad_status/badstatus/model/JsonReader$Mark;"⟩ : MethodName) (head1 (Jvm.Cond.code (⟨cs0, "mark", "()Lcom/example/bad_status/badstatus/model/JsonReader$Mark;"⟩ : MethodName) prog_11_method_7_code 2 (some (.object cs2)) :: ws) ({ frames := 3, cells := 1, slots := 2, locals := 39 } : Room)) (fun a U => a = #[(.ref a0)] ∧ Z.Warmed39 U.vm ∧ U.heap = h0) (fun _ _ _ _ _ => True) (fun _ U o U' => ∃ v L, o = .returned v ∧ Q_rmMk_n Z a0 s_OBJECT s_ARRAY dp ts h0 n0 v U'.heap L ∧ FrameEnd U o U' L ({ frames := 3, cells := 1, slots := 2, locals := 39 } : Room).cells ({ frames := 3, cells := 1, slots := 2, locals := 39 } : Room).slots) := by
  refine MetFree.of_bodySF (plainFor_of_name pn_0) hisR ?_
  intro p e s m args below meth c s₁ Bd hml0 hP hK
  obtain ⟨rfl, hZ, hh⟩ := hP
  have hx := Bd.exec
  have hby := Bd.bytes
  have hml : c.maxLocals = 2 := hml0
  have dd : ∀ {pc : Nat} {r : Except DecodeError (Instr × Nat)}, decode prog_11_method_7_code pc = r → decode c.code pc = r := fun q => hb hby q
  have hown : s.vm.findClass cs0 = some m.cls := findClass_of_methodNamed Bd.named
  have hnm := (name_of_methodNamed Bd.named Bd.method).1
  have X0 : Stand p l e ({ frames := 3, cells := 1, slots := 2, locals := 39 } : Room) s m #[(.ref a0)] below meth c s₁ [] 0 0 := Stand.of_body Bd
  have e0 : s₁.heap = h0 := by rw [← hh, Bd.state]; rfl
  have N0 := Fr.nil n0
  have hret := Bd.returns
  have hlk := Bd.notSynchronized
  show Gz p e below s ({ frames := 3, cells := 1, slots := 2, locals := 39 } : Room).cells ({ frames := 3, cells := 1, slots := 2, locals := 39 } : Room).slots (Q_rmMk_n Z a0 s_OBJECT s_ARRAY dp ts h0 n0) (s₁.setTop (entryFrame m #[(.ref a0)] 2))
  refine Gz.enter (ef_rmMk_n m a0) ?_
  refine Gz.aloadN 1 X0 hx (dd d16_0) rfl rfl rfl ?_
  refine Gz.getF 4 X0 hx hZ hown (dd d16_1) (host := "") (Or.inl (ww hw 51 rfl)) Via.refl e0 F_token_a0 rfl fun T1 X1 e1 => ?_
  refine Gz.getS 7 X1 hx hZ hown (dd d16_4) (host := "") (Or.inl (ww hw 117 rfl)) Via.refl e1 S_s_OBJECT rfl fun T2 X2 e2 => ?_
  refine Gz.acmp 10 false X2 hx (dd d16_7) rfl rfl (decide_eq_false nofun) (by decide) (by decide) ?_
  refine Gz.aloadN 11 X2 hx (dd d16_10) rfl rfl rfl ?_
  refine Gz.getF 14 X2 hx hZ hown (dd d16_11) (host := "") (Or.inl (ww hw 51 rfl)) Via.refl e2 F_token_a0 rfl fun T3 X3 e3 => ?_
  refine Gz.getS 17 X3 hx hZ hown (dd d16_14) (host := "") (Or.inl (ww hw 42 rfl)) Via.refl e3 S_s_ARRAY rfl fun T4 X4 e4 => ?_
  refine Gz.acmp 24 false X4 hx (dd d16_17) rfl rfl (decide_eq_false nofun) (by decide) (by decide) ?_
  refine Gz.iconst 25 (0 : Int32) X4 hx (dd d16_24) rfl rfl ?_
  refine Gz.istoreN 26 #[.val (.ref a0), .val (.int (0 : Int32))] X4 hx (dd d16_25) rfl rfl ?_
  obtain ⟨T5, h5, X5, e5, E5, A5, D5, -, st5⟩ := newO X4 hx hZ hown (ww hw 119 rfl) (ww hw 82 rfl) (ww hw 83 rfl) e4 (g := (mkF m 26 #[.val (.ref a0), .val (.int (0 : Int32))] [])) rfl (dd d16_26) (by decide) (by decide)
  obtain ⟨b5, g5⟩ : ∃ z, z = h0.size := ⟨_, rfl⟩
  rw [← g5] at A5 D5 st5
  have ne_a0_b5 : a0 ≠ b5 := Nat.ne_of_lt (Nat.lt_of_lt_of_le (E_a0).lt (Nat.le_of_eq g5.symm))
  have g_b5 : n0 ≤ b5 := Nat.le_trans Z0 (Nat.le_of_eq g5.symm)
  have SZ5 : n0 ≤ h5.size := Nat.le_trans Z0 E5.1
  have sz_b5 : h0.size ≤ b5 := Nat.le_trans (Keep.refl h0 []).1 (Nat.le_of_eq g5.symm)
  have K5 := Keep.ext (Keep.refl h0 []) E5
  have f5_S_s_OBJECT := Sta.ext E5 S_s_OBJECT
  have f5_S_s_ARRAY := Sta.ext E5 S_s_ARRAY
  have f5_E_a0 := Exa.ext E5 E_a0
  have f5_F_depth_a0 := Fld.ext E5 F_depth_a0
  have f5_F_token_a0 := Fld.ext E5 F_token_a0
  have f5_F_tokenStart_a0 := Fld.ext E5 F_tokenStart_a0
  have F_position_b5 : Fld Z h5 b5 cs2 "position" "I" (.int (0 : Int32)) := D5 (Or.inr (ww hw 94 rfl)) (ty := .int) (by decide)
  have F_depth_b5 : Fld Z h5 b5 cs2 "depth" "I" (.int (0 : Int32)) := D5 (Or.inr (ww hw 96 rfl)) (ty := .int) (by decide)
  refine Gz.st st5 ?_
  refine Gz.dup 30 X5 hx (dd d16_29) rfl rfl ?_
  refine Gz.aloadN 31 X5 hx (dd d16_30) rfl rfl rfl ?_
  refine Gz.getF 34 X5 hx hZ hown (dd d16_31) (host := "") (Or.inl (ww hw 40 rfl)) Via.refl e5 f5_F_tokenStart_a0 rfl fun T6 X6 e6 => ?_
  refine Gz.iloadN 35 X6 hx (dd d16_34) rfl rfl ?_
  refine Gz.ifYes 47 X6 hx (dd d16_35) ((if0 _ _).trans (teq (by decide : (0 : Int32) = (0 : Int32))).1) (by decide) (by decide) ?_
  refine Gz.aloadN 48 X6 hx (dd d16_47) rfl rfl rfl ?_
  refine Gz.getF 51 X6 hx hZ hown (dd d16_48) (host := "") (Or.inl (ww hw 47 rfl)) Via.refl e6 f5_F_depth_a0 rfl fun T7 X7 e7 => ?_
  obtain ⟨_, _, ⟨T8, L8, k8, n8⟩, -, X8, ⟨Lc8, hQ8, l8, y8, z8⟩, st8⟩ := X7.specialBack hx (y := ym3) rfl hown (mvT hZ (ww hw 120 rfl)) (mvT hZ (ww hw 85 rfl)) (mvT hZ (ww hw 86 rfl)) (by decide) (backOf (W := 1) (rm11 l Z av0 hw [] b5 ts dp  h5 n0 SZ5 A5 F_position_b5 F_depth_b5 g_b5) hZ (ww hw 86 rfl) (ww hw 83 rfl) (by decide) (by decide)) (g := (mkF m 51 #[.val (.ref a0), .val (.int (0 : Int32))] [(.int dp), (.int ts), (.ref b5), (.ref b5)])) rfl (by rw [hml]; rfl) (Steps.refl _) (a := b5) (argsL := [(.int ts), (.int dp)]) (rest := [(.ref b5)]) (lenOf pd_3 rfl) rfl (Nat.le_refl _) (dd d16_51) (fun _ _ => ⟨rfl, e7, (by decide : 1 + 0 ≤ _), (by decide : 2 + 0 ≤ _)⟩)
  dsimp only [Pt.U, Pt.locs, Pt.cells, Pt.slots, Q_rm11] at X8 l8 y8 z8 st8 hQ8
  subst l8 y8 z8
  obtain ⟨rfl, N8q, K8q, QE8_0, QF8_0, QF8_1⟩ := hQ8
  have N8 := Fr.app N0 N8q
  have f8_S_s_OBJECT := own_staK f5_S_s_OBJECT K8q (allS (nst_of A5) all0)
  have f8_S_s_ARRAY := own_staK f5_S_s_ARRAY K8q (allS (nst_of A5) all0)
  have f8_E_a0 := Exa.keep f5_E_a0 K8q
  have f8_F_depth_a0 := Fld.keep f5_F_depth_a0 K8q (ninS ne_a0_b5 nin0)
  have f8_F_token_a0 := Fld.keep f5_F_token_a0 K8q (ninS ne_a0_b5 nin0)
  have f8_F_tokenStart_a0 := Fld.keep f5_F_tokenStart_a0 K8q (ninS ne_a0_b5 nin0)
  have f8_Eb5 := Exa.keep A5 K8q
  have SZ8 := Nat.le_trans SZ5 K8q.1
  have K8 := Keep.trans K5 K8q (allS (Or.inr sz_b5) all0)
  refine Gz.tr st8 ?_
  refine Gz.fin X8 (v := some (.ref b5)) (fun h => by rw [hret] at h; cases h) hlk (by decide) (by decide) (fun fs hr => retA X8 hx hret (dd d16_54) hr rfl rfl) ?_
  exact ⟨b5, rfl, N8, K8, g_b5, sz_b5, QE8_0, QF8_0, QF8_1⟩
theorem pd_4 : parseMethodDescriptor "()Lcom/example/bad_status/badstatus/model/JsonReader$Mark;" = some ⟨[], some (.object cs2)⟩ := by decide +kernel
abbrev ym4 : MethodName := ⟨cs0, "mark", "()Lcom/example/bad_status/badstatus/model/JsonReader$Mark;"⟩
theorem pd_5 : parseMethodDescriptor "()I" = some ⟨[], some .int⟩ := by decide +kernel
abbrev ym5 : MethodName := ⟨cs2, "depth", "()I"⟩
theorem pd_6 : parseMethodDescriptor "(B)Z" = some ⟨[.byte], some .boolean⟩ := by decide +kernel
abbrev ym6 : MethodName := ⟨cs0, "isWhitespace", "(B)Z"⟩
theorem d4_0 : decode prog_11_method_14_code 0 = .ok (.aload_n 0, 1) := by decide +kernel
theorem d4_1 : decode prog_11_method_14_code 1 = .ok (.getfield 15, 3) := by decide +kernel
theorem d4_4 : decode prog_11_method_14_code 4 = .ok (.istore_n 1, 1) := by decide +kernel
theorem d4_5 : decode prog_11_method_14_code 5 = .ok (.iload_n 1, 1) := by decide +kernel
theorem d4_6 : decode prog_11_method_14_code 6 = .ok (.aload_n 0, 1) := by decide +kernel
theorem d4_7 : decode prog_11_method_14_code 7 = .ok (.getfield 9, 3) := by decide +kernel
theorem d4_10 : decode prog_11_method_14_code 10 = .ok (.arraylength, 1) := by decide +kernel
theorem d4_11 : decode prog_11_method_14_code 11 = .ok (.if_icmp .ge 21, 3) := by decide +kernel
theorem d4_14 : decode prog_11_method_14_code 14 = .ok (.aload_n 0, 1) := by decide +kernel
theorem d4_15 : decode prog_11_method_14_code 15 = .ok (.getfield 9, 3) := by decide +kernel
theorem d4_18 : decode prog_11_method_14_code 18 = .ok (.iload_n 1, 1) := by decide +kernel
theorem d4_19 : decode prog_11_method_14_code 19 = .ok (.baload, 1) := by decide +kernel
theorem d4_20 : decode prog_11_method_14_code 20 = .ok (.invokestatic 189, 3) := by decide +kernel
theorem d4_23 : decode prog_11_method_14_code 23 = .ok (.ifCond .eq 9, 3) := by decide +kernel
theorem d4_32 : decode prog_11_method_14_code 32 = .ok (.aload_n 0, 1) := by decide +kernel
theorem d4_33 : decode prog_11_method_14_code 33 = .ok (.iload_n 1, 1) := by decide +kernel
theorem d4_34 : decode prog_11_method_14_code 34 = .ok (.putfield 15, 3) := by decide +kernel
theorem d4_37 : decode prog_11_method_14_code 37 = .ok (.iload_n 1, 1) := by decide +kernel
theorem d4_38 : decode prog_11_method_14_code 38 = .ok (.aload_n 0, 1) := by decide +kernel
theorem d4_39 : decode prog_11_method_14_code 39 = .ok (.getfield 9, 3) := by decide +kernel
theorem d4_42 : decode prog_11_method_14_code 42 = .ok (.arraylength, 1) := by decide +kernel
theorem d4_43 : decode prog_11_method_14_code 43 = .ok (.if_icmp .ge 16, 3) := by decide +kernel
theorem d4_46 : decode prog_11_method_14_code 46 = .ok (.aload_n 0, 1) := by decide +kernel
theorem d4_47 : decode prog_11_method_14_code 47 = .ok (.getfield 9, 3) := by decide +kernel
theorem d4_50 : decode prog_11_method_14_code 50 = .ok (.iload_n 1, 1) := by decide +kernel
theorem d4_51 : decode prog_11_method_14_code 51 = .ok (.baload, 1) := by decide +kernel
theorem d4_52 : decode prog_11_method_14_code 52 = .ok (.sipush 255, 3) := by decide +kernel
theorem d4_55 : decode prog_11_method_14_code 55 = .ok (.iand, 1) := by decide +kernel
theorem d4_56 : decode prog_11_method_14_code 56 = .ok (.goto 4, 3) := by decide +kernel
theorem d4_60 : decode prog_11_method_14_code 60 = .ok (.ireturn, 1) := by decide +kernel
theorem ef_rmSw_0_n (m : MethodId) (a0 : Addr) : entryFrame m #[(.ref a0)] 2 = mkF m 0 #[.val (.ref a0), .unset] [] := by first | (simp [entryFrame, mkF, argsToLocals, Value.category]; done) | rfl
def Q_rmSw_0_n (Z : State) (a0 : Addr) (ba : Addr) (md : Int32) (dp : Int32) (fi : Int32) (ts : Int32) (xs : Int32) (xe : Int32) (es : Int32) (as_ : Int32) (ig : Int32) (k_ba : ClassId) (h0 : Heap) (n0 : Nat) (v : Option Value) (h : Heap) (L : List Loc) : Prop := v = some (.int (91 : Int32)) ∧ Fr n0 L ∧ Keep h0 h [a0] ∧ Exa Z h a0 cs0 ∧ Fld Z h a0 cs0 "bytes" "[B" (.ref ba) ∧ Fld Z h a0 cs0 "maxDepth" "I" (.int md) ∧ Fld Z h a0 cs0 "position" "I" (.int (0 : Int32)) ∧ Fld Z h a0 cs0 "depth" "I" (.int dp) ∧ Fld Z h a0 cs0 "first" "Z" (.int fi) ∧ Fld Z h a0 cs0 "token" "Lcom/example/bad_status/badstatus/model/JsonReader$Token;" .null ∧ Fld Z h a0 cs0 "tokenStart" "I" (.int ts) ∧ Fld Z h a0 cs0 "textStart" "I" (.int xs) ∧ Fld Z h a0 cs0 "textEnd" "I" (.int xe) ∧ Fld Z h a0 cs0 "escaped" "Z" (.int es) ∧ Fld Z h a0 cs0 "ascii" "Z" (.int as_) ∧ Fld Z h a0 cs0 "integral" "Z" (.int ig)
set_option maxRecDepth 65536 in
set_option maxHeartbeats 40000000 in
theorem rmSw_0_n (l : Launch) (Z : State) (av0 : Array Value) (hw : ∀ d ∈ tables_1, d.before av0 Z = true) (ws : List Jvm.Cond) (a0 : Addr) (ba : Addr) (md : Int32) (dp : Int32) (fi : Int32) (ts : Int32) (xs : Int32) (xe : Int32) (es : Int32) (as_ : Int32) (ig : Int32) (k_ba : ClassId) (h0 : Heap) (n0 : Nat) (Z0 : n0 ≤ h0.size) (E_a0 : Exa Z h0 a0 cs0) (F_bytes_a0 : Fld Z h0 a0 cs0 "bytes" "[B" (.ref ba)) (F_maxDepth_a0 : Fld Z h0 a0 cs0 "maxDepth" "I" (.int md)) (F_position_a0 : Fld Z h0 a0 cs0 "position" "I" (.int (0 : Int32))) (F_depth_a0 : Fld Z h0 a0 cs0 "depth" "I" (.int dp)) (F_first_a0 : Fld Z h0 a0 cs0 "first" "Z" (.int fi)) (F_token_a0 : Fld Z h0 a0 cs0 "token" "Lcom/example/bad_status/badstatus/model/JsonReader$Token;" .null) (F_tokenStart_a0 : Fld Z h0 a0 cs0 "tokenStart" "I" (.int ts)) (F_textStart_a0 : Fld Z h0 a0 cs0 "textStart" "I" (.int xs)) (F_textEnd_a0 : Fld Z h0 a0 cs0 "textEnd" "I" (.int xe)) (F_escaped_a0 : Fld Z h0 a0 cs0 "escaped" "Z" (.int es)) (F_ascii_a0 : Fld Z h0 a0 cs0 "ascii" "Z" (.int as_)) (F_integral_a0 : Fld Z h0 a0 cs0 "integral" "Z" (.int ig)) (g_a0 : n0 ≤ a0) (V_ba : Arv Z h0 ba k_ba .byte (10 : Int32) [(.int (91 : Int32)), (.int (32 : Int32)), (.int (52 : Int32)), (.int (50 : Int32)), (.int (44 : Int32)), (.int (91 : Int32)), (.int (116 : Int32)), (.int (114 : Int32)), (.int (117 : Int32)), (.int (101 : Int32))] (.int (0 : Int32))) (ne_ba_a0 : ba ≠ a0) :
    MetFree l (⟨cs0, "skipWhitespace", "()I"⟩ : MethodName) (head1 (Jvm.Cond.code (⟨cs0, "skipWhitespace", "()I"⟩ : MethodName) prog_11_method_14_code 2 (some .int) :: ws) ({ frames := 1, cells := 0, slots := 0, locals := 12 } : Room)) (fun a U => a = #[(.ref a0)] ∧ Z.Warmed39 U.vm ∧ U.heap = h0) (fun _ _ _ _ _ => True) (fun _ U o U' => ∃ v L, o = .returned v ∧ Q_rmSw_0_n Z a0 ba md dp fi ts xs xe es as_ ig k_ba h0 n0 v U'.heap L ∧ FrameEnd U o U' L ({ frames := 1, cells := 0, slots := 0, locals := 12 } : Room).cells ({ frames := 1, cells := 0, slots := 0, locals := 12 } : Room).slots) := by
  refine MetFree.of_bodySF (plainFor_of_name pn_0) hisR ?_
  intro p e s m args below meth c s₁ Bd hml0 hP hK
  obtain ⟨rfl, hZ, hh⟩ := hP
  have hx := Bd.exec
  have hby := Bd.bytes
  have hml : c.maxLocals = 2 := hml0
  have dd : ∀ {pc : Nat} {r : Except DecodeError (Instr × Nat)}, decode prog_11_method_14_code pc = r → decode c.code pc = r := fun q => hb hby q
  have hown : s.vm.findClass cs0 = some m.cls := findClass_of_methodNamed Bd.named
  have hnm := (name_of_methodNamed Bd.named Bd.method).1
  have X0 : Stand p l e ({ frames := 1, cells := 0, slots := 0, locals := 12 } : Room) s m #[(.ref a0)] below meth c s₁ [] 0 0 := Stand.of_body Bd
  have e0 : s₁.heap = h0 := by rw [← hh, Bd.state]; rfl
  have N0 := Fr.nil n0
  have hret := Bd.returns
  have hlk := Bd.notSynchronized
  show Gz p e below s ({ frames := 1, cells := 0, slots := 0, locals := 12 } : Room).cells ({ frames := 1, cells := 0, slots := 0, locals := 12 } : Room).slots (Q_rmSw_0_n Z a0 ba md dp fi ts xs xe es as_ ig k_ba h0 n0) (s₁.setTop (entryFrame m #[(.ref a0)] 2))
  refine Gz.enter (ef_rmSw_0_n m a0) ?_
  refine Gz.aloadN 1 X0 hx (dd d4_0) rfl rfl rfl ?_
  refine Gz.getF 4 X0 hx hZ hown (dd d4_1) (host := "") (Or.inl (ww hw 24 rfl)) Via.refl e0 F_position_a0 rfl fun T1 X1 e1 => ?_
  refine Gz.istoreN 5 #[.val (.ref a0), .val (.int (0 : Int32))] X1 hx (dd d4_4) rfl rfl ?_
  refine Gz.iloadN 6 X1 hx (dd d4_5) rfl rfl ?_
  refine Gz.aloadN 7 X1 hx (dd d4_6) rfl rfl rfl ?_
  refine Gz.getF 10 X1 hx hZ hown (dd d4_7) (host := "") (Or.inl (ww hw 22 rfl)) Via.refl e1 F_bytes_a0 rfl fun T2 X2 e2 => ?_
  obtain ⟨c3, A3, -, S3, N3, -, -⟩ := id V_ba
  refine Gz.alen 11 X2 hx hZ (dd d4_10) e2 A3 S3 N3 rfl ?_
  refine Gz.icmpNo 14 X2 hx (dd d4_11) (tlt (by decide : (0 : Int32) < (10 : Int32))).2.1 rfl ?_
  refine Gz.aloadN 15 X2 hx (dd d4_14) rfl rfl rfl ?_
  refine Gz.getF 18 X2 hx hZ hown (dd d4_15) (host := "") (Or.inl (ww hw 22 rfl)) Via.refl e2 F_bytes_a0 rfl fun T4 X4 e4 => ?_
  refine Gz.iloadN 19 X4 hx (dd d4_18) rfl rfl ?_
  obtain ⟨c5, A5, q5, S5, N5, H5, G5⟩ := id V_ba
  have hin5 : ¬ ((0 : Int32) < 0 ∨ c5.slots.size ≤ ((0 : Int32)).toNatClampNeg) := inb_of S5 ⟨by decide, by decide⟩
  refine Gz.ldB 20 X4 hx hZ (dd d4_19) e4 A5 hin5 (Has.at H5 hin5 (rfl : _ = ((.int (91 : Int32)) : Value))) rfl ?_
  obtain ⟨_, _, ⟨T6, L6, k6, n6⟩, -, X6, ⟨Lc6, hQ6, l6, y6, z6⟩, st6⟩ := Jvm.LawKit.callS X4 hx (y := ym6) hown (mvT hZ (ww hw 37 rfl)) (mvT hZ (ww hw 38 rfl)) (mvT hZ (ww hw 15 rfl)) (mvT hZ (ww hw 39 rfl)) (by decide) (backOf (W := 0) (rm5 l Z av0 hw [] (91 : Int32)  h0 n0 Z0 ) hZ (ww hw 39 rfl) (ww hw 15 rfl) (by decide) (by decide)) (g := (mkF m 20 #[.val (.ref a0), .val (.int (0 : Int32))] [(.int (91 : Int32))])) rfl (by rw [hml]; rfl) (argsL := [(.int (91 : Int32))]) (rest := []) (lenOf pd_6 rfl) rfl (Nat.le_refl _) (dd d4_20) (fun _ _ => ⟨rfl, e4, (by decide : 0 + 0 ≤ _), (by decide : 0 + 0 ≤ _)⟩)
  dsimp only [Pt.U, Pt.locs, Pt.cells, Pt.slots, Q_rm5] at X6 l6 y6 z6 st6 hQ6
  subst l6 y6 z6
  rw [show (fWs (91 : Int32)) = (0 : Int32) from (by unfold fWs; rw [if_pos (by decide : (32 : Int32) < (91 : Int32))]; try decide)] at hQ6
  obtain ⟨rfl, N6q, e6⟩ := hQ6
  have N6 := Fr.app N0 N6q
  refine Gz.st st6 ?_
  refine Gz.ifYes 32 X6 hx (dd d4_23) ((if0 _ _).trans (teq (by decide : (0 : Int32) = (0 : Int32))).1) (by decide) (by decide) ?_
  refine Gz.aloadN 33 X6 hx (dd d4_32) rfl rfl rfl ?_
  refine Gz.iloadN 34 X6 hx (dd d4_33) rfl rfl ?_
  refine Gz.putF 37 X6 hx hZ hown .int (dd d4_34) (host := "") (Or.inl (ww hw 24 rfl)) Via.refl e6 F_position_a0 E_a0 (Or.inl (ww hw 25 rfl)) (ww hw 14 rfl) (by decide) rfl rfl rfl fun T7 h7 X7 e7 W7 => ?_
  have f7_E_a0 := Exa.wr W7 E_a0
  have f7_F_bytes_a0 := Fld.other W7 F_bytes_a0 (Or.inr (Ne.symm <| sn1 hw))
  have f7_F_maxDepth_a0 := Fld.other W7 F_maxDepth_a0 (Or.inr (sn11 hw))
  have f7_F_depth_a0 := Fld.other W7 F_depth_a0 (Or.inr (sn12 hw))
  have f7_F_first_a0 := Fld.other W7 F_first_a0 (Or.inr (sn13 hw))
  have f7_F_token_a0 := Fld.other W7 F_token_a0 (Or.inr (sn14 hw))
  have f7_F_tokenStart_a0 := Fld.other W7 F_tokenStart_a0 (Or.inr (sn15 hw))
  have f7_F_textStart_a0 := Fld.other W7 F_textStart_a0 (Or.inr (sn16 hw))
  have f7_F_textEnd_a0 := Fld.other W7 F_textEnd_a0 (Or.inr (sn17 hw))
  have f7_F_escaped_a0 := Fld.other W7 F_escaped_a0 (Or.inr (sn18 hw))
  have f7_F_ascii_a0 := Fld.other W7 F_ascii_a0 (Or.inr (sn19 hw))
  have f7_F_integral_a0 := Fld.other W7 F_integral_a0 (Or.inr (sn20 hw))
  have f7_V_ba := Arv.other V_ba W7 ne_ba_a0
  have f7_F_position_a0 := Fld.same W7 F_position_a0
  have N7 := Fr.snoc X7 N6 g_a0
  have SZ7 : n0 ≤ h7.size := Nat.le_trans Z0 (Keep.of_wr W7).1
  have K7 := Keep.wr (Keep.refl h0 [a0]) W7 (Or.inl (List.mem_of_getElem? (i := 0) rfl))
  refine Gz.iloadN 38 X7 hx (dd d4_37) rfl rfl ?_
  refine Gz.aloadN 39 X7 hx (dd d4_38) rfl rfl rfl ?_
  refine Gz.getF 42 X7 hx hZ hown (dd d4_39) (host := "") (Or.inl (ww hw 22 rfl)) Via.refl e7 f7_F_bytes_a0 rfl fun T8 X8 e8 => ?_
  obtain ⟨c9, A9, -, S9, N9, -, -⟩ := id f7_V_ba
  refine Gz.alen 43 X8 hx hZ (dd d4_42) e8 A9 S9 N9 rfl ?_
  refine Gz.icmpNo 46 X8 hx (dd d4_43) (tlt (by decide : (0 : Int32) < (10 : Int32))).2.1 rfl ?_
  refine Gz.aloadN 47 X8 hx (dd d4_46) rfl rfl rfl ?_
  refine Gz.getF 50 X8 hx hZ hown (dd d4_47) (host := "") (Or.inl (ww hw 22 rfl)) Via.refl e8 f7_F_bytes_a0 rfl fun T10 X10 e10 => ?_
  refine Gz.iloadN 51 X10 hx (dd d4_50) rfl rfl ?_
  obtain ⟨c11, A11, q11, S11, N11, H11, G11⟩ := id f7_V_ba
  have hin11 : ¬ ((0 : Int32) < 0 ∨ c11.slots.size ≤ ((0 : Int32)).toNatClampNeg) := inb_of S11 ⟨by decide, by decide⟩
  refine Gz.ldB 52 X10 hx hZ (dd d4_51) e10 A11 hin11 (Has.at H11 hin11 (rfl : _ = ((.int (91 : Int32)) : Value))) rfl ?_
  refine Gz.sipush 55 (255 : Int32) X10 hx (dd d4_52) rfl rfl ?_
  refine Gz.iandV 56 (91 : Int32) X10 hx (dd d4_55) rfl rfl ?_
  refine Gz.goto 60 X10 hx (dd d4_56) (by decide) (by decide) ?_
  refine Gz.fin X10 (v := some (.int (91 : Int32))) (fun h => by rw [hret] at h; cases h) hlk (by decide) (by decide) (fun fs hr => retI X10 hx hret (dd d4_60) hr) ?_
  rw [e10]
  exact ⟨rfl, N7, K7, f7_E_a0, f7_F_bytes_a0, f7_F_maxDepth_a0, f7_F_position_a0, f7_F_depth_a0, f7_F_first_a0, f7_F_token_a0, f7_F_tokenStart_a0, f7_F_textStart_a0, f7_F_textEnd_a0, f7_F_escaped_a0, f7_F_ascii_a0, f7_F_integral_a0⟩
abbrev ym7 : MethodName := ⟨cs0, "skipWhitespace", "()I"⟩
abbrev ym8 : MethodName := ⟨cs0, "next", "()Lcom/example/bad_status/badstatus/model/JsonReader$Token;"⟩
theorem sn31 {Z : State} {av0 : Array Value} (hw : ∀ d ∈ tables_1, d.before av0 Z = true) : Jvm.RoadKit.slotOf Z cs0 "depth" "I" ≠ Jvm.RoadKit.slotOf Z cs0 "tokenStart" "I" := slot_ne (Or.inl (ww hw 48 rfl)) (Or.inl (ww hw 41 rfl)) (by decide) (t := .int) (t' := .int) (by decide) (by decide)
theorem sn32 {Z : State} {av0 : Array Value} (hw : ∀ d ∈ tables_1, d.before av0 Z = true) : Jvm.RoadKit.slotOf Z cs0 "first" "Z" ≠ Jvm.RoadKit.slotOf Z cs0 "tokenStart" "I" := slot_ne (Or.inl (ww hw 50 rfl)) (Or.inl (ww hw 41 rfl)) (by decide) (t := .boolean) (t' := .int) (by decide) (by decide)
theorem sn33 {Z : State} {av0 : Array Value} (hw : ∀ d ∈ tables_1, d.before av0 Z = true) : Jvm.RoadKit.slotOf Z cs0 "token" "Lcom/example/bad_status/badstatus/model/JsonReader$Token;" ≠ Jvm.RoadKit.slotOf Z cs0 "tokenStart" "I" := slot_ne (Or.inl (ww hw 52 rfl)) (Or.inl (ww hw 41 rfl)) (by decide) (t := (.object cs1)) (t' := .int) (by decide) (by decide)
theorem sn34 {Z : State} {av0 : Array Value} (hw : ∀ d ∈ tables_1, d.before av0 Z = true) : Jvm.RoadKit.slotOf Z cs0 "textStart" "I" ≠ Jvm.RoadKit.slotOf Z cs0 "tokenStart" "I" := slot_ne (Or.inl (ww hw 71 rfl)) (Or.inl (ww hw 41 rfl)) (by decide) (t := .int) (t' := .int) (by decide) (by decide)
theorem sn35 {Z : State} {av0 : Array Value} (hw : ∀ d ∈ tables_1, d.before av0 Z = true) : Jvm.RoadKit.slotOf Z cs0 "textEnd" "I" ≠ Jvm.RoadKit.slotOf Z cs0 "tokenStart" "I" := slot_ne (Or.inl (ww hw 73 rfl)) (Or.inl (ww hw 41 rfl)) (by decide) (t := .int) (t' := .int) (by decide) (by decide)
theorem sn36 {Z : State} {av0 : Array Value} (hw : ∀ d ∈ tables_1, d.before av0 Z = true) : Jvm.RoadKit.slotOf Z cs0 "escaped" "Z" ≠ Jvm.RoadKit.slotOf Z cs0 "tokenStart" "I" := slot_ne (Or.inl (ww hw 75 rfl)) (Or.inl (ww hw 41 rfl)) (by decide) (t := .boolean) (t' := .int) (by decide) (by decide)
theorem sn37 {Z : State} {av0 : Array Value} (hw : ∀ d ∈ tables_1, d.before av0 Z = true) : Jvm.RoadKit.slotOf Z cs0 "ascii" "Z" ≠ Jvm.RoadKit.slotOf Z cs0 "tokenStart" "I" := slot_ne (Or.inl (ww hw 77 rfl)) (Or.inl (ww hw 41 rfl)) (by decide) (t := .boolean) (t' := .int) (by decide) (by decide)
theorem sn38 {Z : State} {av0 : Array Value} (hw : ∀ d ∈ tables_1, d.before av0 Z = true) : Jvm.RoadKit.slotOf Z cs0 "integral" "Z" ≠ Jvm.RoadKit.slotOf Z cs0 "tokenStart" "I" := slot_ne (Or.inl (ww hw 79 rfl)) (Or.inl (ww hw 41 rfl)) (by decide) (t := .boolean) (t' := .int) (by decide) (by decide)
theorem sn39 {Z : State} {av0 : Array Value} (hw : ∀ d ∈ tables_1, d.before av0 Z = true) : Jvm.RoadKit.slotOf Z cs0 "first" "Z" ≠ Jvm.RoadKit.slotOf Z cs0 "depth" "I" := slot_ne (Or.inl (ww hw 50 rfl)) (Or.inl (ww hw 48 rfl)) (by decide) (t := .boolean) (t' := .int) (by decide) (by decide)
theorem sn40 {Z : State} {av0 : Array Value} (hw : ∀ d ∈ tables_1, d.before av0 Z = true) : Jvm.RoadKit.slotOf Z cs0 "token" "Lcom/example/bad_status/badstatus/model/JsonReader$Token;" ≠ Jvm.RoadKit.slotOf Z cs0 "depth" "I" := slot_ne (Or.inl (ww hw 52 rfl)) (Or.inl (ww hw 48 rfl)) (by decide) (t := (.object cs1)) (t' := .int) (by decide) (by decide)
theorem sn41 {Z : State} {av0 : Array Value} (hw : ∀ d ∈ tables_1, d.before av0 Z = true) : Jvm.RoadKit.slotOf Z cs0 "textStart" "I" ≠ Jvm.RoadKit.slotOf Z cs0 "depth" "I" := slot_ne (Or.inl (ww hw 71 rfl)) (Or.inl (ww hw 48 rfl)) (by decide) (t := .int) (t' := .int) (by decide) (by decide)
theorem sn42 {Z : State} {av0 : Array Value} (hw : ∀ d ∈ tables_1, d.before av0 Z = true) : Jvm.RoadKit.slotOf Z cs0 "textEnd" "I" ≠ Jvm.RoadKit.slotOf Z cs0 "depth" "I" := slot_ne (Or.inl (ww hw 73 rfl)) (Or.inl (ww hw 48 rfl)) (by decide) (t := .int) (t' := .int) (by decide) (by decide)
theorem sn43 {Z : State} {av0 : Array Value} (hw : ∀ d ∈ tables_1, d.before av0 Z = true) : Jvm.RoadKit.slotOf Z cs0 "escaped" "Z" ≠ Jvm.RoadKit.slotOf Z cs0 "depth" "I" := slot_ne (Or.inl (ww hw 75 rfl)) (Or.inl (ww hw 48 rfl)) (by decide) (t := .boolean) (t' := .int) (by decide) (by decide)
theorem sn44 {Z : State} {av0 : Array Value} (hw : ∀ d ∈ tables_1, d.before av0 Z = true) : Jvm.RoadKit.slotOf Z cs0 "ascii" "Z" ≠ Jvm.RoadKit.slotOf Z cs0 "depth" "I" := slot_ne (Or.inl (ww hw 77 rfl)) (Or.inl (ww hw 48 rfl)) (by decide) (t := .boolean) (t' := .int) (by decide) (by decide)
theorem sn45 {Z : State} {av0 : Array Value} (hw : ∀ d ∈ tables_1, d.before av0 Z = true) : Jvm.RoadKit.slotOf Z cs0 "integral" "Z" ≠ Jvm.RoadKit.slotOf Z cs0 "depth" "I" := slot_ne (Or.inl (ww hw 79 rfl)) (Or.inl (ww hw 48 rfl)) (by decide) (t := .boolean) (t' := .int) (by decide) (by decide)
theorem sn46 {Z : State} {av0 : Array Value} (hw : ∀ d ∈ tables_1, d.before av0 Z = true) : Jvm.RoadKit.slotOf Z cs0 "token" "Lcom/example/bad_status/badstatus/model/JsonReader$Token;" ≠ Jvm.RoadKit.slotOf Z cs0 "first" "Z" := slot_ne (Or.inl (ww hw 52 rfl)) (Or.inl (ww hw 50 rfl)) (by decide) (t := (.object cs1)) (t' := .boolean) (by decide) (by decide)
theorem sn47 {Z : State} {av0 : Array Value} (hw : ∀ d ∈ tables_1, d.before av0 Z = true) : Jvm.RoadKit.slotOf Z cs0 "textStart" "I" ≠ Jvm.RoadKit.slotOf Z cs0 "first" "Z" := slot_ne (Or.inl (ww hw 71 rfl)) (Or.inl (ww hw 50 rfl)) (by decide) (t := .int) (t' := .boolean) (by decide) (by decide)
theorem sn48 {Z : State} {av0 : Array Value} (hw : ∀ d ∈ tables_1, d.before av0 Z = true) : Jvm.RoadKit.slotOf Z cs0 "textEnd" "I" ≠ Jvm.RoadKit.slotOf Z cs0 "first" "Z" := slot_ne (Or.inl (ww hw 73 rfl)) (Or.inl (ww hw 50 rfl)) (by decide) (t := .int) (t' := .boolean) (by decide) (by decide)
theorem sn49 {Z : State} {av0 : Array Value} (hw : ∀ d ∈ tables_1, d.before av0 Z = true) : Jvm.RoadKit.slotOf Z cs0 "escaped" "Z" ≠ Jvm.RoadKit.slotOf Z cs0 "first" "Z" := slot_ne (Or.inl (ww hw 75 rfl)) (Or.inl (ww hw 50 rfl)) (by decide) (t := .boolean) (t' := .boolean) (by decide) (by decide)
theorem sn50 {Z : State} {av0 : Array Value} (hw : ∀ d ∈ tables_1, d.before av0 Z = true) : Jvm.RoadKit.slotOf Z cs0 "ascii" "Z" ≠ Jvm.RoadKit.slotOf Z cs0 "first" "Z" := slot_ne (Or.inl (ww hw 77 rfl)) (Or.inl (ww hw 50 rfl)) (by decide) (t := .boolean) (t' := .boolean) (by decide) (by decide)
theorem sn51 {Z : State} {av0 : Array Value} (hw : ∀ d ∈ tables_1, d.before av0 Z = true) : Jvm.RoadKit.slotOf Z cs0 "integral" "Z" ≠ Jvm.RoadKit.slotOf Z cs0 "first" "Z" := slot_ne (Or.inl (ww hw 79 rfl)) (Or.inl (ww hw 50 rfl)) (by decide) (t := .boolean) (t' := .boolean) (by decide) (by decide)
theorem d6_0 : decode prog_11_method_18_code 0 = .ok (.aload_n 0, 1) := by decide +kernel
theorem d6_1 : decode prog_11_method_18_code 1 = .ok (.getfield 115, 3) := by decide +kernel
theorem d6_4 : decode prog_11_method_18_code 4 = .ok (.aload_n 0, 1) := by decide +kernel
theorem d6_5 : decode prog_11_method_18_code 5 = .ok (.getfield 19, 3) := by decide +kernel
theorem d6_8 : decode prog_11_method_18_code 8 = .ok (.if_icmp .ne 16, 3) := by decide +kernel
theorem d6_24 : decode prog_11_method_18_code 24 = .ok (.aload_n 0, 1) := by decide +kernel
theorem d6_25 : decode prog_11_method_18_code 25 = .ok (.dup, 1) := by decide +kernel
theorem d6_26 : decode prog_11_method_18_code 26 = .ok (.getfield 115, 3) := by decide +kernel
theorem d6_29 : decode prog_11_method_18_code 29 = .ok (.iconst 1, 1) := by decide +kernel
theorem d6_30 : decode prog_11_method_18_code 30 = .ok (.iadd, 1) := by decide +kernel
theorem d6_31 : decode prog_11_method_18_code 31 = .ok (.putfield 115, 3) := by decide +kernel
theorem d6_34 : decode prog_11_method_18_code 34 = .ok (.aload_n 0, 1) := by decide +kernel
theorem d6_35 : decode prog_11_method_18_code 35 = .ok (.dup, 1) := by decide +kernel
theorem d6_36 : decode prog_11_method_18_code 36 = .ok (.getfield 15, 3) := by decide +kernel
theorem d6_39 : decode prog_11_method_18_code 39 = .ok (.iconst 1, 1) := by decide +kernel
theorem d6_40 : decode prog_11_method_18_code 40 = .ok (.iadd, 1) := by decide +kernel
theorem d6_41 : decode prog_11_method_18_code 41 = .ok (.putfield 15, 3) := by decide +kernel
theorem d6_44 : decode prog_11_method_18_code 44 = .ok (.aload_n 0, 1) := by decide +kernel
theorem d6_45 : decode prog_11_method_18_code 45 = .ok (.iconst 1, 1) := by decide +kernel
theorem d6_46 : decode prog_11_method_18_code 46 = .ok (.putfield 84, 3) := by decide +kernel
theorem d6_49 : decode prog_11_method_18_code 49 = .ok (.aload_n 1, 1) := by decide +kernel
theorem d6_50 : decode prog_11_method_18_code 50 = .ok (.areturn, 1) := by decide +kernel
theorem ef_rmOp_n (m : MethodId) (a0 : Addr) (a1 : Addr) : entryFrame m #[(.ref a0), (.ref a1)] 2 = mkF m 0 #[.val (.ref a0), .val (.ref a1)] [] := by first | (simp [entryFrame, mkF, argsToLocals, Value.category]; done) | rfl
def Q_rmOp_n (Z : State) (a0 : Addr) (a1 : Addr) (ba : Addr) (md : Int32) (ps : Int32) (dp : Int32) (fi : Int32) (ts : Int32) (xs : Int32) (xe : Int32) (es : Int32) (as_ : Int32) (ig : Int32) (k_ba : ClassId) (h0 : Heap) (n0 : Nat) (v : Option Value) (h : Heap) (L : List Loc) : Prop := v = some (.ref a1) ∧ Fr n0 L ∧ Keep h0 h [a0] ∧ Exa Z h a0 cs0 ∧ Fld Z h a0 cs0 "bytes" "[B" (.ref ba) ∧ Fld Z h a0 cs0 "maxDepth" "I" (.int md) ∧ Fld Z h a0 cs0 "position" "I" (.int (ps + (1 : Int32))) ∧ Fld Z h a0 cs0 "depth" "I" (.int (dp + (1 : Int32))) ∧ Fld Z h a0 cs0 "first" "Z" (.int (1 : Int32)) ∧ Fld Z h a0 cs0 "token" "Lcom/example/bad_status/badstatus/model/JsonReader$Token;" .null ∧ Fld Z h a0 cs0 "tokenStart" "I" (.int ts) ∧ Fld Z h a0 cs0 "textStart" "I" (.int xs) ∧ Fld Z h a0 cs0 "textEnd" "I" (.int xe) ∧ Fld Z h a0 cs0 "escaped" "Z" (.int es) ∧ Fld Z h a0 cs0 "ascii" "Z" (.int as_) ∧ Fld Z h a0 cs0 "integral" "Z" (.int ig)
set_option maxRecDepth 65536 in
set_option maxHeartbeats 40000000 in
theorem rmOp_n (l : Launch) (Z : State) (av0 : Array Value) (hw : ∀ d ∈ tables_1, d.before av0 Z = true) (ws : List Jvm.Cond) (a0 : Addr) (a1 : Addr) (ba : Addr) (md : Int32) (ps : Int32) (dp : Int32) (fi : Int32) (ts : Int32) (xs : Int32) (xe : Int32) (es : Int32) (as_ : Int32) (ig : Int32) (k_ba : ClassId) (h0 : Heap) (n0 : Nat) (Z0 : n0 ≤ h0.size) (E_a0 : Exa Z h0 a0 cs0) (F_bytes_a0 : Fld Z h0 a0 cs0 "bytes" "[B" (.ref ba)) (F_maxDepth_a0 : Fld Z h0 a0 cs0 "maxDepth" "I" (.int md)) (F_position_a0 : Fld Z h0 a0 cs0 "position" "I" (.int ps)) (F_depth_a0 : Fld Z h0 a0 cs0 "depth" "I" (.int dp)) (F_first_a0 : Fld Z h0 a0 cs0 "first" "Z" (.int fi)) (F_token_a0 : Fld Z h0 a0 cs0 "token" "Lcom/example/bad_status/badstatus/model/JsonReader$Token;" .null) (F_tokenStart_a0 : Fld Z h0 a0 cs0 "tokenStart" "I" (.int ts)) (F_textStart_a0 : Fld Z h0 a0 cs0 "textStart" "I" (.int xs)) (F_textEnd_a0 : Fld Z h0 a0 cs0 "textEnd" "I" (.int xe)) (F_escaped_a0 : Fld Z h0 a0 cs0 "escaped" "Z" (.int es)) (F_ascii_a0 : Fld Z h0 a0 cs0 "ascii" "Z" (.int as_)) (F_integral_a0 : Fld Z h0 a0 cs0 "integral" "Z" (.int ig)) (g_a0 : n0 ≤ a0) (V_ba : Arv Z h0 ba k_ba .byte (10 : Int32) [(.int (91 : Int32)), (.int (32 : Int32)), (.int (52 : Int32)), (.int (50 : Int32)), (.int (44 : Int32)), (.int (91 : Int32)), (.int (116 : Int32)), (.int (114 : Int32)), (.int (117 : Int32)), (.int (101 : Int32))] (.int (0 : Int32))) (ne_ba_a0 : ba ≠ a0) (hdm : ¬ (dp = md)) :
    MetFree l (⟨cs0, "open", "(Lcom/example/bad_status/badstatus/model/JsonReader$Token;)Lcom/example/bad_status/badstatus/model/JsonReader$Token;"⟩ : MethodName) (head1 (Jvm.Cond.code (⟨cs0, "open", "(Lcom/example/bad_status/badstatus/model/JsonReader$Token;)Lcom/example/bad_status/badstatus/model/JsonReader$Token;"⟩ : MethodName) prog_11_method_18_code 2 (some (.object cs1)) :: ws) ({ frames := 0, cells := 0, slots := 0, locals := 0 } : Room)) (fun a U => a = #[(.ref a0), (.ref a1)] ∧ Z.Warmed39 U.vm ∧ U.heap = h0) (fun _ _ _ _ _ => True) (fun _ U o U' => ∃ v L, o = .returned v ∧ Q_rmOp_n Z a0 a1 ba md ps dp fi ts xs xe es as_ ig k_ba h0 n0 v U'.heap L ∧ FrameEnd U o U' L ({ frames := 0, cells := 0, slots := 0, locals := 0 } : Room).cells ({ frames := 0, cells := 0, slots := 0, locals := 0 } : Room).slots) := by
  refine MetFree.of_bodySF (plainFor_of_name pn_0) hisR ?_
  intro p e s m args below meth c s₁ Bd hml0 hP hK
  obtain ⟨rfl, hZ, hh⟩ := hP
  have hx := Bd.exec
  have hby := Bd.bytes
  have hml : c.maxLocals = 2 := hml0
  have dd : ∀ {pc : Nat} {r : Except DecodeError (Instr × Nat)}, decode prog_11_method_18_code pc = r → decode c.code pc = r := fun q => hb hby q
  have hown : s.vm.findClass cs0 = some m.cls := findClass_of_methodNamed Bd.named
  have hnm := (name_of_methodNamed Bd.named Bd.method).1
  have X0 : Stand p l e ({ frames := 0, cells := 0, slots := 0, locals := 0 } : Room) s m #[(.ref a0), (.ref a1)] below meth c s₁ [] 0 0 := Stand.of_body Bd
  have e0 : s₁.heap = h0 := by rw [← hh, Bd.state]; rfl
  have N0 := Fr.nil n0
  have hret := Bd.returns
  have hlk := Bd.notSynchronized
  show Gz p e below s ({ frames := 0, cells := 0, slots := 0, locals := 0 } : Room).cells ({ frames := 0, cells := 0, slots := 0, locals := 0 } : Room).slots (Q_rmOp_n Z a0 a1 ba md ps dp fi ts xs xe es as_ ig k_ba h0 n0) (s₁.setTop (entryFrame m #[(.ref a0), (.ref a1)] 2))
  refine Gz.enter (ef_rmOp_n m a0 a1) ?_
  refine Gz.aloadN 1 X0 hx (dd d6_0) rfl rfl rfl ?_
  refine Gz.getF 4 X0 hx hZ hown (dd d6_1) (host := "") (Or.inl (ww hw 47 rfl)) Via.refl e0 F_depth_a0 rfl fun T1 X1 e1 => ?_
  refine Gz.aloadN 5 X1 hx (dd d6_4) rfl rfl rfl ?_
  refine Gz.getF 8 X1 hx hZ hown (dd d6_5) (host := "") (Or.inl (ww hw 26 rfl)) Via.refl e1 F_maxDepth_a0 rfl fun T2 X2 e2 => ?_
  refine Gz.icmpYes 24 X2 hx (dd d6_8) (feq (hdm : ¬ (dp = md))).2 (by decide) (by decide) ?_
  refine Gz.aloadN 25 X2 hx (dd d6_24) rfl rfl rfl ?_
  refine Gz.dup 26 X2 hx (dd d6_25) rfl rfl ?_
  refine Gz.getF 29 X2 hx hZ hown (dd d6_26) (host := "") (Or.inl (ww hw 47 rfl)) Via.refl e2 F_depth_a0 rfl fun T3 X3 e3 => ?_
  refine Gz.iconst 30 (1 : Int32) X3 hx (dd d6_29) rfl rfl ?_
  refine Gz.iadd 31 X3 hx (dd d6_30) rfl ?_
  refine Gz.putF 34 X3 hx hZ hown .int (dd d6_31) (host := "") (Or.inl (ww hw 47 rfl)) Via.refl e3 F_depth_a0 E_a0 (Or.inl (ww hw 48 rfl)) (ww hw 14 rfl) (by decide) rfl rfl rfl fun T4 h4 X4 e4 W4 => ?_
  have f4_E_a0 := Exa.wr W4 E_a0
  have f4_F_bytes_a0 := Fld.other W4 F_bytes_a0 (Or.inr (Ne.symm <| sn2 hw))
  have f4_F_maxDepth_a0 := Fld.other W4 F_maxDepth_a0 (Or.inr (Ne.symm <| sn21 hw))
  have f4_F_position_a0 := Fld.other W4 F_position_a0 (Or.inr (Ne.symm <| sn12 hw))
  have f4_F_first_a0 := Fld.other W4 F_first_a0 (Or.inr (sn39 hw))
  have f4_F_token_a0 := Fld.other W4 F_token_a0 (Or.inr (sn40 hw))
  have f4_F_tokenStart_a0 := Fld.other W4 F_tokenStart_a0 (Or.inr (Ne.symm <| sn31 hw))
  have f4_F_textStart_a0 := Fld.other W4 F_textStart_a0 (Or.inr (sn41 hw))
  have f4_F_textEnd_a0 := Fld.other W4 F_textEnd_a0 (Or.inr (sn42 hw))
  have f4_F_escaped_a0 := Fld.other W4 F_escaped_a0 (Or.inr (sn43 hw))
  have f4_F_ascii_a0 := Fld.other W4 F_ascii_a0 (Or.inr (sn44 hw))
  have f4_F_integral_a0 := Fld.other W4 F_integral_a0 (Or.inr (sn45 hw))
  have f4_V_ba := Arv.other V_ba W4 ne_ba_a0
  have f4_F_depth_a0 := Fld.same W4 F_depth_a0
  have N4 := Fr.snoc X4 N0 g_a0
  have SZ4 : n0 ≤ h4.size := Nat.le_trans Z0 (Keep.of_wr W4).1
  have K4 := Keep.wr (Keep.refl h0 [a0]) W4 (Or.inl (List.mem_of_getElem? (i := 0) rfl))
  refine Gz.aloadN 35 X4 hx (dd d6_34) rfl rfl rfl ?_
  refine Gz.dup 36 X4 hx (dd d6_35) rfl rfl ?_
  refine Gz.getF 39 X4 hx hZ hown (dd d6_36) (host := "") (Or.inl (ww hw 24 rfl)) Via.refl e4 f4_F_position_a0 rfl fun T5 X5 e5 => ?_
  refine Gz.iconst 40 (1 : Int32) X5 hx (dd d6_39) rfl rfl ?_
  refine Gz.iadd 41 X5 hx (dd d6_40) rfl ?_
  refine Gz.putF 44 X5 hx hZ hown .int (dd d6_41) (host := "") (Or.inl (ww hw 24 rfl)) Via.refl e5 f4_F_position_a0 f4_E_a0 (Or.inl (ww hw 25 rfl)) (ww hw 14 rfl) (by decide) rfl rfl rfl fun T6 h6 X6 e6 W6 => ?_
  have f6_E_a0 := Exa.wr W6 f4_E_a0
  have f6_F_bytes_a0 := Fld.other W6 f4_F_bytes_a0 (Or.inr (Ne.symm <| sn1 hw))
  have f6_F_maxDepth_a0 := Fld.other W6 f4_F_maxDepth_a0 (Or.inr (sn11 hw))
  have f6_F_depth_a0 := Fld.other W6 f4_F_depth_a0 (Or.inr (sn12 hw))
  have f6_F_first_a0 := Fld.other W6 f4_F_first_a0 (Or.inr (sn13 hw))
  have f6_F_token_a0 := Fld.other W6 f4_F_token_a0 (Or.inr (sn14 hw))
  have f6_F_tokenStart_a0 := Fld.other W6 f4_F_tokenStart_a0 (Or.inr (sn15 hw))
  have f6_F_textStart_a0 := Fld.other W6 f4_F_textStart_a0 (Or.inr (sn16 hw))
  have f6_F_textEnd_a0 := Fld.other W6 f4_F_textEnd_a0 (Or.inr (sn17 hw))
  have f6_F_escaped_a0 := Fld.other W6 f4_F_escaped_a0 (Or.inr (sn18 hw))
  have f6_F_ascii_a0 := Fld.other W6 f4_F_ascii_a0 (Or.inr (sn19 hw))
  have f6_F_integral_a0 := Fld.other W6 f4_F_integral_a0 (Or.inr (sn20 hw))
  have f6_V_ba := Arv.other f4_V_ba W6 ne_ba_a0
  have f6_F_position_a0 := Fld.same W6 f4_F_position_a0
  have N6 := Fr.snoc X6 N4 g_a0
  have SZ6 : n0 ≤ h6.size := Nat.le_trans SZ4 (Keep.of_wr W6).1
  have K6 := Keep.wr K4 W6 (Or.inl (List.mem_of_getElem? (i := 0) rfl))
  refine Gz.aloadN 45 X6 hx (dd d6_44) rfl rfl rfl ?_
  refine Gz.iconst 46 (1 : Int32) X6 hx (dd d6_45) rfl rfl ?_
  refine Gz.putF 49 X6 hx hZ hown .boolean (dd d6_46) (host := "") (Or.inl (ww hw 49 rfl)) Via.refl e6 f6_F_first_a0 f6_E_a0 (Or.inl (ww hw 50 rfl)) (ww hw 14 rfl) (by decide) rfl rfl rfl fun T7 h7 X7 e7 W7 => ?_
  have f7_E_a0 := Exa.wr W7 f6_E_a0
  have f7_F_bytes_a0 := Fld.other W7 f6_F_bytes_a0 (Or.inr (Ne.symm <| sn3 hw))
  have f7_F_maxDepth_a0 := Fld.other W7 f6_F_maxDepth_a0 (Or.inr (Ne.symm <| sn22 hw))
  have f7_F_position_a0 := Fld.other W7 f6_F_position_a0 (Or.inr (Ne.symm <| sn13 hw))
  have f7_F_depth_a0 := Fld.other W7 f6_F_depth_a0 (Or.inr (Ne.symm <| sn39 hw))
  have f7_F_token_a0 := Fld.other W7 f6_F_token_a0 (Or.inr (sn46 hw))
  have f7_F_tokenStart_a0 := Fld.other W7 f6_F_tokenStart_a0 (Or.inr (Ne.symm <| sn32 hw))
  have f7_F_textStart_a0 := Fld.other W7 f6_F_textStart_a0 (Or.inr (sn47 hw))
  have f7_F_textEnd_a0 := Fld.other W7 f6_F_textEnd_a0 (Or.inr (sn48 hw))
  have f7_F_escaped_a0 := Fld.other W7 f6_F_escaped_a0 (Or.inr (sn49 hw))
  have f7_F_ascii_a0 := Fld.other W7 f6_F_ascii_a0 (Or.inr (sn50 hw))
  have f7_F_integral_a0 := Fld.other W7 f6_F_integral_a0 (Or.inr (sn51 hw))
  have f7_V_ba := Arv.other f6_V_ba W7 ne_ba_a0
  have f7_F_first_a0 := Fld.same W7 f6_F_first_a0
  have N7 := Fr.snoc X7 N6 g_a0
  have SZ7 : n0 ≤ h7.size := Nat.le_trans SZ6 (Keep.of_wr W7).1
  have K7 := Keep.wr K6 W7 (Or.inl (List.mem_of_getElem? (i := 0) rfl))
  refine Gz.aloadN 50 X7 hx (dd d6_49) rfl rfl rfl ?_
  refine Gz.fin X7 (v := some (.ref a1)) (fun h => by rw [hret] at h; cases h) hlk (by decide) (by decide) (fun fs hr => retA X7 hx hret (dd d6_50) hr rfl rfl) ?_
  rw [e7]
  exact ⟨rfl, N7, K7, f7_E_a0, f7_F_bytes_a0, f7_F_maxDepth_a0, f7_F_position_a0, f7_F_depth_a0, f7_F_first_a0, f7_F_token_a0, f7_F_tokenStart_a0, f7_F_textStart_a0, f7_F_textEnd_a0, f7_F_escaped_a0, f7_F_ascii_a0, f7_F_integral_a0⟩
theorem pd_7 : parseMethodDescriptor "(Lcom/example/bad_status/badstatus/model/JsonReader$Token;)Lcom/example/bad_status/badstatus/model/JsonReader$Token;" = some ⟨[(.object cs1)], some (.object cs1)⟩ := by decide +kernel
abbrev ym9 : MethodName := ⟨cs0, "open", "(Lcom/example/bad_status/badstatus/model/JsonReader$Token;)Lcom/example/bad_status/badstatus/model/JsonReader$Token;"⟩
theorem sn52 {Z : State} {av0 : Array Value} (hw : ∀ d ∈ tables_1, d.before av0 Z = true) : Jvm.RoadKit.slotOf Z cs0 "textStart" "I" ≠ Jvm.RoadKit.slotOf Z cs0 "token" "Lcom/example/bad_status/badstatus/model/JsonReader$Token;" := slot_ne (Or.inl (ww hw 71 rfl)) (Or.inl (ww hw 52 rfl)) (by decide) (t := .int) (t' := (.object cs1)) (by decide) (by decide)
theorem sn53 {Z : State} {av0 : Array Value} (hw : ∀ d ∈ tables_1, d.before av0 Z = true) : Jvm.RoadKit.slotOf Z cs0 "textEnd" "I" ≠ Jvm.RoadKit.slotOf Z cs0 "token" "Lcom/example/bad_status/badstatus/model/JsonReader$Token;" := slot_ne (Or.inl (ww hw 73 rfl)) (Or.inl (ww hw 52 rfl)) (by decide) (t := .int) (t' := (.object cs1)) (by decide) (by decide)
theorem sn54 {Z : State} {av0 : Array Value} (hw : ∀ d ∈ tables_1, d.before av0 Z = true) : Jvm.RoadKit.slotOf Z cs0 "escaped" "Z" ≠ Jvm.RoadKit.slotOf Z cs0 "token" "Lcom/example/bad_status/badstatus/model/JsonReader$Token;" := slot_ne (Or.inl (ww hw 75 rfl)) (Or.inl (ww hw 52 rfl)) (by decide) (t := .boolean) (t' := (.object cs1)) (by decide) (by decide)
theorem sn55 {Z : State} {av0 : Array Value} (hw : ∀ d ∈ tables_1, d.before av0 Z = true) : Jvm.RoadKit.slotOf Z cs0 "ascii" "Z" ≠ Jvm.RoadKit.slotOf Z cs0 "token" "Lcom/example/bad_status/badstatus/model/JsonReader$Token;" := slot_ne (Or.inl (ww hw 77 rfl)) (Or.inl (ww hw 52 rfl)) (by decide) (t := .boolean) (t' := (.object cs1)) (by decide) (by decide)
theorem sn56 {Z : State} {av0 : Array Value} (hw : ∀ d ∈ tables_1, d.before av0 Z = true) : Jvm.RoadKit.slotOf Z cs0 "integral" "Z" ≠ Jvm.RoadKit.slotOf Z cs0 "token" "Lcom/example/bad_status/badstatus/model/JsonReader$Token;" := slot_ne (Or.inl (ww hw 79 rfl)) (Or.inl (ww hw 52 rfl)) (by decide) (t := .boolean) (t' := (.object cs1)) (by decide) (by decide)
theorem d3_0 : decode prog_11_method_2_code 0 = .ok (.aload_n 0, 1) := by decide +kernel
theorem d3_1 : decode prog_11_method_2_code 1 = .ok (.invokevirtual 22, 3) := by decide +kernel
theorem d3_4 : decode prog_11_method_2_code 4 = .ok (.istore_n 1, 1) := by decide +kernel
theorem d3_5 : decode prog_11_method_2_code 5 = .ok (.aload_n 0, 1) := by decide +kernel
theorem d3_6 : decode prog_11_method_2_code 6 = .ok (.aload_n 0, 1) := by decide +kernel
theorem d3_7 : decode prog_11_method_2_code 7 = .ok (.getfield 15, 3) := by decide +kernel
theorem d3_10 : decode prog_11_method_2_code 10 = .ok (.putfield 26, 3) := by decide +kernel
theorem d3_13 : decode prog_11_method_2_code 13 = .ok (.iload_n 1, 1) := by decide +kernel
theorem d3_14 : decode prog_11_method_2_code 14 = .ok (.lookupswitch 133 #[(34, 80), (91, 69), (102, 105), (110, 119), (116, 91), (123, 58)], 58) := by decide +kernel
theorem d3_83 : decode prog_11_method_2_code 83 = .ok (.aload_n 0, 1) := by decide +kernel
theorem d3_84 : decode prog_11_method_2_code 84 = .ok (.getstatic 39, 3) := by decide +kernel
theorem d3_87 : decode prog_11_method_2_code 87 = .ok (.invokevirtual 35, 3) := by decide +kernel
theorem d3_90 : decode prog_11_method_2_code 90 = .ok (.astore_n 2, 1) := by decide +kernel
theorem d3_91 : decode prog_11_method_2_code 91 = .ok (.goto 82, 3) := by decide +kernel
theorem d3_173 : decode prog_11_method_2_code 173 = .ok (.aload_n 0, 1) := by decide +kernel
theorem d3_174 : decode prog_11_method_2_code 174 = .ok (.aload_n 2, 1) := by decide +kernel
theorem d3_175 : decode prog_11_method_2_code 175 = .ok (.putfield 81, 3) := by decide +kernel
theorem d3_178 : decode prog_11_method_2_code 178 = .ok (.aload_n 2, 1) := by decide +kernel
theorem d3_179 : decode prog_11_method_2_code 179 = .ok (.areturn, 1) := by decide +kernel
theorem ef_rmNx_0_n (m : MethodId) (a0 : Addr) : entryFrame m #[(.ref a0)] 3 = mkF m 0 #[.val (.ref a0), .unset, .unset] [] := by first | (simp [entryFrame, mkF, argsToLocals, Value.category]; done) | rfl
def Q_rmNx_0_n (Z : State) (a0 : Addr) (ba : Addr) (md : Int32) (dp : Int32) (fi : Int32) (ts : Int32) (xs : Int32) (xe : Int32) (es : Int32) (as_ : Int32) (ig : Int32) (k_ba : ClassId) (s_ARRAY : Addr) (h0 : Heap) (n0 : Nat) (v : Option Value) (h : Heap) (L : List Loc) : Prop := v = some (.ref s_ARRAY) ∧ Fr n0 L ∧ Keep h0 h [a0] ∧ Exa Z h a0 cs0 ∧ Fld Z h a0 cs0 "bytes" "[B" (.ref ba) ∧ Fld Z h a0 cs0 "maxDepth" "I" (.int md) ∧ Fld Z h a0 cs0 "position" "I" (.int (1 : Int32)) ∧ Fld Z h a0 cs0 "depth" "I" (.int (dp + (1 : Int32))) ∧ Fld Z h a0 cs0 "first" "Z" (.int (1 : Int32)) ∧ Fld Z h a0 cs0 "token" "Lcom/example/bad_status/badstatus/model/JsonReader$Token;" (.ref s_ARRAY) ∧ Fld Z h a0 cs0 "tokenStart" "I" (.int (0 : Int32)) ∧ Fld Z h a0 cs0 "textStart" "I" (.int xs) ∧ Fld Z h a0 cs0 "textEnd" "I" (.int xe) ∧ Fld Z h a0 cs0 "escaped" "Z" (.int es) ∧ Fld Z h a0 cs0 "ascii" "Z" (.int as_) ∧ Fld Z h a0 cs0 "integral" "Z" (.int ig)
set_option maxRecDepth 65536 in
set_option maxHeartbeats 40000000 in
theorem rmNx_0_n (l : Launch) (Z : State) (av0 : Array Value) (hw : ∀ d ∈ tables_1, d.before av0 Z = true) (ws : List Jvm.Cond) (a0 : Addr) (ba : Addr) (md : Int32) (dp : Int32) (fi : Int32) (ts : Int32) (xs : Int32) (xe : Int32) (es : Int32) (as_ : Int32) (ig : Int32) (k_ba : ClassId) (s_ARRAY : Addr) (h0 : Heap) (n0 : Nat) (Z0 : n0 ≤ h0.size) (E_a0 : Exa Z h0 a0 cs0) (F_bytes_a0 : Fld Z h0 a0 cs0 "bytes" "[B" (.ref ba)) (F_maxDepth_a0 : Fld Z h0 a0 cs0 "maxDepth" "I" (.int md)) (F_position_a0 : Fld Z h0 a0 cs0 "position" "I" (.int (0 : Int32))) (F_depth_a0 : Fld Z h0 a0 cs0 "depth" "I" (.int dp)) (F_first_a0 : Fld Z h0 a0 cs0 "first" "Z" (.int fi)) (F_token_a0 : Fld Z h0 a0 cs0 "token" "Lcom/example/bad_status/badstatus/model/JsonReader$Token;" .null) (F_tokenStart_a0 : Fld Z h0 a0 cs0 "tokenStart" "I" (.int ts)) (F_textStart_a0 : Fld Z h0 a0 cs0 "textStart" "I" (.int xs)) (F_textEnd_a0 : Fld Z h0 a0 cs0 "textEnd" "I" (.int xe)) (F_escaped_a0 : Fld Z h0 a0 cs0 "escaped" "Z" (.int es)) (F_ascii_a0 : Fld Z h0 a0 cs0 "ascii" "Z" (.int as_)) (F_integral_a0 : Fld Z h0 a0 cs0 "integral" "Z" (.int ig)) (g_a0 : n0 ≤ a0) (V_ba : Arv Z h0 ba k_ba .byte (10 : Int32) [(.int (91 : Int32)), (.int (32 : Int32)), (.int (52 : Int32)), (.int (50 : Int32)), (.int (44 : Int32)), (.int (91 : Int32)), (.int (116 : Int32)), (.int (114 : Int32)), (.int (117 : Int32)), (.int (101 : Int32))] (.int (0 : Int32))) (ne_ba_a0 : ba ≠ a0) (S_s_ARRAY : Sta Z h0 cs1 "ARRAY" "Lcom/example/bad_status/badstatus/model/JsonReader$Token;" (.ref s_ARRAY)) (hdm : ¬ (dp = md)) :
    MetFree l (⟨cs0, "next", "()Lcom/example/bad_status/badstatus/model/JsonReader$Token;"⟩ : MethodName) (head1 (Jvm.Cond.code (⟨cs0, "next", "()Lcom/example/bad_status/badstatus/model/JsonReader$Token;"⟩ : MethodName) prog_11_method_2_code 3 (some (.object cs1)) :: ws) ({ frames := 2, cells := 0, slots := 0, locals := 25 } : Room)) (fun a U => a = #[(.ref a0)] ∧ Z.Warmed39 U.vm ∧ U.heap = h0) (fun _ _ _ _ _ => True) (fun _ U o U' => ∃ v L, o = .returned v ∧ Q_rmNx_0_n Z a0 ba md dp fi ts xs xe es as_ ig k_ba s_ARRAY h0 n0 v U'.heap L ∧ FrameEnd U o U' L ({ frames := 2, cells := 0, slots := 0, locals := 25 } : Room).cells ({ frames := 2, cells := 0, slots := 0, locals := 25 } : Room).slots) := by
  refine MetFree.of_bodySF (plainFor_of_name pn_0) hisR ?_
  intro p e s m args below meth c s₁ Bd hml0 hP hK
  obtain ⟨rfl, hZ, hh⟩ := hP
  have hx := Bd.exec
  have hby := Bd.bytes
  have hml : c.maxLocals = 3 := hml0
  have dd : ∀ {pc : Nat} {r : Except DecodeError (Instr × Nat)}, decode prog_11_method_2_code pc = r → decode c.code pc = r := fun q => hb hby q
  have hown : s.vm.findClass cs0 = some m.cls := findClass_of_methodNamed Bd.named
  have hnm := (name_of_methodNamed Bd.named Bd.method).1
  have X0 : Stand p l e ({ frames := 2, cells := 0, slots := 0, locals := 25 } : Room) s m #[(.ref a0)] below meth c s₁ [] 0 0 := Stand.of_body Bd
  have e0 : s₁.heap = h0 := by rw [← hh, Bd.state]; rfl
  have N0 := Fr.nil n0
  have hret := Bd.returns
  have hlk := Bd.notSynchronized
  show Gz p e below s ({ frames := 2, cells := 0, slots := 0, locals := 25 } : Room).cells ({ frames := 2, cells := 0, slots := 0, locals := 25 } : Room).slots (Q_rmNx_0_n Z a0 ba md dp fi ts xs xe es as_ ig k_ba s_ARRAY h0 n0) (s₁.setTop (entryFrame m #[(.ref a0)] 3))
  refine Gz.enter (ef_rmNx_0_n m a0) ?_
  refine Gz.aloadN 1 X0 hx (dd d3_0) rfl rfl rfl ?_
  obtain ⟨cq1, q1, q1'⟩ := E_a0.cell
  obtain ⟨_, _, ⟨T1, L1, k1, n1⟩, -, X1, ⟨Lc1, hQ1, l1, y1, z1⟩, st1⟩ := X0.privateBack hx (y := ym7) hown (mvT hZ (ww hw 33 rfl)) (mvT hZ (ww hw 34 rfl)) (own_selp (y := ym7) (y' := ym8) rfl (mvT hZ (ww hw 31 rfl)) (mvT hZ (ww hw 30 rfl)) (mvT hZ (ww hw 34 rfl)) (Cond.privateMethod_at (mvP hZ (ww hw 35 rfl) (args := #[]))) (by decide)) (Cond.privateMethod_at (mvP hZ (ww hw 35 rfl) (args := #[]))) (mvT hZ (ww hw 36 rfl)) (by decide) (backOf (W := 0) (rmSw_0_n l Z av0 hw [] a0 ba md dp fi ts xs xe es as_ ig k_ba h0 n0 Z0 E_a0 F_bytes_a0 F_maxDepth_a0 F_position_a0 F_depth_a0 F_first_a0 F_token_a0 F_tokenStart_a0 F_textStart_a0 F_textEnd_a0 F_escaped_a0 F_ascii_a0 F_integral_a0 g_a0 V_ba ne_ba_a0) hZ (ww hw 36 rfl) (ww hw 15 rfl) (by decide) (by decide)) (g := (mkF m 1 #[.val (.ref a0), .unset, .unset] [(.ref a0)])) rfl (by rw [hml]; rfl) (Steps.refl _) (a := a0) (by rw [e0]; exact q1) q1' (argsL := []) (rest := []) (lenOf pd_5 rfl) rfl (Nat.le_refl _) (dd d3_1) (fun _ _ => ⟨rfl, e0, (by decide : 0 + 0 ≤ _), (by decide : 0 + 0 ≤ _)⟩)
  dsimp only [Pt.U, Pt.locs, Pt.cells, Pt.slots, Q_rmSw_0_n] at X1 l1 y1 z1 st1 hQ1
  subst l1 y1 z1
  obtain ⟨rfl, N1q, K1q, QE1_0, QF1_0, QF1_1, QF1_2, QF1_3, QF1_4, QF1_5, QF1_6, QF1_7, QF1_8, QF1_9, QF1_10, QF1_11⟩ := hQ1
  have N1 := Fr.app N0 N1q
  have f1_E_a0 := Exa.keep E_a0 K1q
  have f1_V_ba := Arv.keep V_ba K1q (ninS ne_ba_a0 nin0)
  have f1_S_s_ARRAY := own_staK S_s_ARRAY K1q (allS (nst_of E_a0) all0)
  have SZ1 := Nat.le_trans Z0 K1q.1
  have K1 := Keep.trans (Keep.refl h0 [a0]) K1q (allS (Or.inl (List.mem_of_getElem? (i := 0) rfl)) all0)
  refine Gz.tr st1 ?_
  refine Gz.istoreN 5 #[.val (.ref a0), .val (.int (91 : Int32)), .unset] X1 hx (dd d3_4) rfl rfl ?_
  refine Gz.aloadN 6 X1 hx (dd d3_5) rfl rfl rfl ?_
  refine Gz.aloadN 7 X1 hx (dd d3_6) rfl rfl rfl ?_
  refine Gz.getF 10 X1 hx hZ hown (dd d3_7) (host := "") (Or.inl (ww hw 24 rfl)) Via.refl rfl QF1_2 rfl fun T2 X2 e2 => ?_
  refine Gz.putF 13 X2 hx hZ hown .int (dd d3_10) (host := "") (Or.inl (ww hw 40 rfl)) Via.refl e2 QF1_6 QE1_0 (Or.inl (ww hw 41 rfl)) (ww hw 14 rfl) (by decide) rfl rfl rfl fun T3 h3 X3 e3 W3 => ?_
  have f3_E_a0 := Exa.wr W3 QE1_0
  have f3_V_ba := Arv.other f1_V_ba W3 ne_ba_a0
  have f3_S_s_ARRAY := Sta.wr W3 f1_S_s_ARRAY
  have f3_F_bytes_a0 := Fld.other W3 QF1_0 (Or.inr (Ne.symm <| sn5 hw))
  have f3_F_maxDepth_a0 := Fld.other W3 QF1_1 (Or.inr (Ne.symm <| sn24 hw))
  have f3_F_position_a0 := Fld.other W3 QF1_2 (Or.inr (Ne.symm <| sn15 hw))
  have f3_F_depth_a0 := Fld.other W3 QF1_3 (Or.inr (sn31 hw))
  have f3_F_first_a0 := Fld.other W3 QF1_4 (Or.inr (sn32 hw))
  have f3_F_token_a0 := Fld.other W3 QF1_5 (Or.inr (sn33 hw))
  have f3_F_textStart_a0 := Fld.other W3 QF1_7 (Or.inr (sn34 hw))
  have f3_F_textEnd_a0 := Fld.other W3 QF1_8 (Or.inr (sn35 hw))
  have f3_F_escaped_a0 := Fld.other W3 QF1_9 (Or.inr (sn36 hw))
  have f3_F_ascii_a0 := Fld.other W3 QF1_10 (Or.inr (sn37 hw))
  have f3_F_integral_a0 := Fld.other W3 QF1_11 (Or.inr (sn38 hw))
  have f3_F_tokenStart_a0 := Fld.same W3 QF1_6
  have N3 := Fr.snoc X3 N1 g_a0
  have SZ3 : n0 ≤ h3.size := Nat.le_trans SZ1 (Keep.of_wr W3).1
  have K3 := Keep.wr K1 W3 (Or.inl (List.mem_of_getElem? (i := 0) rfl))
  refine Gz.iloadN 14 X3 hx (dd d3_13) rfl rfl ?_
  refine Gz.st (fun t k => X3.lookupswitchHit hx (g := (mkF m 14 #[.val (.ref a0), .val (.int (91 : Int32)), .unset] [(.int (91 : Int32))])) rfl (k := (91 : Int32)) (rest := []) rfl (dd d3_14) (by decide) (a := 91) (off := 69) (by decide) (by show (0 : Int) ≤ ((14 : Nat) : Int) + 69; decide) t k) ?_
  show Gz p e below s _ _ _ (T3.setTop (mkF m 83 #[.val (.ref a0), .val (.int (91 : Int32)), .unset] []))
  refine Gz.aloadN 84 X3 hx (dd d3_83) rfl rfl rfl ?_
  refine Gz.getS 87 X3 hx hZ hown (dd d3_84) (host := "") (Or.inl (ww hw 42 rfl)) Via.refl e3 f3_S_s_ARRAY rfl fun T4 X4 e4 => ?_
  obtain ⟨cq5, q5, q5'⟩ := f3_E_a0.cell
  obtain ⟨_, _, ⟨T5, L5, k5, n5⟩, -, X5, ⟨Lc5, hQ5, l5, y5, z5⟩, st5⟩ := X4.privateBack hx (y := ym9) hown (mvT hZ (ww hw 43 rfl)) (mvT hZ (ww hw 44 rfl)) (own_selp (y := ym9) (y' := ym8) rfl (mvT hZ (ww hw 31 rfl)) (mvT hZ (ww hw 30 rfl)) (mvT hZ (ww hw 44 rfl)) (Cond.privateMethod_at (mvP hZ (ww hw 45 rfl) (args := #[]))) (by decide)) (Cond.privateMethod_at (mvP hZ (ww hw 45 rfl) (args := #[]))) (mvT hZ (ww hw 46 rfl)) (by decide) (backOf (W := 0) (rmOp_n l Z av0 hw [] a0 s_ARRAY ba md (0 : Int32) dp fi (0 : Int32) xs xe es as_ ig k_ba h3 n0 SZ3 f3_E_a0 f3_F_bytes_a0 f3_F_maxDepth_a0 f3_F_position_a0 f3_F_depth_a0 f3_F_first_a0 f3_F_token_a0 f3_F_tokenStart_a0 f3_F_textStart_a0 f3_F_textEnd_a0 f3_F_escaped_a0 f3_F_ascii_a0 f3_F_integral_a0 g_a0 f3_V_ba ne_ba_a0 (hdm : ¬ (dp = md))) hZ (ww hw 46 rfl) (ww hw 15 rfl) (by decide) (by decide)) (g := (mkF m 87 #[.val (.ref a0), .val (.int (91 : Int32)), .unset] [(.ref s_ARRAY), (.ref a0)])) rfl (by rw [hml]; rfl) (Steps.refl _) (a := a0) (by rw [e4]; exact q5) q5' (argsL := [(.ref s_ARRAY)]) (rest := []) (lenOf pd_7 rfl) rfl (Nat.le_refl _) (dd d3_87) (fun _ _ => ⟨rfl, e4, (by decide : 0 + 0 ≤ _), (by decide : 0 + 0 ≤ _)⟩)
  dsimp only [Pt.U, Pt.locs, Pt.cells, Pt.slots, Q_rmOp_n] at X5 l5 y5 z5 st5 hQ5
  subst l5 y5 z5
  obtain ⟨rfl, N5q, K5q, QE5_0, QF5_0, QF5_1, QF5_2, QF5_3, QF5_4, QF5_5, QF5_6, QF5_7, QF5_8, QF5_9, QF5_10, QF5_11⟩ := hQ5
  have N5 := Fr.app N3 N5q
  have f5_E_a0 := Exa.keep f3_E_a0 K5q
  have f5_V_ba := Arv.keep f3_V_ba K5q (ninS ne_ba_a0 nin0)
  have f5_S_s_ARRAY := own_staK f3_S_s_ARRAY K5q (allS (nst_of f3_E_a0) all0)
  have SZ5 := Nat.le_trans SZ3 K5q.1
  have K5 := Keep.trans K3 K5q (allS (Or.inl (List.mem_of_getElem? (i := 0) rfl)) all0)
  replace QF5_2 : Fld Z T5.heap a0 cs0 "position" "I" (.int (1 : Int32)) := QF5_2
  refine Gz.tr st5 ?_
  refine Gz.astoreN 91 #[.val (.ref a0), .val (.int (91 : Int32)), .val (.ref s_ARRAY)] X5 hx (dd d3_90) rfl rfl rfl ?_
  refine Gz.goto 173 X5 hx (dd d3_91) (by decide) (by decide) ?_
  refine Gz.aloadN 174 X5 hx (dd d3_173) rfl rfl rfl ?_
  refine Gz.aloadN 175 X5 hx (dd d3_174) rfl rfl rfl ?_
  refine Gz.putF 178 X5 hx hZ hown (.object cs1) (dd d3_175) (host := "") (Or.inl (ww hw 51 rfl)) Via.refl rfl QF5_5 QE5_0 (Or.inl (ww hw 52 rfl)) (ww hw 14 rfl) (by decide) rfl rfl rfl fun T6 h6 X6 e6 W6 => ?_
  have f6_E_a0 := Exa.wr W6 QE5_0
  have f6_V_ba := Arv.other f5_V_ba W6 ne_ba_a0
  have f6_S_s_ARRAY := Sta.wr W6 f5_S_s_ARRAY
  have f6_F_bytes_a0 := Fld.other W6 QF5_0 (Or.inr (Ne.symm <| sn4 hw))
  have f6_F_maxDepth_a0 := Fld.other W6 QF5_1 (Or.inr (Ne.symm <| sn23 hw))
  have f6_F_position_a0 := Fld.other W6 QF5_2 (Or.inr (Ne.symm <| sn14 hw))
  have f6_F_depth_a0 := Fld.other W6 QF5_3 (Or.inr (Ne.symm <| sn40 hw))
  have f6_F_first_a0 := Fld.other W6 QF5_4 (Or.inr (Ne.symm <| sn46 hw))
  have f6_F_tokenStart_a0 := Fld.other W6 QF5_6 (Or.inr (Ne.symm <| sn33 hw))
  have f6_F_textStart_a0 := Fld.other W6 QF5_7 (Or.inr (sn52 hw))
  have f6_F_textEnd_a0 := Fld.other W6 QF5_8 (Or.inr (sn53 hw))
  have f6_F_escaped_a0 := Fld.other W6 QF5_9 (Or.inr (sn54 hw))
  have f6_F_ascii_a0 := Fld.other W6 QF5_10 (Or.inr (sn55 hw))
  have f6_F_integral_a0 := Fld.other W6 QF5_11 (Or.inr (sn56 hw))
  have f6_F_token_a0 := Fld.same W6 QF5_5
  have N6 := Fr.snoc X6 N5 g_a0
  have SZ6 : n0 ≤ h6.size := Nat.le_trans SZ5 (Keep.of_wr W6).1
  have K6 := Keep.wr K5 W6 (Or.inl (List.mem_of_getElem? (i := 0) rfl))
  refine Gz.aloadN 179 X6 hx (dd d3_178) rfl rfl rfl ?_
  refine Gz.fin X6 (v := some (.ref s_ARRAY)) (fun h => by rw [hret] at h; cases h) hlk (by decide) (by decide) (fun fs hr => retA X6 hx hret (dd d3_179) hr rfl rfl) ?_
  rw [e6]
  exact ⟨rfl, N6, K6, f6_E_a0, f6_F_bytes_a0, f6_F_maxDepth_a0, f6_F_position_a0, f6_F_depth_a0, f6_F_first_a0, f6_F_token_a0, f6_F_tokenStart_a0, f6_F_textStart_a0, f6_F_textEnd_a0, f6_F_escaped_a0, f6_F_ascii_a0, f6_F_integral_a0⟩
theorem pd_8 : parseMethodDescriptor "()Lcom/example/bad_status/badstatus/model/JsonReader$Token;" = some ⟨[], some (.object cs1)⟩ := by decide +kernel
theorem d16_20 : decode prog_11_method_7_code 20 = .ok (.iconst 1, 1) := by decide +kernel
theorem d16_21 : decode prog_11_method_7_code 21 = .ok (.goto 4, 3) := by decide +kernel
theorem d16_38 : decode prog_11_method_7_code 38 = .ok (.aload_n 0, 1) := by decide +kernel
theorem d16_39 : decode prog_11_method_7_code 39 = .ok (.getfield 115, 3) := by decide +kernel
theorem d16_42 : decode prog_11_method_7_code 42 = .ok (.iconst 1, 1) := by decide +kernel
theorem d16_43 : decode prog_11_method_7_code 43 = .ok (.isub, 1) := by decide +kernel
theorem d16_44 : decode prog_11_method_7_code 44 = .ok (.goto 7, 3) := by decide +kernel
theorem ef_rmMk_a (m : MethodId) (a0 : Addr) : entryFrame m #[(.ref a0)] 2 = mkF m 0 #[.val (.ref a0), .unset] [] := by first | (simp [entryFrame, mkF, argsToLocals, Value.category]; done) | rfl
def Q_rmMk_a (Z : State) (a0 : Addr) (s_OBJECT : Addr) (s_ARRAY : Addr) (dp : Int32) (ts : Int32) (h0 : Heap) (n0 : Nat) (v : Option Value) (h : Heap) (L : List Loc) : Prop := ∃ rd : Addr, v = some (.ref rd) ∧ Fr n0 L ∧ Keep h0 h [] ∧ n0 ≤ rd ∧ h0.size ≤ rd ∧ Exa Z h rd cs2 ∧ Fld Z h rd cs2 "position" "I" (.int ts) ∧ Fld Z h rd cs2 "depth" "I" (.int (dp - (1 : Int32)))
set_option maxRecDepth 65536 in
set_option maxHeartbeats 40000000 in
theorem rmMk_a (l : Launch) (Z : State) (av0 : Array Value) (hw : ∀ d ∈ tables_1, d.before av0 Z = true) (ws : List Jvm.Cond) (a0 : Addr) (s_OBJECT : Addr) (s_ARRAY : Addr) (dp : Int32) (ts : Int32) (h0 : Heap) (n0 : Nat) (Z0 : n0 ≤ h0.size) (S_s_OBJECT : Sta Z h0 cs1 "OBJECT" "Lcom/example/bad_status/badstatus/model/JsonReader$Token;" (.ref s_OBJECT)) (S_s_ARRAY : Sta Z h0 cs1 "ARRAY" "Lcom/example/bad_status/badstatus/model/JsonReader$Token;" (.ref s_ARRAY)) (E_a0 : Exa Z h0 a0 cs0) (F_depth_a0 : Fld Z h0 a0 cs0 "depth" "I" (.int dp)) (F_token_a0 : Fld Z h0 a0 cs0 "token" "Lcom/example/bad_status/badstatus/model/JsonReader$Token;" (.ref s_ARRAY)) (F_tokenStart_a0 : Fld Z h0 a0 cs0 "tokenStart" "I" (.int ts)) (ne_s_OBJECT_s_ARRAY : s_OBJECT ≠ s_ARRAY) :
    MetFree l (⟨cs0, "mark", "()Lcom/example/bad_status/badstatus/model/JsonReader$Mark;"⟩ : MethodName) (head1 (Jvm.Cond.code (⟨cs0, "mark", "()Lcom/example/bad_status/badstatus/model/JsonReader$Mark;"⟩ : MethodName) prog_11_method_7_code 2 (some (.object cs2)) :: ws) ({ frames := 3, cells := 1, slots := 2, locals := 39 } : Room)) (fun a U => a = #[(.ref a0)] ∧ Z.Warmed39 U.vm ∧ U.heap = h0) (fun _ _ _ _ _ => True) (fun _ U o U' => ∃ v L, o = .returned v ∧ Q_rmMk_a Z a0 s_OBJECT s_ARRAY dp ts h0 n0 v U'.heap L ∧ FrameEnd U o U' L ({ frames := 3, cells := 1, slots := 2, locals := 39 } : Room).cells ({ frames := 3, cells := 1, slots := 2, locals := 39 } : Room).slots) := by
  refine MetFree.of_bodySF (plainFor_of_name pn_0) hisR ?_
  intro p e s m args below meth c s₁ Bd hml0 hP hK
  obtain ⟨rfl, hZ, hh⟩ := hP
  have hx := Bd.exec
  have hby := Bd.bytes
  have hml : c.maxLocals = 2 := hml0
  have dd : ∀ {pc : Nat} {r : Except DecodeError (Instr × Nat)}, decode prog_11_method_7_code pc = r → decode c.code pc = r := fun q => hb hby q
  have hown : s.vm.findClass cs0 = some m.cls := findClass_of_methodNamed Bd.named
  have hnm := (name_of_methodNamed Bd.named Bd.method).1
  have X0 : Stand p l e ({ frames := 3, cells := 1, slots := 2, locals := 39 } : Room) s m #[(.ref a0)] below meth c s₁ [] 0 0 := Stand.of_body Bd
  have e0 : s₁.heap = h0 := by rw [← hh, Bd.state]; rfl
  have N0 := Fr.nil n0
  have hret := Bd.returns
  have hlk := Bd.notSynchronized
  show Gz p e below s ({ frames := 3, cells := 1, slots := 2, locals := 39 } : Room).cells ({ frames := 3, cells := 1, slots := 2, locals := 39 } : Room).slots (Q_rmMk_a Z a0 s_OBJECT s_ARRAY dp ts h0 n0) (s₁.setTop (entryFrame m #[(.ref a0)] 2))
  refine Gz.enter (ef_rmMk_a m a0) ?_
  refine Gz.aloadN 1 X0 hx (dd d16_0) rfl rfl rfl ?_
  refine Gz.getF 4 X0 hx hZ hown (dd d16_1) (host := "") (Or.inl (ww hw 51 rfl)) Via.refl e0 F_token_a0 rfl fun T1 X1 e1 => ?_
  refine Gz.getS 7 X1 hx hZ hown (dd d16_4) (host := "") (Or.inl (ww hw 117 rfl)) Via.refl e1 S_s_OBJECT rfl fun T2 X2 e2 => ?_
  refine Gz.acmp 10 false X2 hx (dd d16_7) rfl rfl (decide_eq_false fun q => (Ne.symm ne_s_OBJECT_s_ARRAY) (Value.ref.inj q)) (by decide) (by decide) ?_
  refine Gz.aloadN 11 X2 hx (dd d16_10) rfl rfl rfl ?_
  refine Gz.getF 14 X2 hx hZ hown (dd d16_11) (host := "") (Or.inl (ww hw 51 rfl)) Via.refl e2 F_token_a0 rfl fun T3 X3 e3 => ?_
  refine Gz.getS 17 X3 hx hZ hown (dd d16_14) (host := "") (Or.inl (ww hw 42 rfl)) Via.refl e3 S_s_ARRAY rfl fun T4 X4 e4 => ?_
  refine Gz.acmp 20 true X4 hx (dd d16_17) rfl rfl (decide_eq_true rfl) (by decide) (by decide) ?_
  refine Gz.iconst 21 (1 : Int32) X4 hx (dd d16_20) rfl rfl ?_
  refine Gz.goto 25 X4 hx (dd d16_21) (by decide) (by decide) ?_
  refine Gz.istoreN 26 #[.val (.ref a0), .val (.int (1 : Int32))] X4 hx (dd d16_25) rfl rfl ?_
  obtain ⟨T5, h5, X5, e5, E5, A5, D5, -, st5⟩ := newO X4 hx hZ hown (ww hw 119 rfl) (ww hw 82 rfl) (ww hw 83 rfl) e4 (g := (mkF m 26 #[.val (.ref a0), .val (.int (1 : Int32))] [])) rfl (dd d16_26) (by decide) (by decide)
  obtain ⟨b5, g5⟩ : ∃ z, z = h0.size := ⟨_, rfl⟩
  rw [← g5] at A5 D5 st5
  have ne_a0_b5 : a0 ≠ b5 := Nat.ne_of_lt (Nat.lt_of_lt_of_le (E_a0).lt (Nat.le_of_eq g5.symm))
  have g_b5 : n0 ≤ b5 := Nat.le_trans Z0 (Nat.le_of_eq g5.symm)
  have SZ5 : n0 ≤ h5.size := Nat.le_trans Z0 E5.1
  have sz_b5 : h0.size ≤ b5 := Nat.le_trans (Keep.refl h0 []).1 (Nat.le_of_eq g5.symm)
  have K5 := Keep.ext (Keep.refl h0 []) E5
  have f5_S_s_OBJECT := Sta.ext E5 S_s_OBJECT
  have f5_S_s_ARRAY := Sta.ext E5 S_s_ARRAY
  have f5_E_a0 := Exa.ext E5 E_a0
  have f5_F_depth_a0 := Fld.ext E5 F_depth_a0
  have f5_F_token_a0 := Fld.ext E5 F_token_a0
  have f5_F_tokenStart_a0 := Fld.ext E5 F_tokenStart_a0
  have F_position_b5 : Fld Z h5 b5 cs2 "position" "I" (.int (0 : Int32)) := D5 (Or.inr (ww hw 94 rfl)) (ty := .int) (by decide)
  have F_depth_b5 : Fld Z h5 b5 cs2 "depth" "I" (.int (0 : Int32)) := D5 (Or.inr (ww hw 96 rfl)) (ty := .int) (by decide)
  refine Gz.st st5 ?_
  refine Gz.dup 30 X5 hx (dd d16_29) rfl rfl ?_
  refine Gz.aloadN 31 X5 hx (dd d16_30) rfl rfl rfl ?_
  refine Gz.getF 34 X5 hx hZ hown (dd d16_31) (host := "") (Or.inl (ww hw 40 rfl)) Via.refl e5 f5_F_tokenStart_a0 rfl fun T6 X6 e6 => ?_
  refine Gz.iloadN 35 X6 hx (dd d16_34) rfl rfl ?_
  refine Gz.ifNo 38 X6 hx (dd d16_35) ((if0 _ _).trans (feq (by decide : ¬ ((1 : Int32) = (0 : Int32)))).1) rfl ?_
  refine Gz.aloadN 39 X6 hx (dd d16_38) rfl rfl rfl ?_
  refine Gz.getF 42 X6 hx hZ hown (dd d16_39) (host := "") (Or.inl (ww hw 47 rfl)) Via.refl e6 f5_F_depth_a0 rfl fun T7 X7 e7 => ?_
  refine Gz.iconst 43 (1 : Int32) X7 hx (dd d16_42) rfl rfl ?_
  refine Gz.isub 44 X7 hx (dd d16_43) rfl ?_
  refine Gz.goto 51 X7 hx (dd d16_44) (by decide) (by decide) ?_
  obtain ⟨_, _, ⟨T8, L8, k8, n8⟩, -, X8, ⟨Lc8, hQ8, l8, y8, z8⟩, st8⟩ := X7.specialBack hx (y := ym3) rfl hown (mvT hZ (ww hw 120 rfl)) (mvT hZ (ww hw 85 rfl)) (mvT hZ (ww hw 86 rfl)) (by decide) (backOf (W := 1) (rm11 l Z av0 hw [] b5 ts (dp - (1 : Int32))  h5 n0 SZ5 A5 F_position_b5 F_depth_b5 g_b5) hZ (ww hw 86 rfl) (ww hw 83 rfl) (by decide) (by decide)) (g := (mkF m 51 #[.val (.ref a0), .val (.int (1 : Int32))] [(.int (dp - (1 : Int32))), (.int ts), (.ref b5), (.ref b5)])) rfl (by rw [hml]; rfl) (Steps.refl _) (a := b5) (argsL := [(.int ts), (.int (dp - (1 : Int32)))]) (rest := [(.ref b5)]) (lenOf pd_3 rfl) rfl (Nat.le_refl _) (dd d16_51) (fun _ _ => ⟨rfl, e7, (by decide : 1 + 0 ≤ _), (by decide : 2 + 0 ≤ _)⟩)
  dsimp only [Pt.U, Pt.locs, Pt.cells, Pt.slots, Q_rm11] at X8 l8 y8 z8 st8 hQ8
  subst l8 y8 z8
  obtain ⟨rfl, N8q, K8q, QE8_0, QF8_0, QF8_1⟩ := hQ8
  have N8 := Fr.app N0 N8q
  have f8_S_s_OBJECT := own_staK f5_S_s_OBJECT K8q (allS (nst_of A5) all0)
  have f8_S_s_ARRAY := own_staK f5_S_s_ARRAY K8q (allS (nst_of A5) all0)
  have f8_E_a0 := Exa.keep f5_E_a0 K8q
  have f8_F_depth_a0 := Fld.keep f5_F_depth_a0 K8q (ninS ne_a0_b5 nin0)
  have f8_F_token_a0 := Fld.keep f5_F_token_a0 K8q (ninS ne_a0_b5 nin0)
  have f8_F_tokenStart_a0 := Fld.keep f5_F_tokenStart_a0 K8q (ninS ne_a0_b5 nin0)
  have f8_Eb5 := Exa.keep A5 K8q
  have SZ8 := Nat.le_trans SZ5 K8q.1
  have K8 := Keep.trans K5 K8q (allS (Or.inr sz_b5) all0)
  refine Gz.tr st8 ?_
  refine Gz.fin X8 (v := some (.ref b5)) (fun h => by rw [hret] at h; cases h) hlk (by decide) (by decide) (fun fs hr => retA X8 hx hret (dd d16_54) hr rfl rfl) ?_
  exact ⟨b5, rfl, N8, K8, g_b5, sz_b5, QE8_0, QF8_0, QF8_1⟩
abbrev ym10 : MethodName := ⟨cs2, "position", "()I"⟩
def Q_law (n0 : Nat) (v : Option Value) (h : Heap) (L : List Loc) : Prop := v = some (.int 1) ∧ Fr n0 L
set_option maxRecDepth 65536 in
set_option maxHeartbeats 40000000 in
theorem sgC0 {p : Program} {l : Launch} {e : Env} {s : State} {m : MethodId} {args : Array Value} {below : List Frame} {meth : Method} {c : Code} {T0 : State} {locs : List Loc} {Z : State} {av0 : Array Value} {hS : Heap} (s0 : Slot) (dq : Int32) (s2 : Slot) (s3 : Slot) (s4 : Slot) (ast : Addr) (aks : Addr) (s8 : Slot) (s9 : Slot) (rd : Addr) (st_OBJECT : Addr) (st_ARRAY : Addr) (st_NUMBER : Addr) (st_TRUE : Addr) (tb : Addr) (k_tb : ClassId) (ba : Addr) (md : Int32) (fi : Int32) (ts : Int32) (xs : Int32) (xe : Int32) (es : Int32) (as_ : Int32) (ig : Int32) (k_ba : ClassId) (k_ast : ClassId) (k_aks : ClassId) (n0 : Nat)
    (X0 : Stand p l e room_1 s m args below meth c T0 locs 6 42) (hx : p.tables.exec = Jvm.exec) (hZ : Z.Warmed39 s.vm) (hw : ∀ d ∈ tables_1, d.before av0 Z = true) (hby : c.code = code) (hml : c.maxLocals = 15) (hown : s.vm.findClass "com/example/bad_status/badstatus/model/JsonReaderResetPinLaw" = some m.cls) (hret : meth.sig.returnType = some .boolean) (hlk : meth.locks = false) (e0 : T0.heap = hS) (N0 : Fr n0 locs) (Z0 : n0 ≤ hS.size) (S_st_OBJECT : Sta Z hS cs1 "OBJECT" "Lcom/example/bad_status/badstatus/model/JsonReader$Token;" (.ref st_OBJECT)) (S_st_ARRAY : Sta Z hS cs1 "ARRAY" "Lcom/example/bad_status/badstatus/model/JsonReader$Token;" (.ref st_ARRAY)) (S_st_NUMBER : Sta Z hS cs1 "NUMBER" "Lcom/example/bad_status/badstatus/model/JsonReader$Token;" (.ref st_NUMBER)) (S_st_TRUE : Sta Z hS cs1 "TRUE" "Lcom/example/bad_status/badstatus/model/JsonReader$Token;" (.ref st_TRUE)) (ne_st_OBJECT_st_ARRAY : st_OBJECT ≠ st_ARRAY) (ne_st_OBJECT_st_NUMBER : st_OBJECT ≠ st_NUMBER) (ne_st_OBJECT_st_TRUE : st_OBJECT ≠ st_TRUE) (ne_st_ARRAY_st_NUMBER : st_ARRAY ≠ st_NUMBER) (ne_st_ARRAY_st_TRUE : st_ARRAY ≠ st_TRUE) (S_tb : Sta Z hS cs0 "TRUE" "[B" (.ref tb)) (V_tb : Arv Z hS tb k_tb .byte (4 : Int32) [(.int (116 : Int32)), (.int (114 : Int32)), (.int (117 : Int32)), (.int (101 : Int32))] (.int (0 : Int32))) (E_rd : Exa Z hS rd cs0) (F_bytes_rd : Fld Z hS rd cs0 "bytes" "[B" (.ref ba)) (F_maxDepth_rd : Fld Z hS rd cs0 "maxDepth" "I" (.int md)) (F_position_rd : Fld Z hS rd cs0 "position" "I" (.int (0 : Int32))) (F_depth_rd : Fld Z hS rd cs0 "depth" "I" (.int dq)) (F_first_rd : Fld Z hS rd cs0 "first" "Z" (.int fi)) (F_token_rd : Fld Z hS rd cs0 "token" "Lcom/example/bad_status/badstatus/model/JsonReader$Token;" .null) (F_tokenStart_rd : Fld Z hS rd cs0 "tokenStart" "I" (.int ts)) (F_textStart_rd : Fld Z hS rd cs0 "textStart" "I" (.int xs)) (F_textEnd_rd : Fld Z hS rd cs0 "textEnd" "I" (.int xe)) (F_escaped_rd : Fld Z hS rd cs0 "escaped" "Z" (.int es)) (F_ascii_rd : Fld Z hS rd cs0 "ascii" "Z" (.int as_)) (F_integral_rd : Fld Z hS rd cs0 "integral" "Z" (.int ig)) (g_rd : n0 ≤ rd) (V_ba : Arv Z hS ba k_ba .byte (10 : Int32) [(.int (91 : Int32)), (.int (32 : Int32)), (.int (52 : Int32)), (.int (50 : Int32)), (.int (44 : Int32)), (.int (91 : Int32)), (.int (116 : Int32)), (.int (114 : Int32)), (.int (117 : Int32)), (.int (101 : Int32))] (.int (0 : Int32))) (ne_ba_rd : ba ≠ rd) (V_ast : Arv Z hS ast k_ast .int (6 : Int32) [(.int (0 : Int32)), (.int (2 : Int32)), (.int (2 : Int32)), (.int (3 : Int32)), (.int (5 : Int32)), (.int (6 : Int32))] (.int (0 : Int32))) (V_aks : Arv Z hS aks k_aks (.object cs1) (6 : Int32) [(.ref st_ARRAY), (.ref st_NUMBER), (.ref st_NUMBER), (.ref st_NUMBER), (.ref st_ARRAY), (.ref st_TRUE)] .null) (ne_ast_rd : ast ≠ rd) (ne_aks_rd : aks ≠ rd) (ne_tb_rd : tb ≠ rd) (hdm : ¬ (dq = md)) :
    Gz p e below s 24 192 (Q_law n0) (T0.setTop (mkF m 261 #[s0, .val (.int dq), s2, s3, s4, .val (.ref ast), .val (.ref aks), .val (.int (0 : Int32)), s8, s9, .val (.ref rd), .unset, .unset, .unset, .unset] [])) := by
  have dd : ∀ {pc : Nat} {r : Except DecodeError (Instr × Nat)}, decode code pc = r → decode c.code pc = r := fun q => hb hby q
  refine Gz.aload 263 X0 hx (dd at_261) rfl rfl rfl ?_
  obtain ⟨cq1, kq1, q1a, q1b, q1c⟩ := isOf hZ e0 E_rd
  obtain ⟨_, _, ⟨T1, L1, k1, n1⟩, -, X1, ⟨Lc1, hQ1, l1, y1, z1⟩, st1⟩ := X0.virtualBack hx (y := ym4) (z := ym4) hown (mvT hZ (ww hw 112 rfl)) (mvT hZ (ww hw 113 rfl)) (notFace_of_selects (args := #[]) (mvT hZ (ww hw 115 rfl))) (mvT hZ (ww hw 115 rfl)) (mvT hZ (ww hw 114 rfl)) (by decide) (backOf (W := 0) (rmMk_n l Z av0 hw [] rd st_OBJECT st_ARRAY dq ts hS n0 Z0 S_st_OBJECT S_st_ARRAY E_rd F_depth_rd F_token_rd F_tokenStart_rd) hZ (ww hw 116 rfl) (ww hw 15 rfl) (by decide) (by decide)) q1a q1c (g := (mkF m 263 #[s0, .val (.int dq), s2, s3, s4, .val (.ref ast), .val (.ref aks), .val (.int (0 : Int32)), s8, s9, .val (.ref rd), .unset, .unset, .unset, .unset] [(.ref rd)])) rfl (by rw [hml]; rfl) (Steps.refl _) (argsL := []) (rest := []) (lenOf pd_4 rfl) rfl (Nat.le_refl _) (dd at_263) (fun _ _ => ⟨rfl, e0, (by decide : 6 + 1 ≤ _), (by decide : 42 + 2 ≤ _)⟩)
  dsimp only [Pt.U, Pt.locs, Pt.cells, Pt.slots, Q_rmMk_n] at X1 l1 y1 z1 st1 hQ1
  subst l1 y1 z1
  obtain ⟨rd1, rfl, N1q, K1q, gr1, szr1, RE1, RP1, RD1⟩ := hQ1
  have N1 := Fr.app N0 N1q
  have ne_tb_rd1 : tb ≠ rd1 := Nat.ne_of_lt (Nat.lt_of_lt_of_le (V_tb).lt szr1)
  have ne_rd_rd1 : rd ≠ rd1 := Nat.ne_of_lt (Nat.lt_of_lt_of_le (F_integral_rd).lt szr1)
  have ne_ba_rd1 : ba ≠ rd1 := Nat.ne_of_lt (Nat.lt_of_lt_of_le (V_ba).lt szr1)
  have ne_ast_rd1 : ast ≠ rd1 := Nat.ne_of_lt (Nat.lt_of_lt_of_le (V_ast).lt szr1)
  have ne_aks_rd1 : aks ≠ rd1 := Nat.ne_of_lt (Nat.lt_of_lt_of_le (V_aks).lt szr1)
  have f1_S_st_OBJECT := own_staK S_st_OBJECT K1q all0
  have f1_S_st_ARRAY := own_staK S_st_ARRAY K1q all0
  have f1_S_st_NUMBER := own_staK S_st_NUMBER K1q all0
  have f1_S_st_TRUE := own_staK S_st_TRUE K1q all0
  have f1_S_tb := own_staK S_tb K1q all0
  have f1_V_tb := Arv.keep V_tb K1q nin0
  have f1_E_rd := Exa.keep E_rd K1q
  have f1_F_bytes_rd := Fld.keep F_bytes_rd K1q nin0
  have f1_F_maxDepth_rd := Fld.keep F_maxDepth_rd K1q nin0
  have f1_F_position_rd := Fld.keep F_position_rd K1q nin0
  have f1_F_depth_rd := Fld.keep F_depth_rd K1q nin0
  have f1_F_first_rd := Fld.keep F_first_rd K1q nin0
  have f1_F_token_rd := Fld.keep F_token_rd K1q nin0
  have f1_F_tokenStart_rd := Fld.keep F_tokenStart_rd K1q nin0
  have f1_F_textStart_rd := Fld.keep F_textStart_rd K1q nin0
  have f1_F_textEnd_rd := Fld.keep F_textEnd_rd K1q nin0
  have f1_F_escaped_rd := Fld.keep F_escaped_rd K1q nin0
  have f1_F_ascii_rd := Fld.keep F_ascii_rd K1q nin0
  have f1_F_integral_rd := Fld.keep F_integral_rd K1q nin0
  have f1_V_ba := Arv.keep V_ba K1q nin0
  have f1_V_ast := Arv.keep V_ast K1q nin0
  have f1_V_aks := Arv.keep V_aks K1q nin0
  have SZ1 := Nat.le_trans Z0 K1q.1
  refine Gz.tr st1 ?_
  refine Gz.astore 268 #[s0, .val (.int dq), s2, s3, s4, .val (.ref ast), .val (.ref aks), .val (.int (0 : Int32)), s8, s9, .val (.ref rd), .val (.ref rd1), .unset, .unset, .unset] X1 hx (dd at_266) rfl rfl rfl ?_
  refine Gz.aload 270 X1 hx (dd at_268) rfl rfl rfl ?_
  obtain ⟨cq2, kq2, q2a, q2b, q2c⟩ := isOf hZ rfl RE1
  obtain ⟨_, _, ⟨T2, L2, k2, n2⟩, -, X2, ⟨Lc2, hQ2, l2, y2, z2⟩, st2⟩ := X1.virtualBack hx (y := ym5) (z := ym5) hown (mvT hZ (ww hw 121 rfl)) (mvT hZ (ww hw 108 rfl)) (notFace_of_selects (args := #[]) (mvT hZ (ww hw 110 rfl))) (mvT hZ (ww hw 110 rfl)) (mvT hZ (ww hw 109 rfl)) (by decide) (backOf (W := 0) (rm15 l Z av0 hw [] rd1 dq T1.heap n0 SZ1 RD1) hZ (ww hw 111 rfl) (ww hw 83 rfl) (by decide) (by decide)) q2a q2c (g := (mkF m 270 #[s0, .val (.int dq), s2, s3, s4, .val (.ref ast), .val (.ref aks), .val (.int (0 : Int32)), s8, s9, .val (.ref rd), .val (.ref rd1), .unset, .unset, .unset] [(.ref rd1)])) rfl (by rw [hml]; rfl) (Steps.refl _) (argsL := []) (rest := []) (lenOf pd_5 rfl) rfl (Nat.le_refl _) (dd at_270) (fun _ _ => ⟨rfl, rfl, (by decide : 7 + 0 ≤ _), (by decide : 44 + 0 ≤ _)⟩)
  dsimp only [Pt.U, Pt.locs, Pt.cells, Pt.slots, Q_rm15] at X2 l2 y2 z2 st2 hQ2
  subst l2 y2 z2
  rw [show (fMd rd1 dq) = dq from (by unfold fMd; rfl)] at hQ2
  obtain ⟨rfl, N2q, e2⟩ := hQ2
  have N2 := Fr.app N1 N2q
  refine Gz.tr st2 ?_
  refine Gz.iloadN 274 X2 hx (dd at_273) rfl rfl ?_
  refine Gz.icmpNo 277 X2 hx (dd at_274) (teq (rfl : dq = dq)).2 rfl ?_
  refine Gz.iconst 278 (1 : Int32) X2 hx (dd at_277) rfl rfl ?_
  refine Gz.goto 282 X2 hx (dd at_278) (by decide) (by decide) ?_
  refine Gz.istore 284 #[s0, .val (.int dq), s2, s3, s4, .val (.ref ast), .val (.ref aks), .val (.int (0 : Int32)), s8, s9, .val (.ref rd), .val (.ref rd1), .val (.int (1 : Int32)), .unset, .unset] X2 hx (dd at_282) rfl rfl ?_
  refine Gz.aload 286 X2 hx (dd at_284) rfl rfl rfl ?_
  obtain ⟨cq3, kq3, q3a, q3b, q3c⟩ := isOf hZ e2 f1_E_rd
  obtain ⟨_, _, ⟨T3, L3, k3, n3⟩, -, X3, ⟨Lc3, hQ3, l3, y3, z3⟩, st3⟩ := X2.virtualBack hx (y := ym8) (z := ym8) hown (mvT hZ (ww hw 28 rfl)) (mvT hZ (ww hw 29 rfl)) (notFace_of_selects (args := #[]) (mvT hZ (ww hw 31 rfl))) (mvT hZ (ww hw 31 rfl)) (mvT hZ (ww hw 30 rfl)) (by decide) (backOf (W := 0) (rmNx_0_n l Z av0 hw [] rd ba md dq fi ts xs xe es as_ ig k_ba st_ARRAY T1.heap n0 SZ1 f1_E_rd f1_F_bytes_rd f1_F_maxDepth_rd f1_F_position_rd f1_F_depth_rd f1_F_first_rd f1_F_token_rd f1_F_tokenStart_rd f1_F_textStart_rd f1_F_textEnd_rd f1_F_escaped_rd f1_F_ascii_rd f1_F_integral_rd g_rd f1_V_ba ne_ba_rd f1_S_st_ARRAY hdm) hZ (ww hw 32 rfl) (ww hw 15 rfl) (by decide) (by decide)) q3a q3c (g := (mkF m 286 #[s0, .val (.int dq), s2, s3, s4, .val (.ref ast), .val (.ref aks), .val (.int (0 : Int32)), s8, s9, .val (.ref rd), .val (.ref rd1), .val (.int (1 : Int32)), .unset, .unset] [(.ref rd)])) rfl (by rw [hml]; rfl) (Steps.refl _) (argsL := []) (rest := []) (lenOf pd_8 rfl) rfl (Nat.le_refl _) (dd at_286) (fun _ _ => ⟨rfl, e2, (by decide : 7 + 0 ≤ _), (by decide : 44 + 0 ≤ _)⟩)
  dsimp only [Pt.U, Pt.locs, Pt.cells, Pt.slots, Q_rmNx_0_n] at X3 l3 y3 z3 st3 hQ3
  subst l3 y3 z3
  obtain ⟨rfl, N3q, K3q, QE3_0, QF3_0, QF3_1, QF3_2, QF3_3, QF3_4, QF3_5, QF3_6, QF3_7, QF3_8, QF3_9, QF3_10, QF3_11⟩ := hQ3
  have N3 := Fr.app N2 N3q
  have f3_S_st_OBJECT := own_staK f1_S_st_OBJECT K3q (allS (nst_of f1_E_rd) all0)
  have f3_S_st_ARRAY := own_staK f1_S_st_ARRAY K3q (allS (nst_of f1_E_rd) all0)
  have f3_S_st_NUMBER := own_staK f1_S_st_NUMBER K3q (allS (nst_of f1_E_rd) all0)
  have f3_S_st_TRUE := own_staK f1_S_st_TRUE K3q (allS (nst_of f1_E_rd) all0)
  have f3_S_tb := own_staK f1_S_tb K3q (allS (nst_of f1_E_rd) all0)
  have f3_V_tb := Arv.keep f1_V_tb K3q (ninS ne_tb_rd nin0)
  have f3_E_rd := Exa.keep f1_E_rd K3q
  have f3_V_ba := Arv.keep f1_V_ba K3q (ninS ne_ba_rd nin0)
  have f3_V_ast := Arv.keep f1_V_ast K3q (ninS ne_ast_rd nin0)
  have f3_V_aks := Arv.keep f1_V_aks K3q (ninS ne_aks_rd nin0)
  have f3_E_rd1 := Exa.keep RE1 K3q
  have f3_F_position_rd1 := Fld.keep RP1 K3q (ninS (Ne.symm ne_rd_rd1) nin0)
  have f3_F_depth_rd1 := Fld.keep RD1 K3q (ninS (Ne.symm ne_rd_rd1) nin0)
  have SZ3 := Nat.le_trans SZ1 K3q.1
  refine Gz.tr st3 ?_
  refine Gz.astore 291 #[s0, .val (.int dq), s2, s3, s4, .val (.ref ast), .val (.ref aks), .val (.int (0 : Int32)), s8, s9, .val (.ref rd), .val (.ref rd1), .val (.int (1 : Int32)), .val (.ref st_ARRAY), .unset] X3 hx (dd at_289) rfl rfl rfl ?_
  refine Gz.aload 293 X3 hx (dd at_291) rfl rfl rfl ?_
  obtain ⟨cq4, kq4, q4a, q4b, q4c⟩ := isOf hZ rfl QE3_0
  obtain ⟨_, _, ⟨T4, L4, k4, n4⟩, -, X4, ⟨Lc4, hQ4, l4, y4, z4⟩, st4⟩ := X3.virtualBack hx (y := ym4) (z := ym4) hown (mvT hZ (ww hw 112 rfl)) (mvT hZ (ww hw 113 rfl)) (notFace_of_selects (args := #[]) (mvT hZ (ww hw 115 rfl))) (mvT hZ (ww hw 115 rfl)) (mvT hZ (ww hw 114 rfl)) (by decide) (backOf (W := 0) (rmMk_a l Z av0 hw [] rd st_OBJECT st_ARRAY (dq + (1 : Int32)) (0 : Int32) T3.heap n0 SZ3 f3_S_st_OBJECT f3_S_st_ARRAY QE3_0 QF3_3 QF3_5 QF3_6 ne_st_OBJECT_st_ARRAY) hZ (ww hw 116 rfl) (ww hw 15 rfl) (by decide) (by decide)) q4a q4c (g := (mkF m 293 #[s0, .val (.int dq), s2, s3, s4, .val (.ref ast), .val (.ref aks), .val (.int (0 : Int32)), s8, s9, .val (.ref rd), .val (.ref rd1), .val (.int (1 : Int32)), .val (.ref st_ARRAY), .unset] [(.ref rd)])) rfl (by rw [hml]; rfl) (Steps.refl _) (argsL := []) (rest := []) (lenOf pd_4 rfl) rfl (Nat.le_refl _) (dd at_293) (fun _ _ => ⟨rfl, rfl, (by decide : 7 + 1 ≤ _), (by decide : 44 + 2 ≤ _)⟩)
  dsimp only [Pt.U, Pt.locs, Pt.cells, Pt.slots, Q_rmMk_a] at X4 l4 y4 z4 st4 hQ4
  subst l4 y4 z4
  obtain ⟨rd4, rfl, N4q, K4q, gr4, szr4, RE4, RP4, RD4⟩ := hQ4
  have N4 := Fr.app N3 N4q
  have ne_tb_rd4 : tb ≠ rd4 := Nat.ne_of_lt (Nat.lt_of_lt_of_le (f3_V_tb).lt szr4)
  have ne_rd_rd4 : rd ≠ rd4 := Nat.ne_of_lt (Nat.lt_of_lt_of_le (QF3_11).lt szr4)
  have ne_ba_rd4 : ba ≠ rd4 := Nat.ne_of_lt (Nat.lt_of_lt_of_le (f3_V_ba).lt szr4)
  have ne_ast_rd4 : ast ≠ rd4 := Nat.ne_of_lt (Nat.lt_of_lt_of_le (f3_V_ast).lt szr4)
  have ne_aks_rd4 : aks ≠ rd4 := Nat.ne_of_lt (Nat.lt_of_lt_of_le (f3_V_aks).lt szr4)
  have ne_rd1_rd4 : rd1 ≠ rd4 := Nat.ne_of_lt (Nat.lt_of_lt_of_le (f3_F_depth_rd1).lt szr4)
  have f4_S_st_OBJECT := own_staK f3_S_st_OBJECT K4q all0
  have f4_S_st_ARRAY := own_staK f3_S_st_ARRAY K4q all0
  have f4_S_st_NUMBER := own_staK f3_S_st_NUMBER K4q all0
  have f4_S_st_TRUE := own_staK f3_S_st_TRUE K4q all0
  have f4_S_tb := own_staK f3_S_tb K4q all0
  have f4_V_tb := Arv.keep f3_V_tb K4q nin0
  have f4_E_rd := Exa.keep QE3_0 K4q
  have f4_V_ba := Arv.keep f3_V_ba K4q nin0
  have f4_V_ast := Arv.keep f3_V_ast K4q nin0
  have f4_V_aks := Arv.keep f3_V_aks K4q nin0
  have f4_E_rd1 := Exa.keep f3_E_rd1 K4q
  have f4_F_position_rd1 := Fld.keep f3_F_position_rd1 K4q nin0
  have f4_F_depth_rd1 := Fld.keep f3_F_depth_rd1 K4q nin0
  have f4_F_bytes_rd := Fld.keep QF3_0 K4q nin0
  have f4_F_maxDepth_rd := Fld.keep QF3_1 K4q nin0
  have f4_F_position_rd := Fld.keep QF3_2 K4q nin0
  have f4_F_depth_rd := Fld.keep QF3_3 K4q nin0
  have f4_F_first_rd := Fld.keep QF3_4 K4q nin0
  have f4_F_token_rd := Fld.keep QF3_5 K4q nin0
  have f4_F_tokenStart_rd := Fld.keep QF3_6 K4q nin0
  have f4_F_textStart_rd := Fld.keep QF3_7 K4q nin0
  have f4_F_textEnd_rd := Fld.keep QF3_8 K4q nin0
  have f4_F_escaped_rd := Fld.keep QF3_9 K4q nin0
  have f4_F_ascii_rd := Fld.keep QF3_10 K4q nin0
  have f4_F_integral_rd := Fld.keep QF3_11 K4q nin0
  have SZ4 := Nat.le_trans SZ3 K4q.1
  refine Gz.tr st4 ?_
  refine Gz.astore 298 #[s0, .val (.int dq), s2, s3, s4, .val (.ref ast), .val (.ref aks), .val (.int (0 : Int32)), s8, s9, .val (.ref rd), .val (.ref rd1), .val (.int (1 : Int32)), .val (.ref st_ARRAY), .val (.ref rd4)] X4 hx (dd at_296) rfl rfl rfl ?_
  refine Gz.iload 300 X4 hx (dd at_298) rfl rfl ?_
  refine Gz.ifNo 303 X4 hx (dd at_300) ((if0 _ _).trans (feq (by decide : ¬ ((1 : Int32) = (0 : Int32)))).1) rfl ?_
  refine Gz.aload 305 X4 hx (dd at_303) rfl rfl rfl ?_
  refine Gz.aload 307 X4 hx (dd at_305) rfl rfl rfl ?_
  refine Gz.iload 309 X4 hx (dd at_307) rfl rfl ?_
  obtain ⟨c5, A5, q5, S5, N5, H5, G5⟩ := id f4_V_aks
  have hin5 : ¬ ((0 : Int32) < 0 ∨ c5.slots.size ≤ ((0 : Int32)).toNatClampNeg) := inb_of S5 ⟨by decide, by decide⟩
  refine Gz.ldA 310 X4 hx hZ rfl (dd at_309) rfl A5 hin5 (Has.at H5 hin5 (rfl : _ = ((.ref st_ARRAY) : Value))) rfl ?_
  refine Gz.acmp 313 true X4 hx (dd at_310) rfl rfl (decide_eq_true rfl) (by decide) (by decide) ?_
  refine Gz.aload 315 X4 hx (dd at_313) rfl rfl rfl ?_
  obtain ⟨cq6, kq6, q6a, q6b, q6c⟩ := isOf hZ rfl RE4
  obtain ⟨_, _, ⟨T6, L6, k6, n6⟩, -, X6, ⟨Lc6, hQ6, l6, y6, z6⟩, st6⟩ := X4.virtualBack hx (y := ym10) (z := ym10) hown (mvT hZ (ww hw 122 rfl)) (mvT hZ (ww hw 103 rfl)) (notFace_of_selects (args := #[]) (mvT hZ (ww hw 105 rfl))) (mvT hZ (ww hw 105 rfl)) (mvT hZ (ww hw 104 rfl)) (by decide) (backOf (W := 0) (rm14 l Z av0 hw [] rd4 (0 : Int32) T4.heap n0 SZ4 RP4) hZ (ww hw 106 rfl) (ww hw 83 rfl) (by decide) (by decide)) q6a q6c (g := (mkF m 315 #[s0, .val (.int dq), s2, s3, s4, .val (.ref ast), .val (.ref aks), .val (.int (0 : Int32)), s8, s9, .val (.ref rd), .val (.ref rd1), .val (.int (1 : Int32)), .val (.ref st_ARRAY), .val (.ref rd4)] [(.ref rd4)])) rfl (by rw [hml]; rfl) (Steps.refl _) (argsL := []) (rest := []) (lenOf pd_5 rfl) rfl (Nat.le_refl _) (dd at_315) (fun _ _ => ⟨rfl, rfl, (by decide : 8 + 0 ≤ _), (by decide : 46 + 0 ≤ _)⟩)
  dsimp only [Pt.U, Pt.locs, Pt.cells, Pt.slots, Q_rm14] at X6 l6 y6 z6 st6 hQ6
  subst l6 y6 z6
  rw [show (fMp rd4 (0 : Int32)) = (0 : Int32) from (by unfold fMp; rfl)] at hQ6
  obtain ⟨rfl, N6q, e6⟩ := hQ6
  have N6 := Fr.app N4 N6q
  refine Gz.tr st6 ?_
  refine Gz.aload 320 X6 hx (dd at_318) rfl rfl rfl ?_
  refine Gz.iload 322 X6 hx (dd at_320) rfl rfl ?_
  obtain ⟨c7, A7, q7, S7, N7, H7, G7⟩ := id f4_V_ast
  have hin7 : ¬ ((0 : Int32) < 0 ∨ c7.slots.size ≤ ((0 : Int32)).toNatClampNeg) := inb_of S7 ⟨by decide, by decide⟩
  refine Gz.ldI 323 X6 hx hZ (dd at_322) e6 A7 hin7 (Has.at H7 hin7 (rfl : _ = ((.int (0 : Int32)) : Value))) rfl ?_
  refine Gz.icmpNo 326 X6 hx (dd at_323) (teq (by decide : (0 : Int32) = (0 : Int32))).2 rfl ?_
  refine Gz.aload 328 X6 hx (dd at_326) rfl rfl rfl ?_
  obtain ⟨cq8, kq8, q8a, q8b, q8c⟩ := isOf hZ e6 RE4
  obtain ⟨_, _, ⟨T8, L8, k8, n8⟩, -, X8, ⟨Lc8, hQ8, l8, y8, z8⟩, st8⟩ := X6.virtualBack hx (y := ym5) (z := ym5) hown (mvT hZ (ww hw 121 rfl)) (mvT hZ (ww hw 108 rfl)) (notFace_of_selects (args := #[]) (mvT hZ (ww hw 110 rfl))) (mvT hZ (ww hw 110 rfl)) (mvT hZ (ww hw 109 rfl)) (by decide) (backOf (W := 0) (rm15 l Z av0 hw [] rd4 ((dq + (1 : Int32)) - (1 : Int32)) T4.heap n0 SZ4 RD4) hZ (ww hw 111 rfl) (ww hw 83 rfl) (by decide) (by decide)) q8a q8c (g := (mkF m 328 #[s0, .val (.int dq), s2, s3, s4, .val (.ref ast), .val (.ref aks), .val (.int (0 : Int32)), s8, s9, .val (.ref rd), .val (.ref rd1), .val (.int (1 : Int32)), .val (.ref st_ARRAY), .val (.ref rd4)] [(.ref rd4)])) rfl (by rw [hml]; rfl) (Steps.refl _) (argsL := []) (rest := []) (lenOf pd_5 rfl) rfl (Nat.le_refl _) (dd at_328) (fun _ _ => ⟨rfl, e6, (by decide : 8 + 0 ≤ _), (by decide : 46 + 0 ≤ _)⟩)
  dsimp only [Pt.U, Pt.locs, Pt.cells, Pt.slots, Q_rm15] at X8 l8 y8 z8 st8 hQ8
  subst l8 y8 z8
  rw [show (fMd rd4 ((dq + (1 : Int32)) - (1 : Int32))) = ((dq + (1 : Int32)) - (1 : Int32)) from (by unfold fMd; rfl)] at hQ8
  obtain ⟨rfl, N8q, e8⟩ := hQ8
  have N8 := Fr.app N6 N8q
  refine Gz.tr st8 ?_
  refine Gz.iloadN 332 X8 hx (dd at_331) rfl rfl ?_
  refine Gz.icmpNo 335 X8 hx (dd at_332) (teq (own_addsub _ : ((dq + (1 : Int32)) - (1 : Int32)) = dq)).2 rfl ?_
  refine Gz.iconst 336 (1 : Int32) X8 hx (dd at_335) rfl rfl ?_
  refine Gz.goto 340 X8 hx (dd at_336) (by decide) (by decide) ?_
  refine Gz.fin X8 (v := some (.int (1 : Int32))) (fun h => by rw [hret] at h; cases h) hlk (by decide) (by decide) (fun fs hr => retN X8 hx (t := .boolean) hret (by simp) (dd at_340) hr) ?_
  exact ⟨rfl, N8⟩
theorem d4_26 : decode prog_11_method_14_code 26 = .ok (.iinc 1 1, 3) := by decide +kernel
theorem d4_29 : decode prog_11_method_14_code 29 = .ok (.goto (-24), 3) := by decide +kernel
theorem ef_rmSw_1_n (m : MethodId) (a0 : Addr) : entryFrame m #[(.ref a0)] 2 = mkF m 0 #[.val (.ref a0), .unset] [] := by first | (simp [entryFrame, mkF, argsToLocals, Value.category]; done) | rfl
def Q_rmSw_1_n (Z : State) (a0 : Addr) (ba : Addr) (md : Int32) (dp : Int32) (fi : Int32) (ts : Int32) (xs : Int32) (xe : Int32) (es : Int32) (as_ : Int32) (ig : Int32) (k_ba : ClassId) (h0 : Heap) (n0 : Nat) (v : Option Value) (h : Heap) (L : List Loc) : Prop := v = some (.int (52 : Int32)) ∧ Fr n0 L ∧ Keep h0 h [a0] ∧ Exa Z h a0 cs0 ∧ Fld Z h a0 cs0 "bytes" "[B" (.ref ba) ∧ Fld Z h a0 cs0 "maxDepth" "I" (.int md) ∧ Fld Z h a0 cs0 "position" "I" (.int (2 : Int32)) ∧ Fld Z h a0 cs0 "depth" "I" (.int dp) ∧ Fld Z h a0 cs0 "first" "Z" (.int fi) ∧ Fld Z h a0 cs0 "token" "Lcom/example/bad_status/badstatus/model/JsonReader$Token;" .null ∧ Fld Z h a0 cs0 "tokenStart" "I" (.int ts) ∧ Fld Z h a0 cs0 "textStart" "I" (.int xs) ∧ Fld Z h a0 cs0 "textEnd" "I" (.int xe) ∧ Fld Z h a0 cs0 "escaped" "Z" (.int es) ∧ Fld Z h a0 cs0 "ascii" "Z" (.int as_) ∧ Fld Z h a0 cs0 "integral" "Z" (.int ig)
set_option maxRecDepth 65536 in
set_option maxHeartbeats 40000000 in
theorem rmSw_1_n (l : Launch) (Z : State) (av0 : Array Value) (hw : ∀ d ∈ tables_1, d.before av0 Z = true) (ws : List Jvm.Cond) (a0 : Addr) (ba : Addr) (md : Int32) (dp : Int32) (fi : Int32) (ts : Int32) (xs : Int32) (xe : Int32) (es : Int32) (as_ : Int32) (ig : Int32) (k_ba : ClassId) (h0 : Heap) (n0 : Nat) (Z0 : n0 ≤ h0.size) (E_a0 : Exa Z h0 a0 cs0) (F_bytes_a0 : Fld Z h0 a0 cs0 "bytes" "[B" (.ref ba)) (F_maxDepth_a0 : Fld Z h0 a0 cs0 "maxDepth" "I" (.int md)) (F_position_a0 : Fld Z h0 a0 cs0 "position" "I" (.int (1 : Int32))) (F_depth_a0 : Fld Z h0 a0 cs0 "depth" "I" (.int dp)) (F_first_a0 : Fld Z h0 a0 cs0 "first" "Z" (.int fi)) (F_token_a0 : Fld Z h0 a0 cs0 "token" "Lcom/example/bad_status/badstatus/model/JsonReader$Token;" .null) (F_tokenStart_a0 : Fld Z h0 a0 cs0 "tokenStart" "I" (.int ts)) (F_textStart_a0 : Fld Z h0 a0 cs0 "textStart" "I" (.int xs)) (F_textEnd_a0 : Fld Z h0 a0 cs0 "textEnd" "I" (.int xe)) (F_escaped_a0 : Fld Z h0 a0 cs0 "escaped" "Z" (.int es)) (F_ascii_a0 : Fld Z h0 a0 cs0 "ascii" "Z" (.int as_)) (F_integral_a0 : Fld Z h0 a0 cs0 "integral" "Z" (.int ig)) (g_a0 : n0 ≤ a0) (V_ba : Arv Z h0 ba k_ba .byte (10 : Int32) [(.int (91 : Int32)), (.int (32 : Int32)), (.int (52 : Int32)), (.int (50 : Int32)), (.int (44 : Int32)), (.int (91 : Int32)), (.int (116 : Int32)), (.int (114 : Int32)), (.int (117 : Int32)), (.int (101 : Int32))] (.int (0 : Int32))) (ne_ba_a0 : ba ≠ a0) :
    MetFree l (⟨cs0, "skipWhitespace", "()I"⟩ : MethodName) (head1 (Jvm.Cond.code (⟨cs0, "skipWhitespace", "()I"⟩ : MethodName) prog_11_method_14_code 2 (some .int) :: ws) ({ frames := 1, cells := 0, slots := 0, locals := 12 } : Room)) (fun a U => a = #[(.ref a0)] ∧ Z.Warmed39 U.vm ∧ U.heap = h0) (fun _ _ _ _ _ => True) (fun _ U o U' => ∃ v L, o = .returned v ∧ Q_rmSw_1_n Z a0 ba md dp fi ts xs xe es as_ ig k_ba h0 n0 v U'.heap L ∧ FrameEnd U o U' L ({ frames := 1, cells := 0, slots := 0, locals := 12 } : Room).cells ({ frames := 1, cells := 0, slots := 0, locals := 12 } : Room).slots) := by
  refine MetFree.of_bodySF (plainFor_of_name pn_0) hisR ?_
  intro p e s m args below meth c s₁ Bd hml0 hP hK
  obtain ⟨rfl, hZ, hh⟩ := hP
  have hx := Bd.exec
  have hby := Bd.bytes
  have hml : c.maxLocals = 2 := hml0
  have dd : ∀ {pc : Nat} {r : Except DecodeError (Instr × Nat)}, decode prog_11_method_14_code pc = r → decode c.code pc = r := fun q => hb hby q
  have hown : s.vm.findClass cs0 = some m.cls := findClass_of_methodNamed Bd.named
  have hnm := (name_of_methodNamed Bd.named Bd.method).1
  have X0 : Stand p l e ({ frames := 1, cells := 0, slots := 0, locals := 12 } : Room) s m #[(.ref a0)] below meth c s₁ [] 0 0 := Stand.of_body Bd
  have e0 : s₁.heap = h0 := by rw [← hh, Bd.state]; rfl
  have N0 := Fr.nil n0
  have hret := Bd.returns
  have hlk := Bd.notSynchronized
  show Gz p e below s ({ frames := 1, cells := 0, slots := 0, locals := 12 } : Room).cells ({ frames := 1, cells := 0, slots := 0, locals := 12 } : Room).slots (Q_rmSw_1_n Z a0 ba md dp fi ts xs xe es as_ ig k_ba h0 n0) (s₁.setTop (entryFrame m #[(.ref a0)] 2))
  refine Gz.enter (ef_rmSw_1_n m a0) ?_
  refine Gz.aloadN 1 X0 hx (dd d4_0) rfl rfl rfl ?_
  refine Gz.getF 4 X0 hx hZ hown (dd d4_1) (host := "") (Or.inl (ww hw 24 rfl)) Via.refl e0 F_position_a0 rfl fun T1 X1 e1 => ?_
  refine Gz.istoreN 5 #[.val (.ref a0), .val (.int (1 : Int32))] X1 hx (dd d4_4) rfl rfl ?_
  refine Gz.iloadN 6 X1 hx (dd d4_5) rfl rfl ?_
  refine Gz.aloadN 7 X1 hx (dd d4_6) rfl rfl rfl ?_
  refine Gz.getF 10 X1 hx hZ hown (dd d4_7) (host := "") (Or.inl (ww hw 22 rfl)) Via.refl e1 F_bytes_a0 rfl fun T2 X2 e2 => ?_
  obtain ⟨c3, A3, -, S3, N3, -, -⟩ := id V_ba
  refine Gz.alen 11 X2 hx hZ (dd d4_10) e2 A3 S3 N3 rfl ?_
  refine Gz.icmpNo 14 X2 hx (dd d4_11) (tlt (by decide : (1 : Int32) < (10 : Int32))).2.1 rfl ?_
  refine Gz.aloadN 15 X2 hx (dd d4_14) rfl rfl rfl ?_
  refine Gz.getF 18 X2 hx hZ hown (dd d4_15) (host := "") (Or.inl (ww hw 22 rfl)) Via.refl e2 F_bytes_a0 rfl fun T4 X4 e4 => ?_
  refine Gz.iloadN 19 X4 hx (dd d4_18) rfl rfl ?_
  obtain ⟨c5, A5, q5, S5, N5, H5, G5⟩ := id V_ba
  have hin5 : ¬ ((1 : Int32) < 0 ∨ c5.slots.size ≤ ((1 : Int32)).toNatClampNeg) := inb_of S5 ⟨by decide, by decide⟩
  refine Gz.ldB 20 X4 hx hZ (dd d4_19) e4 A5 hin5 (Has.at H5 hin5 (rfl : _ = ((.int (32 : Int32)) : Value))) rfl ?_
  obtain ⟨_, _, ⟨T6, L6, k6, n6⟩, -, X6, ⟨Lc6, hQ6, l6, y6, z6⟩, st6⟩ := Jvm.LawKit.callS X4 hx (y := ym6) hown (mvT hZ (ww hw 37 rfl)) (mvT hZ (ww hw 38 rfl)) (mvT hZ (ww hw 15 rfl)) (mvT hZ (ww hw 39 rfl)) (by decide) (backOf (W := 0) (rm5 l Z av0 hw [] (32 : Int32)  h0 n0 Z0 ) hZ (ww hw 39 rfl) (ww hw 15 rfl) (by decide) (by decide)) (g := (mkF m 20 #[.val (.ref a0), .val (.int (1 : Int32))] [(.int (32 : Int32))])) rfl (by rw [hml]; rfl) (argsL := [(.int (32 : Int32))]) (rest := []) (lenOf pd_6 rfl) rfl (Nat.le_refl _) (dd d4_20) (fun _ _ => ⟨rfl, e4, (by decide : 0 + 0 ≤ _), (by decide : 0 + 0 ≤ _)⟩)
  dsimp only [Pt.U, Pt.locs, Pt.cells, Pt.slots, Q_rm5] at X6 l6 y6 z6 st6 hQ6
  subst l6 y6 z6
  rw [show (fWs (32 : Int32)) = (1 : Int32) from (by unfold fWs; rw [if_neg (by decide : ¬ ((32 : Int32) < (32 : Int32))), if_pos (by decide : (32 : Int32) = (32 : Int32))]; try decide)] at hQ6
  obtain ⟨rfl, N6q, e6⟩ := hQ6
  have N6 := Fr.app N0 N6q
  refine Gz.st st6 ?_
  refine Gz.ifNo 26 X6 hx (dd d4_23) ((if0 _ _).trans (feq (by decide : ¬ ((1 : Int32) = (0 : Int32)))).1) rfl ?_
  refine Gz.iinc 29 #[.val (.ref a0), .val (.int (2 : Int32))] X6 hx (dd d4_26) rfl rfl rfl ?_
  refine Gz.goto 5 X6 hx (dd d4_29) (by decide) (by decide) ?_
  refine Gz.iloadN 6 X6 hx (dd d4_5) rfl rfl ?_
  refine Gz.aloadN 7 X6 hx (dd d4_6) rfl rfl rfl ?_
  refine Gz.getF 10 X6 hx hZ hown (dd d4_7) (host := "") (Or.inl (ww hw 22 rfl)) Via.refl e6 F_bytes_a0 rfl fun T7 X7 e7 => ?_
  obtain ⟨c8, A8, -, S8, N8, -, -⟩ := id V_ba
  refine Gz.alen 11 X7 hx hZ (dd d4_10) e7 A8 S8 N8 rfl ?_
  refine Gz.icmpNo 14 X7 hx (dd d4_11) (tlt (by decide : (2 : Int32) < (10 : Int32))).2.1 rfl ?_
  refine Gz.aloadN 15 X7 hx (dd d4_14) rfl rfl rfl ?_
  refine Gz.getF 18 X7 hx hZ hown (dd d4_15) (host := "") (Or.inl (ww hw 22 rfl)) Via.refl e7 F_bytes_a0 rfl fun T9 X9 e9 => ?_
  refine Gz.iloadN 19 X9 hx (dd d4_18) rfl rfl ?_
  obtain ⟨c10, A10, q10, S10, N10, H10, G10⟩ := id V_ba
  have hin10 : ¬ ((2 : Int32) < 0 ∨ c10.slots.size ≤ ((2 : Int32)).toNatClampNeg) := inb_of S10 ⟨by decide, by decide⟩
  refine Gz.ldB 20 X9 hx hZ (dd d4_19) e9 A10 hin10 (Has.at H10 hin10 (rfl : _ = ((.int (52 : Int32)) : Value))) rfl ?_
  obtain ⟨_, _, ⟨T11, L11, k11, n11⟩, -, X11, ⟨Lc11, hQ11, l11, y11, z11⟩, st11⟩ := Jvm.LawKit.callS X9 hx (y := ym6) hown (mvT hZ (ww hw 37 rfl)) (mvT hZ (ww hw 38 rfl)) (mvT hZ (ww hw 15 rfl)) (mvT hZ (ww hw 39 rfl)) (by decide) (backOf (W := 0) (rm5 l Z av0 hw [] (52 : Int32)  h0 n0 Z0 ) hZ (ww hw 39 rfl) (ww hw 15 rfl) (by decide) (by decide)) (g := (mkF m 20 #[.val (.ref a0), .val (.int (2 : Int32))] [(.int (52 : Int32))])) rfl (by rw [hml]; rfl) (argsL := [(.int (52 : Int32))]) (rest := []) (lenOf pd_6 rfl) rfl (Nat.le_refl _) (dd d4_20) (fun _ _ => ⟨rfl, e9, (by decide : 0 + 0 ≤ _), (by decide : 0 + 0 ≤ _)⟩)
  dsimp only [Pt.U, Pt.locs, Pt.cells, Pt.slots, Q_rm5] at X11 l11 y11 z11 st11 hQ11
  subst l11 y11 z11
  rw [show (fWs (52 : Int32)) = (0 : Int32) from (by unfold fWs; rw [if_pos (by decide : (32 : Int32) < (52 : Int32))]; try decide)] at hQ11
  obtain ⟨rfl, N11q, e11⟩ := hQ11
  have N11 := Fr.app N6 N11q
  refine Gz.st st11 ?_
  refine Gz.ifYes 32 X11 hx (dd d4_23) ((if0 _ _).trans (teq (by decide : (0 : Int32) = (0 : Int32))).1) (by decide) (by decide) ?_
  refine Gz.aloadN 33 X11 hx (dd d4_32) rfl rfl rfl ?_
  refine Gz.iloadN 34 X11 hx (dd d4_33) rfl rfl ?_
  refine Gz.putF 37 X11 hx hZ hown .int (dd d4_34) (host := "") (Or.inl (ww hw 24 rfl)) Via.refl e11 F_position_a0 E_a0 (Or.inl (ww hw 25 rfl)) (ww hw 14 rfl) (by decide) rfl rfl rfl fun T12 h12 X12 e12 W12 => ?_
  have f12_E_a0 := Exa.wr W12 E_a0
  have f12_F_bytes_a0 := Fld.other W12 F_bytes_a0 (Or.inr (Ne.symm <| sn1 hw))
  have f12_F_maxDepth_a0 := Fld.other W12 F_maxDepth_a0 (Or.inr (sn11 hw))
  have f12_F_depth_a0 := Fld.other W12 F_depth_a0 (Or.inr (sn12 hw))
  have f12_F_first_a0 := Fld.other W12 F_first_a0 (Or.inr (sn13 hw))
  have f12_F_token_a0 := Fld.other W12 F_token_a0 (Or.inr (sn14 hw))
  have f12_F_tokenStart_a0 := Fld.other W12 F_tokenStart_a0 (Or.inr (sn15 hw))
  have f12_F_textStart_a0 := Fld.other W12 F_textStart_a0 (Or.inr (sn16 hw))
  have f12_F_textEnd_a0 := Fld.other W12 F_textEnd_a0 (Or.inr (sn17 hw))
  have f12_F_escaped_a0 := Fld.other W12 F_escaped_a0 (Or.inr (sn18 hw))
  have f12_F_ascii_a0 := Fld.other W12 F_ascii_a0 (Or.inr (sn19 hw))
  have f12_F_integral_a0 := Fld.other W12 F_integral_a0 (Or.inr (sn20 hw))
  have f12_V_ba := Arv.other V_ba W12 ne_ba_a0
  have f12_F_position_a0 := Fld.same W12 F_position_a0
  have N12 := Fr.snoc X12 N11 g_a0
  have SZ12 : n0 ≤ h12.size := Nat.le_trans Z0 (Keep.of_wr W12).1
  have K12 := Keep.wr (Keep.refl h0 [a0]) W12 (Or.inl (List.mem_of_getElem? (i := 0) rfl))
  refine Gz.iloadN 38 X12 hx (dd d4_37) rfl rfl ?_
  refine Gz.aloadN 39 X12 hx (dd d4_38) rfl rfl rfl ?_
  refine Gz.getF 42 X12 hx hZ hown (dd d4_39) (host := "") (Or.inl (ww hw 22 rfl)) Via.refl e12 f12_F_bytes_a0 rfl fun T13 X13 e13 => ?_
  obtain ⟨c14, A14, -, S14, N14, -, -⟩ := id f12_V_ba
  refine Gz.alen 43 X13 hx hZ (dd d4_42) e13 A14 S14 N14 rfl ?_
  refine Gz.icmpNo 46 X13 hx (dd d4_43) (tlt (by decide : (2 : Int32) < (10 : Int32))).2.1 rfl ?_
  refine Gz.aloadN 47 X13 hx (dd d4_46) rfl rfl rfl ?_
  refine Gz.getF 50 X13 hx hZ hown (dd d4_47) (host := "") (Or.inl (ww hw 22 rfl)) Via.refl e13 f12_F_bytes_a0 rfl fun T15 X15 e15 => ?_
  refine Gz.iloadN 51 X15 hx (dd d4_50) rfl rfl ?_
  obtain ⟨c16, A16, q16, S16, N16, H16, G16⟩ := id f12_V_ba
  have hin16 : ¬ ((2 : Int32) < 0 ∨ c16.slots.size ≤ ((2 : Int32)).toNatClampNeg) := inb_of S16 ⟨by decide, by decide⟩
  refine Gz.ldB 52 X15 hx hZ (dd d4_51) e15 A16 hin16 (Has.at H16 hin16 (rfl : _ = ((.int (52 : Int32)) : Value))) rfl ?_
  refine Gz.sipush 55 (255 : Int32) X15 hx (dd d4_52) rfl rfl ?_
  refine Gz.iandV 56 (52 : Int32) X15 hx (dd d4_55) rfl rfl ?_
  refine Gz.goto 60 X15 hx (dd d4_56) (by decide) (by decide) ?_
  refine Gz.fin X15 (v := some (.int (52 : Int32))) (fun h => by rw [hret] at h; cases h) hlk (by decide) (by decide) (fun fs hr => retI X15 hx hret (dd d4_60) hr) ?_
  rw [e15]
  exact ⟨rfl, N12, K12, f12_E_a0, f12_F_bytes_a0, f12_F_maxDepth_a0, f12_F_position_a0, f12_F_depth_a0, f12_F_first_a0, f12_F_token_a0, f12_F_tokenStart_a0, f12_F_textStart_a0, f12_F_textEnd_a0, f12_F_escaped_a0, f12_F_ascii_a0, f12_F_integral_a0⟩
theorem pd_9 : parseMethodDescriptor "(I)Z" = some ⟨[.int], some .boolean⟩ := by decide +kernel
abbrev ym11 : MethodName := ⟨cs0, "isDigit", "(I)Z"⟩
theorem d10_0 : decode prog_11_method_27_code 0 = .ok (.iload_n 1, 1) := by decide +kernel
theorem d10_1 : decode prog_11_method_27_code 1 = .ok (.istore_n 2, 1) := by decide +kernel
theorem d10_2 : decode prog_11_method_27_code 2 = .ok (.iload_n 2, 1) := by decide +kernel
theorem d10_3 : decode prog_11_method_27_code 3 = .ok (.aload_n 0, 1) := by decide +kernel
theorem d10_4 : decode prog_11_method_27_code 4 = .ok (.getfield 9, 3) := by decide +kernel
theorem d10_7 : decode prog_11_method_27_code 7 = .ok (.arraylength, 1) := by decide +kernel
theorem d10_8 : decode prog_11_method_27_code 8 = .ok (.if_icmp .ge 21, 3) := by decide +kernel
theorem d10_11 : decode prog_11_method_27_code 11 = .ok (.aload_n 0, 1) := by decide +kernel
theorem d10_12 : decode prog_11_method_27_code 12 = .ok (.getfield 9, 3) := by decide +kernel
theorem d10_15 : decode prog_11_method_27_code 15 = .ok (.iload_n 2, 1) := by decide +kernel
theorem d10_16 : decode prog_11_method_27_code 16 = .ok (.baload, 1) := by decide +kernel
theorem d10_17 : decode prog_11_method_27_code 17 = .ok (.invokestatic 67, 3) := by decide +kernel
theorem d10_20 : decode prog_11_method_27_code 20 = .ok (.ifCond .eq 9, 3) := by decide +kernel
theorem d10_23 : decode prog_11_method_27_code 23 = .ok (.iinc 2 1, 3) := by decide +kernel
theorem d10_26 : decode prog_11_method_27_code 26 = .ok (.goto (-24), 3) := by decide +kernel
theorem d10_29 : decode prog_11_method_27_code 29 = .ok (.iload_n 2, 1) := by decide +kernel
theorem d10_30 : decode prog_11_method_27_code 30 = .ok (.ireturn, 1) := by decide +kernel
theorem ef_rmDe_2 (m : MethodId) (a0 : Addr) : entryFrame m #[(.ref a0), (.int (2 : Int32))] 3 = mkF m 0 #[.val (.ref a0), .val (.int (2 : Int32)), .unset] [] := by first | (simp [entryFrame, mkF, argsToLocals, Value.category]; done) | rfl
def fDe_2 (a0 : Addr) (ba : Addr) : Int32 := (4 : Int32)
def Q_rmDe_2 (Z : State) (a0 : Addr) (ba : Addr) (k_ba : ClassId) (h0 : Heap) (n0 : Nat) (v : Option Value) (h : Heap) (L : List Loc) : Prop := v = some (.int (fDe_2 a0 ba)) ∧ Fr n0 L ∧ h = h0
set_option maxRecDepth 65536 in
set_option maxHeartbeats 40000000 in
theorem rmDe_2 (l : Launch) (Z : State) (av0 : Array Value) (hw : ∀ d ∈ tables_1, d.before av0 Z = true) (ws : List Jvm.Cond) (a0 : Addr) (ba : Addr) (k_ba : ClassId) (h0 : Heap) (n0 : Nat) (Z0 : n0 ≤ h0.size) (F_bytes_a0 : Fld Z h0 a0 cs0 "bytes" "[B" (.ref ba)) (V_ba : Arv Z h0 ba k_ba .byte (10 : Int32) [(.int (91 : Int32)), (.int (32 : Int32)), (.int (52 : Int32)), (.int (50 : Int32)), (.int (44 : Int32)), (.int (91 : Int32)), (.int (116 : Int32)), (.int (114 : Int32)), (.int (117 : Int32)), (.int (101 : Int32))] (.int (0 : Int32))) :
    MetFree l (⟨cs0, "digitsEnd", "(I)I"⟩ : MethodName) (head1 (Jvm.Cond.code (⟨cs0, "digitsEnd", "(I)I"⟩ : MethodName) prog_11_method_27_code 3 (some .int) :: ws) ({ frames := 1, cells := 0, slots := 0, locals := 12 } : Room)) (fun a U => a = #[(.ref a0), (.int (2 : Int32))] ∧ Z.Warmed39 U.vm ∧ U.heap = h0) (fun _ _ _ _ _ => True) (fun _ U o U' => ∃ v L, o = .returned v ∧ Q_rmDe_2 Z a0 ba k_ba h0 n0 v U'.heap L ∧ FrameEnd U o U' L ({ frames := 1, cells := 0, slots := 0, locals := 12 } : Room).cells ({ frames := 1, cells := 0, slots := 0, locals := 12 } : Room).slots) := by
  refine MetFree.of_bodySF (plainFor_of_name pn_0) hisR ?_
  intro p e s m args below meth c s₁ Bd hml0 hP hK
  obtain ⟨rfl, hZ, hh⟩ := hP
  have hx := Bd.exec
  have hby := Bd.bytes
  have hml : c.maxLocals = 3 := hml0
  have dd : ∀ {pc : Nat} {r : Except DecodeError (Instr × Nat)}, decode prog_11_method_27_code pc = r → decode c.code pc = r := fun q => hb hby q
  have hown : s.vm.findClass cs0 = some m.cls := findClass_of_methodNamed Bd.named
  have hnm := (name_of_methodNamed Bd.named Bd.method).1
  have X0 : Stand p l e ({ frames := 1, cells := 0, slots := 0, locals := 12 } : Room) s m #[(.ref a0), (.int (2 : Int32))] below meth c s₁ [] 0 0 := Stand.of_body Bd
  have e0 : s₁.heap = h0 := by rw [← hh, Bd.state]; rfl
  have N0 := Fr.nil n0
  have hret := Bd.returns
  have hlk := Bd.notSynchronized
  show Gz p e below s ({ frames := 1, cells := 0, slots := 0, locals := 12 } : Room).cells ({ frames := 1, cells := 0, slots := 0, locals := 12 } : Room).slots (Q_rmDe_2 Z a0 ba k_ba h0 n0) (s₁.setTop (entryFrame m #[(.ref a0), (.int (2 : Int32))] 3))
  refine Gz.enter (ef_rmDe_2 m a0) ?_
  refine Gz.iloadN 1 X0 hx (dd d10_0) rfl rfl ?_
  refine Gz.istoreN 2 #[.val (.ref a0), .val (.int (2 : Int32)), .val (.int (2 : Int32))] X0 hx (dd d10_1) rfl rfl ?_
  refine Gz.iloadN 3 X0 hx (dd d10_2) rfl rfl ?_
  refine Gz.aloadN 4 X0 hx (dd d10_3) rfl rfl rfl ?_
  refine Gz.getF 7 X0 hx hZ hown (dd d10_4) (host := "") (Or.inl (ww hw 22 rfl)) Via.refl e0 F_bytes_a0 rfl fun T1 X1 e1 => ?_
  obtain ⟨c2, A2, -, S2, N2, -, -⟩ := id V_ba
  refine Gz.alen 8 X1 hx hZ (dd d10_7) e1 A2 S2 N2 rfl ?_
  refine Gz.icmpNo 11 X1 hx (dd d10_8) (tlt (by decide : (2 : Int32) < (10 : Int32))).2.1 rfl ?_
  refine Gz.aloadN 12 X1 hx (dd d10_11) rfl rfl rfl ?_
  refine Gz.getF 15 X1 hx hZ hown (dd d10_12) (host := "") (Or.inl (ww hw 22 rfl)) Via.refl e1 F_bytes_a0 rfl fun T3 X3 e3 => ?_
  refine Gz.iloadN 16 X3 hx (dd d10_15) rfl rfl ?_
  obtain ⟨c4, A4, q4, S4, N4, H4, G4⟩ := id V_ba
  have hin4 : ¬ ((2 : Int32) < 0 ∨ c4.slots.size ≤ ((2 : Int32)).toNatClampNeg) := inb_of S4 ⟨by decide, by decide⟩
  refine Gz.ldB 17 X3 hx hZ (dd d10_16) e3 A4 hin4 (Has.at H4 hin4 (rfl : _ = ((.int (52 : Int32)) : Value))) rfl ?_
  obtain ⟨_, _, ⟨T5, L5, k5, n5⟩, -, X5, ⟨Lc5, hQ5, l5, y5, z5⟩, st5⟩ := Jvm.LawKit.callS X3 hx (y := ym11) hown (mvT hZ (ww hw 59 rfl)) (mvT hZ (ww hw 60 rfl)) (mvT hZ (ww hw 15 rfl)) (mvT hZ (ww hw 61 rfl)) (by decide) (backOf (W := 0) (rm8 l Z av0 hw [] (52 : Int32)  h0 n0 Z0 ) hZ (ww hw 61 rfl) (ww hw 15 rfl) (by decide) (by decide)) (g := (mkF m 17 #[.val (.ref a0), .val (.int (2 : Int32)), .val (.int (2 : Int32))] [(.int (52 : Int32))])) rfl (by rw [hml]; rfl) (argsL := [(.int (52 : Int32))]) (rest := []) (lenOf pd_9 rfl) rfl (Nat.le_refl _) (dd d10_17) (fun _ _ => ⟨rfl, e3, (by decide : 0 + 0 ≤ _), (by decide : 0 + 0 ≤ _)⟩)
  dsimp only [Pt.U, Pt.locs, Pt.cells, Pt.slots, Q_rm8] at X5 l5 y5 z5 st5 hQ5
  subst l5 y5 z5
  rw [show (fDg (52 : Int32)) = (1 : Int32) from (by unfold fDg; rw [if_neg (by decide : ¬ ((52 : Int32) < (48 : Int32))), if_neg (by decide : ¬ ((57 : Int32) < (52 : Int32)))]; try decide)] at hQ5
  obtain ⟨rfl, N5q, e5⟩ := hQ5
  have N5 := Fr.app N0 N5q
  refine Gz.st st5 ?_
  refine Gz.ifNo 23 X5 hx (dd d10_20) ((if0 _ _).trans (feq (by decide : ¬ ((1 : Int32) = (0 : Int32)))).1) rfl ?_
  refine Gz.iinc 26 #[.val (.ref a0), .val (.int (2 : Int32)), .val (.int (3 : Int32))] X5 hx (dd d10_23) rfl rfl rfl ?_
  refine Gz.goto 2 X5 hx (dd d10_26) (by decide) (by decide) ?_
  refine Gz.iloadN 3 X5 hx (dd d10_2) rfl rfl ?_
  refine Gz.aloadN 4 X5 hx (dd d10_3) rfl rfl rfl ?_
  refine Gz.getF 7 X5 hx hZ hown (dd d10_4) (host := "") (Or.inl (ww hw 22 rfl)) Via.refl e5 F_bytes_a0 rfl fun T6 X6 e6 => ?_
  obtain ⟨c7, A7, -, S7, N7, -, -⟩ := id V_ba
  refine Gz.alen 8 X6 hx hZ (dd d10_7) e6 A7 S7 N7 rfl ?_
  refine Gz.icmpNo 11 X6 hx (dd d10_8) (tlt (by decide : (3 : Int32) < (10 : Int32))).2.1 rfl ?_
  refine Gz.aloadN 12 X6 hx (dd d10_11) rfl rfl rfl ?_
  refine Gz.getF 15 X6 hx hZ hown (dd d10_12) (host := "") (Or.inl (ww hw 22 rfl)) Via.refl e6 F_bytes_a0 rfl fun T8 X8 e8 => ?_
  refine Gz.iloadN 16 X8 hx (dd d10_15) rfl rfl ?_
  obtain ⟨c9, A9, q9, S9, N9, H9, G9⟩ := id V_ba
  have hin9 : ¬ ((3 : Int32) < 0 ∨ c9.slots.size ≤ ((3 : Int32)).toNatClampNeg) := inb_of S9 ⟨by decide, by decide⟩
  refine Gz.ldB 17 X8 hx hZ (dd d10_16) e8 A9 hin9 (Has.at H9 hin9 (rfl : _ = ((.int (50 : Int32)) : Value))) rfl ?_
  obtain ⟨_, _, ⟨T10, L10, k10, n10⟩, -, X10, ⟨Lc10, hQ10, l10, y10, z10⟩, st10⟩ := Jvm.LawKit.callS X8 hx (y := ym11) hown (mvT hZ (ww hw 59 rfl)) (mvT hZ (ww hw 60 rfl)) (mvT hZ (ww hw 15 rfl)) (mvT hZ (ww hw 61 rfl)) (by decide) (backOf (W := 0) (rm8 l Z av0 hw [] (50 : Int32)  h0 n0 Z0 ) hZ (ww hw 61 rfl) (ww hw 15 rfl) (by decide) (by decide)) (g := (mkF m 17 #[.val (.ref a0), .val (.int (2 : Int32)), .val (.int (3 : Int32))] [(.int (50 : Int32))])) rfl (by rw [hml]; rfl) (argsL := [(.int (50 : Int32))]) (rest := []) (lenOf pd_9 rfl) rfl (Nat.le_refl _) (dd d10_17) (fun _ _ => ⟨rfl, e8, (by decide : 0 + 0 ≤ _), (by decide : 0 + 0 ≤ _)⟩)
  dsimp only [Pt.U, Pt.locs, Pt.cells, Pt.slots, Q_rm8] at X10 l10 y10 z10 st10 hQ10
  subst l10 y10 z10
  rw [show (fDg (50 : Int32)) = (1 : Int32) from (by unfold fDg; rw [if_neg (by decide : ¬ ((50 : Int32) < (48 : Int32))), if_neg (by decide : ¬ ((57 : Int32) < (50 : Int32)))]; try decide)] at hQ10
  obtain ⟨rfl, N10q, e10⟩ := hQ10
  have N10 := Fr.app N5 N10q
  refine Gz.st st10 ?_
  refine Gz.ifNo 23 X10 hx (dd d10_20) ((if0 _ _).trans (feq (by decide : ¬ ((1 : Int32) = (0 : Int32)))).1) rfl ?_
  refine Gz.iinc 26 #[.val (.ref a0), .val (.int (2 : Int32)), .val (.int (4 : Int32))] X10 hx (dd d10_23) rfl rfl rfl ?_
  refine Gz.goto 2 X10 hx (dd d10_26) (by decide) (by decide) ?_
  refine Gz.iloadN 3 X10 hx (dd d10_2) rfl rfl ?_
  refine Gz.aloadN 4 X10 hx (dd d10_3) rfl rfl rfl ?_
  refine Gz.getF 7 X10 hx hZ hown (dd d10_4) (host := "") (Or.inl (ww hw 22 rfl)) Via.refl e10 F_bytes_a0 rfl fun T11 X11 e11 => ?_
  obtain ⟨c12, A12, -, S12, N12, -, -⟩ := id V_ba
  refine Gz.alen 8 X11 hx hZ (dd d10_7) e11 A12 S12 N12 rfl ?_
  refine Gz.icmpNo 11 X11 hx (dd d10_8) (tlt (by decide : (4 : Int32) < (10 : Int32))).2.1 rfl ?_
  refine Gz.aloadN 12 X11 hx (dd d10_11) rfl rfl rfl ?_
  refine Gz.getF 15 X11 hx hZ hown (dd d10_12) (host := "") (Or.inl (ww hw 22 rfl)) Via.refl e11 F_bytes_a0 rfl fun T13 X13 e13 => ?_
  refine Gz.iloadN 16 X13 hx (dd d10_15) rfl rfl ?_
  obtain ⟨c14, A14, q14, S14, N14, H14, G14⟩ := id V_ba
  have hin14 : ¬ ((4 : Int32) < 0 ∨ c14.slots.size ≤ ((4 : Int32)).toNatClampNeg) := inb_of S14 ⟨by decide, by decide⟩
  refine Gz.ldB 17 X13 hx hZ (dd d10_16) e13 A14 hin14 (Has.at H14 hin14 (rfl : _ = ((.int (44 : Int32)) : Value))) rfl ?_
  obtain ⟨_, _, ⟨T15, L15, k15, n15⟩, -, X15, ⟨Lc15, hQ15, l15, y15, z15⟩, st15⟩ := Jvm.LawKit.callS X13 hx (y := ym11) hown (mvT hZ (ww hw 59 rfl)) (mvT hZ (ww hw 60 rfl)) (mvT hZ (ww hw 15 rfl)) (mvT hZ (ww hw 61 rfl)) (by decide) (backOf (W := 0) (rm8 l Z av0 hw [] (44 : Int32)  h0 n0 Z0 ) hZ (ww hw 61 rfl) (ww hw 15 rfl) (by decide) (by decide)) (g := (mkF m 17 #[.val (.ref a0), .val (.int (2 : Int32)), .val (.int (4 : Int32))] [(.int (44 : Int32))])) rfl (by rw [hml]; rfl) (argsL := [(.int (44 : Int32))]) (rest := []) (lenOf pd_9 rfl) rfl (Nat.le_refl _) (dd d10_17) (fun _ _ => ⟨rfl, e13, (by decide : 0 + 0 ≤ _), (by decide : 0 + 0 ≤ _)⟩)
  dsimp only [Pt.U, Pt.locs, Pt.cells, Pt.slots, Q_rm8] at X15 l15 y15 z15 st15 hQ15
  subst l15 y15 z15
  rw [show (fDg (44 : Int32)) = (0 : Int32) from (by unfold fDg; rw [if_pos (by decide : (44 : Int32) < (48 : Int32))]; try decide)] at hQ15
  obtain ⟨rfl, N15q, e15⟩ := hQ15
  have N15 := Fr.app N10 N15q
  refine Gz.st st15 ?_
  refine Gz.ifYes 29 X15 hx (dd d10_20) ((if0 _ _).trans (teq (by decide : (0 : Int32) = (0 : Int32))).1) (by decide) (by decide) ?_
  refine Gz.iloadN 30 X15 hx (dd d10_29) rfl rfl ?_
  refine Gz.fin X15 (v := some (.int (4 : Int32))) (fun h => by rw [hret] at h; cases h) hlk (by decide) (by decide) (fun fs hr => retI X15 hx hret (dd d10_30) hr) ?_
  rw [e15]
  exact ⟨rfl, N15, rfl⟩
theorem pd_10 : parseMethodDescriptor "(I)I" = some ⟨[.int], some .int⟩ := by decide +kernel
abbrev ym12 : MethodName := ⟨cs0, "digitsEnd", "(I)I"⟩
theorem sn57 {Z : State} {av0 : Array Value} (hw : ∀ d ∈ tables_1, d.before av0 Z = true) : Jvm.RoadKit.slotOf Z cs0 "textEnd" "I" ≠ Jvm.RoadKit.slotOf Z cs0 "textStart" "I" := slot_ne (Or.inl (ww hw 73 rfl)) (Or.inl (ww hw 71 rfl)) (by decide) (t := .int) (t' := .int) (by decide) (by decide)
theorem sn58 {Z : State} {av0 : Array Value} (hw : ∀ d ∈ tables_1, d.before av0 Z = true) : Jvm.RoadKit.slotOf Z cs0 "escaped" "Z" ≠ Jvm.RoadKit.slotOf Z cs0 "textStart" "I" := slot_ne (Or.inl (ww hw 75 rfl)) (Or.inl (ww hw 71 rfl)) (by decide) (t := .boolean) (t' := .int) (by decide) (by decide)
theorem sn59 {Z : State} {av0 : Array Value} (hw : ∀ d ∈ tables_1, d.before av0 Z = true) : Jvm.RoadKit.slotOf Z cs0 "ascii" "Z" ≠ Jvm.RoadKit.slotOf Z cs0 "textStart" "I" := slot_ne (Or.inl (ww hw 77 rfl)) (Or.inl (ww hw 71 rfl)) (by decide) (t := .boolean) (t' := .int) (by decide) (by decide)
theorem sn60 {Z : State} {av0 : Array Value} (hw : ∀ d ∈ tables_1, d.before av0 Z = true) : Jvm.RoadKit.slotOf Z cs0 "integral" "Z" ≠ Jvm.RoadKit.slotOf Z cs0 "textStart" "I" := slot_ne (Or.inl (ww hw 79 rfl)) (Or.inl (ww hw 71 rfl)) (by decide) (t := .boolean) (t' := .int) (by decide) (by decide)
theorem sn61 {Z : State} {av0 : Array Value} (hw : ∀ d ∈ tables_1, d.before av0 Z = true) : Jvm.RoadKit.slotOf Z cs0 "escaped" "Z" ≠ Jvm.RoadKit.slotOf Z cs0 "textEnd" "I" := slot_ne (Or.inl (ww hw 75 rfl)) (Or.inl (ww hw 73 rfl)) (by decide) (t := .boolean) (t' := .int) (by decide) (by decide)
theorem sn62 {Z : State} {av0 : Array Value} (hw : ∀ d ∈ tables_1, d.before av0 Z = true) : Jvm.RoadKit.slotOf Z cs0 "ascii" "Z" ≠ Jvm.RoadKit.slotOf Z cs0 "textEnd" "I" := slot_ne (Or.inl (ww hw 77 rfl)) (Or.inl (ww hw 73 rfl)) (by decide) (t := .boolean) (t' := .int) (by decide) (by decide)
theorem sn63 {Z : State} {av0 : Array Value} (hw : ∀ d ∈ tables_1, d.before av0 Z = true) : Jvm.RoadKit.slotOf Z cs0 "integral" "Z" ≠ Jvm.RoadKit.slotOf Z cs0 "textEnd" "I" := slot_ne (Or.inl (ww hw 79 rfl)) (Or.inl (ww hw 73 rfl)) (by decide) (t := .boolean) (t' := .int) (by decide) (by decide)
theorem sn64 {Z : State} {av0 : Array Value} (hw : ∀ d ∈ tables_1, d.before av0 Z = true) : Jvm.RoadKit.slotOf Z cs0 "ascii" "Z" ≠ Jvm.RoadKit.slotOf Z cs0 "escaped" "Z" := slot_ne (Or.inl (ww hw 77 rfl)) (Or.inl (ww hw 75 rfl)) (by decide) (t := .boolean) (t' := .boolean) (by decide) (by decide)
theorem sn65 {Z : State} {av0 : Array Value} (hw : ∀ d ∈ tables_1, d.before av0 Z = true) : Jvm.RoadKit.slotOf Z cs0 "integral" "Z" ≠ Jvm.RoadKit.slotOf Z cs0 "escaped" "Z" := slot_ne (Or.inl (ww hw 79 rfl)) (Or.inl (ww hw 75 rfl)) (by decide) (t := .boolean) (t' := .boolean) (by decide) (by decide)
theorem sn66 {Z : State} {av0 : Array Value} (hw : ∀ d ∈ tables_1, d.before av0 Z = true) : Jvm.RoadKit.slotOf Z cs0 "integral" "Z" ≠ Jvm.RoadKit.slotOf Z cs0 "ascii" "Z" := slot_ne (Or.inl (ww hw 79 rfl)) (Or.inl (ww hw 77 rfl)) (by decide) (t := .boolean) (t' := .boolean) (by decide) (by decide)
theorem d9_0 : decode prog_11_method_26_code 0 = .ok (.aload_n 0, 1) := by decide +kernel
theorem d9_1 : decode prog_11_method_26_code 1 = .ok (.getfield 15, 3) := by decide +kernel
theorem d9_4 : decode prog_11_method_26_code 4 = .ok (.istore_n 1, 1) := by decide +kernel
theorem d9_5 : decode prog_11_method_26_code 5 = .ok (.aload_n 0, 1) := by decide +kernel
theorem d9_6 : decode prog_11_method_26_code 6 = .ok (.getfield 9, 3) := by decide +kernel
theorem d9_9 : decode prog_11_method_26_code 9 = .ok (.iload_n 1, 1) := by decide +kernel
theorem d9_10 : decode prog_11_method_26_code 10 = .ok (.baload, 1) := by decide +kernel
theorem d9_11 : decode prog_11_method_26_code 11 = .ok (.bipush 45, 2) := by decide +kernel
theorem d9_13 : decode prog_11_method_26_code 13 = .ok (.if_icmp .ne 9, 3) := by decide +kernel
theorem d9_22 : decode prog_11_method_26_code 22 = .ok (.iload_n 1, 1) := by decide +kernel
theorem d9_23 : decode prog_11_method_26_code 23 = .ok (.istore_n 2, 1) := by decide +kernel
theorem d9_24 : decode prog_11_method_26_code 24 = .ok (.aload_n 0, 1) := by decide +kernel
theorem d9_25 : decode prog_11_method_26_code 25 = .ok (.iload_n 2, 1) := by decide +kernel
theorem d9_26 : decode prog_11_method_26_code 26 = .ok (.invokevirtual 296, 3) := by decide +kernel
theorem d9_29 : decode prog_11_method_26_code 29 = .ok (.istore_n 3, 1) := by decide +kernel
theorem d9_30 : decode prog_11_method_26_code 30 = .ok (.iload_n 3, 1) := by decide +kernel
theorem d9_31 : decode prog_11_method_26_code 31 = .ok (.iload_n 2, 1) := by decide +kernel
theorem d9_32 : decode prog_11_method_26_code 32 = .ok (.if_icmp .eq 21, 3) := by decide +kernel
theorem d9_35 : decode prog_11_method_26_code 35 = .ok (.aload_n 0, 1) := by decide +kernel
theorem d9_36 : decode prog_11_method_26_code 36 = .ok (.getfield 9, 3) := by decide +kernel
theorem d9_39 : decode prog_11_method_26_code 39 = .ok (.iload_n 2, 1) := by decide +kernel
theorem d9_40 : decode prog_11_method_26_code 40 = .ok (.baload, 1) := by decide +kernel
theorem d9_41 : decode prog_11_method_26_code 41 = .ok (.bipush 48, 2) := by decide +kernel
theorem d9_43 : decode prog_11_method_26_code 43 = .ok (.if_icmp .ne 14, 3) := by decide +kernel
theorem d9_57 : decode prog_11_method_26_code 57 = .ok (.iconst 1, 1) := by decide +kernel
theorem d9_58 : decode prog_11_method_26_code 58 = .ok (.istore 4, 2) := by decide +kernel
theorem d9_60 : decode prog_11_method_26_code 60 = .ok (.iload_n 3, 1) := by decide +kernel
theorem d9_61 : decode prog_11_method_26_code 61 = .ok (.aload_n 0, 1) := by decide +kernel
theorem d9_62 : decode prog_11_method_26_code 62 = .ok (.getfield 9, 3) := by decide +kernel
theorem d9_65 : decode prog_11_method_26_code 65 = .ok (.arraylength, 1) := by decide +kernel
theorem d9_66 : decode prog_11_method_26_code 66 = .ok (.if_icmp .ge 36, 3) := by decide +kernel
theorem d9_69 : decode prog_11_method_26_code 69 = .ok (.aload_n 0, 1) := by decide +kernel
theorem d9_70 : decode prog_11_method_26_code 70 = .ok (.getfield 9, 3) := by decide +kernel
theorem d9_73 : decode prog_11_method_26_code 73 = .ok (.iload_n 3, 1) := by decide +kernel
theorem d9_74 : decode prog_11_method_26_code 74 = .ok (.baload, 1) := by decide +kernel
theorem d9_75 : decode prog_11_method_26_code 75 = .ok (.bipush 46, 2) := by decide +kernel
theorem d9_77 : decode prog_11_method_26_code 77 = .ok (.if_icmp .ne 25, 3) := by decide +kernel
theorem d9_102 : decode prog_11_method_26_code 102 = .ok (.iload_n 3, 1) := by decide +kernel
theorem d9_103 : decode prog_11_method_26_code 103 = .ok (.aload_n 0, 1) := by decide +kernel
theorem d9_104 : decode prog_11_method_26_code 104 = .ok (.getfield 9, 3) := by decide +kernel
theorem d9_107 : decode prog_11_method_26_code 107 = .ok (.arraylength, 1) := by decide +kernel
theorem d9_108 : decode prog_11_method_26_code 108 = .ok (.if_icmp .ge 81, 3) := by decide +kernel
theorem d9_111 : decode prog_11_method_26_code 111 = .ok (.aload_n 0, 1) := by decide +kernel
theorem d9_112 : decode prog_11_method_26_code 112 = .ok (.getfield 9, 3) := by decide +kernel
theorem d9_115 : decode prog_11_method_26_code 115 = .ok (.iload_n 3, 1) := by decide +kernel
theorem d9_116 : decode prog_11_method_26_code 116 = .ok (.baload, 1) := by decide +kernel
theorem d9_117 : decode prog_11_method_26_code 117 = .ok (.bipush 101, 2) := by decide +kernel
theorem d9_119 : decode prog_11_method_26_code 119 = .ok (.if_icmp .eq 14, 3) := by decide +kernel
theorem d9_122 : decode prog_11_method_26_code 122 = .ok (.aload_n 0, 1) := by decide +kernel
theorem d9_123 : decode prog_11_method_26_code 123 = .ok (.getfield 9, 3) := by decide +kernel
theorem d9_126 : decode prog_11_method_26_code 126 = .ok (.iload_n 3, 1) := by decide +kernel
theorem d9_127 : decode prog_11_method_26_code 127 = .ok (.baload, 1) := by decide +kernel
theorem d9_128 : decode prog_11_method_26_code 128 = .ok (.bipush 69, 2) := by decide +kernel
theorem d9_130 : decode prog_11_method_26_code 130 = .ok (.if_icmp .ne 59, 3) := by decide +kernel
theorem d9_189 : decode prog_11_method_26_code 189 = .ok (.aload_n 0, 1) := by decide +kernel
theorem d9_190 : decode prog_11_method_26_code 190 = .ok (.iload_n 1, 1) := by decide +kernel
theorem d9_191 : decode prog_11_method_26_code 191 = .ok (.putfield 128, 3) := by decide +kernel
theorem d9_194 : decode prog_11_method_26_code 194 = .ok (.aload_n 0, 1) := by decide +kernel
theorem d9_195 : decode prog_11_method_26_code 195 = .ok (.iload_n 3, 1) := by decide +kernel
theorem d9_196 : decode prog_11_method_26_code 196 = .ok (.putfield 131, 3) := by decide +kernel
theorem d9_199 : decode prog_11_method_26_code 199 = .ok (.aload_n 0, 1) := by decide +kernel
theorem d9_200 : decode prog_11_method_26_code 200 = .ok (.iconst 0, 1) := by decide +kernel
theorem d9_201 : decode prog_11_method_26_code 201 = .ok (.putfield 125, 3) := by decide +kernel
theorem d9_204 : decode prog_11_method_26_code 204 = .ok (.aload_n 0, 1) := by decide +kernel
theorem d9_205 : decode prog_11_method_26_code 205 = .ok (.iconst 1, 1) := by decide +kernel
theorem d9_206 : decode prog_11_method_26_code 206 = .ok (.putfield 138, 3) := by decide +kernel
theorem d9_209 : decode prog_11_method_26_code 209 = .ok (.aload_n 0, 1) := by decide +kernel
theorem d9_210 : decode prog_11_method_26_code 210 = .ok (.iload 4, 2) := by decide +kernel
theorem d9_212 : decode prog_11_method_26_code 212 = .ok (.putfield 176, 3) := by decide +kernel
theorem d9_215 : decode prog_11_method_26_code 215 = .ok (.aload_n 0, 1) := by decide +kernel
theorem d9_216 : decode prog_11_method_26_code 216 = .ok (.iload_n 3, 1) := by decide +kernel
theorem d9_217 : decode prog_11_method_26_code 217 = .ok (.putfield 15, 3) := by decide +kernel
theorem d9_220 : decode prog_11_method_26_code 220 = .ok (.aload_n 0, 1) := by decide +kernel
theorem d9_221 : decode prog_11_method_26_code 221 = .ok (.iconst 0, 1) := by decide +kernel
theorem d9_222 : decode prog_11_method_26_code 222 = .ok (.putfield 84, 3) := by decide +kernel
theorem d9_225 : decode prog_11_method_26_code 225 = .ok (.return_, 1) := by decide +kernel
theorem ef_rmRn_2_n (m : MethodId) (a0 : Addr) : entryFrame m #[(.ref a0)] 5 = mkF m 0 #[.val (.ref a0), .unset, .unset, .unset, .unset] [] := by first | (simp [entryFrame, mkF, argsToLocals, Value.category]; done) | rfl
def Q_rmRn_2_n (Z : State) (a0 : Addr) (ba : Addr) (md : Int32) (dp : Int32) (fi : Int32) (ts : Int32) (xs : Int32) (xe : Int32) (es : Int32) (as_ : Int32) (ig : Int32) (k_ba : ClassId) (h0 : Heap) (n0 : Nat) (v : Option Value) (h : Heap) (L : List Loc) : Prop := v = none ∧ Fr n0 L ∧ Keep h0 h [a0] ∧ Exa Z h a0 cs0 ∧ Fld Z h a0 cs0 "bytes" "[B" (.ref ba) ∧ Fld Z h a0 cs0 "maxDepth" "I" (.int md) ∧ Fld Z h a0 cs0 "position" "I" (.int (4 : Int32)) ∧ Fld Z h a0 cs0 "depth" "I" (.int dp) ∧ Fld Z h a0 cs0 "first" "Z" (.int (0 : Int32)) ∧ Fld Z h a0 cs0 "token" "Lcom/example/bad_status/badstatus/model/JsonReader$Token;" .null ∧ Fld Z h a0 cs0 "tokenStart" "I" (.int ts) ∧ Fld Z h a0 cs0 "textStart" "I" (.int (2 : Int32)) ∧ Fld Z h a0 cs0 "textEnd" "I" (.int (4 : Int32)) ∧ Fld Z h a0 cs0 "escaped" "Z" (.int (0 : Int32)) ∧ Fld Z h a0 cs0 "ascii" "Z" (.int (1 : Int32)) ∧ Fld Z h a0 cs0 "integral" "Z" (.int (1 : Int32))
set_option maxRecDepth 65536 in
set_option maxHeartbeats 40000000 in
theorem rmRn_2_n (l : Launch) (Z : State) (av0 : Array Value) (hw : ∀ d ∈ tables_1, d.before av0 Z = true) (ws : List Jvm.Cond) (a0 : Addr) (ba : Addr) (md : Int32) (dp : Int32) (fi : Int32) (ts : Int32) (xs : Int32) (xe : Int32) (es : Int32) (as_ : Int32) (ig : Int32) (k_ba : ClassId) (h0 : Heap) (n0 : Nat) (Z0 : n0 ≤ h0.size) (E_a0 : Exa Z h0 a0 cs0) (F_bytes_a0 : Fld Z h0 a0 cs0 "bytes" "[B" (.ref ba)) (F_maxDepth_a0 : Fld Z h0 a0 cs0 "maxDepth" "I" (.int md)) (F_position_a0 : Fld Z h0 a0 cs0 "position" "I" (.int (2 : Int32))) (F_depth_a0 : Fld Z h0 a0 cs0 "depth" "I" (.int dp)) (F_first_a0 : Fld Z h0 a0 cs0 "first" "Z" (.int fi)) (F_token_a0 : Fld Z h0 a0 cs0 "token" "Lcom/example/bad_status/badstatus/model/JsonReader$Token;" .null) (F_tokenStart_a0 : Fld Z h0 a0 cs0 "tokenStart" "I" (.int ts)) (F_textStart_a0 : Fld Z h0 a0 cs0 "textStart" "I" (.int xs)) (F_textEnd_a0 : Fld Z h0 a0 cs0 "textEnd" "I" (.int xe)) (F_escaped_a0 : Fld Z h0 a0 cs0 "escaped" "Z" (.int es)) (F_ascii_a0 : Fld Z h0 a0 cs0 "ascii" "Z" (.int as_)) (F_integral_a0 : Fld Z h0 a0 cs0 "integral" "Z" (.int ig)) (g_a0 : n0 ≤ a0) (V_ba : Arv Z h0 ba k_ba .byte (10 : Int32) [(.int (91 : Int32)), (.int (32 : Int32)), (.int (52 : Int32)), (.int (50 : Int32)), (.int (44 : Int32)), (.int (91 : Int32)), (.int (116 : Int32)), (.int (114 : Int32)), (.int (117 : Int32)), (.int (101 : Int32))] (.int (0 : Int32))) (ne_ba_a0 : ba ≠ a0) :
    MetFree l (⟨cs0, "readNumber", "()V"⟩ : MethodName) (head1 (Jvm.Cond.code (⟨cs0, "readNumber", "()V"⟩ : MethodName) prog_11_method_26_code 5 none :: ws) ({ frames := 2, cells := 0, slots := 0, locals := 26 } : Room)) (fun a U => a = #[(.ref a0)] ∧ Z.Warmed39 U.vm ∧ U.heap = h0) (fun _ _ _ _ _ => True) (fun _ U o U' => ∃ v L, o = .returned v ∧ Q_rmRn_2_n Z a0 ba md dp fi ts xs xe es as_ ig k_ba h0 n0 v U'.heap L ∧ FrameEnd U o U' L ({ frames := 2, cells := 0, slots := 0, locals := 26 } : Room).cells ({ frames := 2, cells := 0, slots := 0, locals := 26 } : Room).slots) := by
  refine MetFree.of_bodySF (plainFor_of_name pn_0) hisR ?_
  intro p e s m args below meth c s₁ Bd hml0 hP hK
  obtain ⟨rfl, hZ, hh⟩ := hP
  have hx := Bd.exec
  have hby := Bd.bytes
  have hml : c.maxLocals = 5 := hml0
  have dd : ∀ {pc : Nat} {r : Except DecodeError (Instr × Nat)}, decode prog_11_method_26_code pc = r → decode c.code pc = r := fun q => hb hby q
  have hown : s.vm.findClass cs0 = some m.cls := findClass_of_methodNamed Bd.named
  have hnm := (name_of_methodNamed Bd.named Bd.method).1
  have X0 : Stand p l e ({ frames := 2, cells := 0, slots := 0, locals := 26 } : Room) s m #[(.ref a0)] below meth c s₁ [] 0 0 := Stand.of_body Bd
  have e0 : s₁.heap = h0 := by rw [← hh, Bd.state]; rfl
  have N0 := Fr.nil n0
  have hret := Bd.returns
  have hlk := Bd.notSynchronized
  show Gz p e below s ({ frames := 2, cells := 0, slots := 0, locals := 26 } : Room).cells ({ frames := 2, cells := 0, slots := 0, locals := 26 } : Room).slots (Q_rmRn_2_n Z a0 ba md dp fi ts xs xe es as_ ig k_ba h0 n0) (s₁.setTop (entryFrame m #[(.ref a0)] 5))
  refine Gz.enter (ef_rmRn_2_n m a0) ?_
  refine Gz.aloadN 1 X0 hx (dd d9_0) rfl rfl rfl ?_
  refine Gz.getF 4 X0 hx hZ hown (dd d9_1) (host := "") (Or.inl (ww hw 24 rfl)) Via.refl e0 F_position_a0 rfl fun T1 X1 e1 => ?_
  refine Gz.istoreN 5 #[.val (.ref a0), .val (.int (2 : Int32)), .unset, .unset, .unset] X1 hx (dd d9_4) rfl rfl ?_
  refine Gz.aloadN 6 X1 hx (dd d9_5) rfl rfl rfl ?_
  refine Gz.getF 9 X1 hx hZ hown (dd d9_6) (host := "") (Or.inl (ww hw 22 rfl)) Via.refl e1 F_bytes_a0 rfl fun T2 X2 e2 => ?_
  refine Gz.iloadN 10 X2 hx (dd d9_9) rfl rfl ?_
  obtain ⟨c3, A3, q3, S3, N3, H3, G3⟩ := id V_ba
  have hin3 : ¬ ((2 : Int32) < 0 ∨ c3.slots.size ≤ ((2 : Int32)).toNatClampNeg) := inb_of S3 ⟨by decide, by decide⟩
  refine Gz.ldB 11 X2 hx hZ (dd d9_10) e2 A3 hin3 (Has.at H3 hin3 (rfl : _ = ((.int (52 : Int32)) : Value))) rfl ?_
  refine Gz.bipush 13 (45 : Int32) X2 hx (dd d9_11) rfl rfl ?_
  refine Gz.icmpYes 22 X2 hx (dd d9_13) (feq (by decide : ¬ ((52 : Int32) = (45 : Int32)))).2 (by decide) (by decide) ?_
  refine Gz.iloadN 23 X2 hx (dd d9_22) rfl rfl ?_
  refine Gz.istoreN 24 #[.val (.ref a0), .val (.int (2 : Int32)), .val (.int (2 : Int32)), .unset, .unset] X2 hx (dd d9_23) rfl rfl ?_
  refine Gz.aloadN 25 X2 hx (dd d9_24) rfl rfl rfl ?_
  refine Gz.iloadN 26 X2 hx (dd d9_25) rfl rfl ?_
  obtain ⟨cq4, q4, q4'⟩ := E_a0.cell
  obtain ⟨_, _, ⟨T4, L4, k4, n4⟩, -, X4, ⟨Lc4, hQ4, l4, y4, z4⟩, st4⟩ := X2.privateBack hx (y := ym12) hown (mvT hZ (ww hw 66 rfl)) (mvT hZ (ww hw 67 rfl)) (own_selp (y := ym12) (y' := ym8) rfl (mvT hZ (ww hw 31 rfl)) (mvT hZ (ww hw 30 rfl)) (mvT hZ (ww hw 67 rfl)) (Cond.privateMethod_at (mvP hZ (ww hw 68 rfl) (args := #[]))) (by decide)) (Cond.privateMethod_at (mvP hZ (ww hw 68 rfl) (args := #[]))) (mvT hZ (ww hw 69 rfl)) (by decide) (backOf (W := 0) (rmDe_2 l Z av0 hw [] a0 ba k_ba h0 n0 Z0 F_bytes_a0 V_ba) hZ (ww hw 69 rfl) (ww hw 15 rfl) (by decide) (by decide)) (g := (mkF m 26 #[.val (.ref a0), .val (.int (2 : Int32)), .val (.int (2 : Int32)), .unset, .unset] [(.int (2 : Int32)), (.ref a0)])) rfl (by rw [hml]; rfl) (Steps.refl _) (a := a0) (by rw [e2]; exact q4) q4' (argsL := [(.int (2 : Int32))]) (rest := []) (lenOf pd_10 rfl) rfl (Nat.le_refl _) (dd d9_26) (fun _ _ => ⟨rfl, e2, (by decide : 0 + 0 ≤ _), (by decide : 0 + 0 ≤ _)⟩)
  dsimp only [Pt.U, Pt.locs, Pt.cells, Pt.slots, Q_rmDe_2] at X4 l4 y4 z4 st4 hQ4
  subst l4 y4 z4
  rw [show (fDe_2 a0 ba) = (4 : Int32) from (by unfold fDe_2; rfl)] at hQ4
  obtain ⟨rfl, N4q, e4⟩ := hQ4
  have N4 := Fr.app N0 N4q
  refine Gz.tr st4 ?_
  refine Gz.istoreN 30 #[.val (.ref a0), .val (.int (2 : Int32)), .val (.int (2 : Int32)), .val (.int (4 : Int32)), .unset] X4 hx (dd d9_29) rfl rfl ?_
  refine Gz.iloadN 31 X4 hx (dd d9_30) rfl rfl ?_
  refine Gz.iloadN 32 X4 hx (dd d9_31) rfl rfl ?_
  refine Gz.icmpNo 35 X4 hx (dd d9_32) (feq (by decide : ¬ ((4 : Int32) = (2 : Int32)))).1 rfl ?_
  refine Gz.aloadN 36 X4 hx (dd d9_35) rfl rfl rfl ?_
  refine Gz.getF 39 X4 hx hZ hown (dd d9_36) (host := "") (Or.inl (ww hw 22 rfl)) Via.refl e4 F_bytes_a0 rfl fun T5 X5 e5 => ?_
  refine Gz.iloadN 40 X5 hx (dd d9_39) rfl rfl ?_
  obtain ⟨c6, A6, q6, S6, N6, H6, G6⟩ := id V_ba
  have hin6 : ¬ ((2 : Int32) < 0 ∨ c6.slots.size ≤ ((2 : Int32)).toNatClampNeg) := inb_of S6 ⟨by decide, by decide⟩
  refine Gz.ldB 41 X5 hx hZ (dd d9_40) e5 A6 hin6 (Has.at H6 hin6 (rfl : _ = ((.int (52 : Int32)) : Value))) rfl ?_
  refine Gz.bipush 43 (48 : Int32) X5 hx (dd d9_41) rfl rfl ?_
  refine Gz.icmpYes 57 X5 hx (dd d9_43) (feq (by decide : ¬ ((52 : Int32) = (48 : Int32)))).2 (by decide) (by decide) ?_
  refine Gz.iconst 58 (1 : Int32) X5 hx (dd d9_57) rfl rfl ?_
  refine Gz.istore 60 #[.val (.ref a0), .val (.int (2 : Int32)), .val (.int (2 : Int32)), .val (.int (4 : Int32)), .val (.int (1 : Int32))] X5 hx (dd d9_58) rfl rfl ?_
  refine Gz.iloadN 61 X5 hx (dd d9_60) rfl rfl ?_
  refine Gz.aloadN 62 X5 hx (dd d9_61) rfl rfl rfl ?_
  refine Gz.getF 65 X5 hx hZ hown (dd d9_62) (host := "") (Or.inl (ww hw 22 rfl)) Via.refl e5 F_bytes_a0 rfl fun T7 X7 e7 => ?_
  obtain ⟨c8, A8, -, S8, N8, -, -⟩ := id V_ba
  refine Gz.alen 66 X7 hx hZ (dd d9_65) e7 A8 S8 N8 rfl ?_
  refine Gz.icmpNo 69 X7 hx (dd d9_66) (tlt (by decide : (4 : Int32) < (10 : Int32))).2.1 rfl ?_
  refine Gz.aloadN 70 X7 hx (dd d9_69) rfl rfl rfl ?_
  refine Gz.getF 73 X7 hx hZ hown (dd d9_70) (host := "") (Or.inl (ww hw 22 rfl)) Via.refl e7 F_bytes_a0 rfl fun T9 X9 e9 => ?_
  refine Gz.iloadN 74 X9 hx (dd d9_73) rfl rfl ?_
  obtain ⟨c10, A10, q10, S10, N10, H10, G10⟩ := id V_ba
  have hin10 : ¬ ((4 : Int32) < 0 ∨ c10.slots.size ≤ ((4 : Int32)).toNatClampNeg) := inb_of S10 ⟨by decide, by decide⟩
  refine Gz.ldB 75 X9 hx hZ (dd d9_74) e9 A10 hin10 (Has.at H10 hin10 (rfl : _ = ((.int (44 : Int32)) : Value))) rfl ?_
  refine Gz.bipush 77 (46 : Int32) X9 hx (dd d9_75) rfl rfl ?_
  refine Gz.icmpYes 102 X9 hx (dd d9_77) (feq (by decide : ¬ ((44 : Int32) = (46 : Int32)))).2 (by decide) (by decide) ?_
  refine Gz.iloadN 103 X9 hx (dd d9_102) rfl rfl ?_
  refine Gz.aloadN 104 X9 hx (dd d9_103) rfl rfl rfl ?_
  refine Gz.getF 107 X9 hx hZ hown (dd d9_104) (host := "") (Or.inl (ww hw 22 rfl)) Via.refl e9 F_bytes_a0 rfl fun T11 X11 e11 => ?_
  obtain ⟨c12, A12, -, S12, N12, -, -⟩ := id V_ba
  refine Gz.alen 108 X11 hx hZ (dd d9_107) e11 A12 S12 N12 rfl ?_
  refine Gz.icmpNo 111 X11 hx (dd d9_108) (tlt (by decide : (4 : Int32) < (10 : Int32))).2.1 rfl ?_
  refine Gz.aloadN 112 X11 hx (dd d9_111) rfl rfl rfl ?_
  refine Gz.getF 115 X11 hx hZ hown (dd d9_112) (host := "") (Or.inl (ww hw 22 rfl)) Via.refl e11 F_bytes_a0 rfl fun T13 X13 e13 => ?_
  refine Gz.iloadN 116 X13 hx (dd d9_115) rfl rfl ?_
  obtain ⟨c14, A14, q14, S14, N14, H14, G14⟩ := id V_ba
  have hin14 : ¬ ((4 : Int32) < 0 ∨ c14.slots.size ≤ ((4 : Int32)).toNatClampNeg) := inb_of S14 ⟨by decide, by decide⟩
  refine Gz.ldB 117 X13 hx hZ (dd d9_116) e13 A14 hin14 (Has.at H14 hin14 (rfl : _ = ((.int (44 : Int32)) : Value))) rfl ?_
  refine Gz.bipush 119 (101 : Int32) X13 hx (dd d9_117) rfl rfl ?_
  refine Gz.icmpNo 122 X13 hx (dd d9_119) (feq (by decide : ¬ ((44 : Int32) = (101 : Int32)))).1 rfl ?_
  refine Gz.aloadN 123 X13 hx (dd d9_122) rfl rfl rfl ?_
  refine Gz.getF 126 X13 hx hZ hown (dd d9_123) (host := "") (Or.inl (ww hw 22 rfl)) Via.refl e13 F_bytes_a0 rfl fun T15 X15 e15 => ?_
  refine Gz.iloadN 127 X15 hx (dd d9_126) rfl rfl ?_
  obtain ⟨c16, A16, q16, S16, N16, H16, G16⟩ := id V_ba
  have hin16 : ¬ ((4 : Int32) < 0 ∨ c16.slots.size ≤ ((4 : Int32)).toNatClampNeg) := inb_of S16 ⟨by decide, by decide⟩
  refine Gz.ldB 128 X15 hx hZ (dd d9_127) e15 A16 hin16 (Has.at H16 hin16 (rfl : _ = ((.int (44 : Int32)) : Value))) rfl ?_
  refine Gz.bipush 130 (69 : Int32) X15 hx (dd d9_128) rfl rfl ?_
  refine Gz.icmpYes 189 X15 hx (dd d9_130) (feq (by decide : ¬ ((44 : Int32) = (69 : Int32)))).2 (by decide) (by decide) ?_
  refine Gz.aloadN 190 X15 hx (dd d9_189) rfl rfl rfl ?_
  refine Gz.iloadN 191 X15 hx (dd d9_190) rfl rfl ?_
  refine Gz.putF 194 X15 hx hZ hown .int (dd d9_191) (host := "") (Or.inl (ww hw 70 rfl)) Via.refl e15 F_textStart_a0 E_a0 (Or.inl (ww hw 71 rfl)) (ww hw 14 rfl) (by decide) rfl rfl rfl fun T17 h17 X17 e17 W17 => ?_
  have f17_E_a0 := Exa.wr W17 E_a0
  have f17_F_bytes_a0 := Fld.other W17 F_bytes_a0 (Or.inr (Ne.symm <| sn6 hw))
  have f17_F_maxDepth_a0 := Fld.other W17 F_maxDepth_a0 (Or.inr (Ne.symm <| sn25 hw))
  have f17_F_position_a0 := Fld.other W17 F_position_a0 (Or.inr (Ne.symm <| sn16 hw))
  have f17_F_depth_a0 := Fld.other W17 F_depth_a0 (Or.inr (Ne.symm <| sn41 hw))
  have f17_F_first_a0 := Fld.other W17 F_first_a0 (Or.inr (Ne.symm <| sn47 hw))
  have f17_F_token_a0 := Fld.other W17 F_token_a0 (Or.inr (Ne.symm <| sn52 hw))
  have f17_F_tokenStart_a0 := Fld.other W17 F_tokenStart_a0 (Or.inr (Ne.symm <| sn34 hw))
  have f17_F_textEnd_a0 := Fld.other W17 F_textEnd_a0 (Or.inr (sn57 hw))
  have f17_F_escaped_a0 := Fld.other W17 F_escaped_a0 (Or.inr (sn58 hw))
  have f17_F_ascii_a0 := Fld.other W17 F_ascii_a0 (Or.inr (sn59 hw))
  have f17_F_integral_a0 := Fld.other W17 F_integral_a0 (Or.inr (sn60 hw))
  have f17_V_ba := Arv.other V_ba W17 ne_ba_a0
  have f17_F_textStart_a0 := Fld.same W17 F_textStart_a0
  have N17 := Fr.snoc X17 N4 g_a0
  have SZ17 : n0 ≤ h17.size := Nat.le_trans Z0 (Keep.of_wr W17).1
  have K17 := Keep.wr (Keep.refl h0 [a0]) W17 (Or.inl (List.mem_of_getElem? (i := 0) rfl))
  refine Gz.aloadN 195 X17 hx (dd d9_194) rfl rfl rfl ?_
  refine Gz.iloadN 196 X17 hx (dd d9_195) rfl rfl ?_
  refine Gz.putF 199 X17 hx hZ hown .int (dd d9_196) (host := "") (Or.inl (ww hw 72 rfl)) Via.refl e17 f17_F_textEnd_a0 f17_E_a0 (Or.inl (ww hw 73 rfl)) (ww hw 14 rfl) (by decide) rfl rfl rfl fun T18 h18 X18 e18 W18 => ?_
  have f18_E_a0 := Exa.wr W18 f17_E_a0
  have f18_F_bytes_a0 := Fld.other W18 f17_F_bytes_a0 (Or.inr (Ne.symm <| sn7 hw))
  have f18_F_maxDepth_a0 := Fld.other W18 f17_F_maxDepth_a0 (Or.inr (Ne.symm <| sn26 hw))
  have f18_F_position_a0 := Fld.other W18 f17_F_position_a0 (Or.inr (Ne.symm <| sn17 hw))
  have f18_F_depth_a0 := Fld.other W18 f17_F_depth_a0 (Or.inr (Ne.symm <| sn42 hw))
  have f18_F_first_a0 := Fld.other W18 f17_F_first_a0 (Or.inr (Ne.symm <| sn48 hw))
  have f18_F_token_a0 := Fld.other W18 f17_F_token_a0 (Or.inr (Ne.symm <| sn53 hw))
  have f18_F_tokenStart_a0 := Fld.other W18 f17_F_tokenStart_a0 (Or.inr (Ne.symm <| sn35 hw))
  have f18_F_textStart_a0 := Fld.other W18 f17_F_textStart_a0 (Or.inr (Ne.symm <| sn57 hw))
  have f18_F_escaped_a0 := Fld.other W18 f17_F_escaped_a0 (Or.inr (sn61 hw))
  have f18_F_ascii_a0 := Fld.other W18 f17_F_ascii_a0 (Or.inr (sn62 hw))
  have f18_F_integral_a0 := Fld.other W18 f17_F_integral_a0 (Or.inr (sn63 hw))
  have f18_V_ba := Arv.other f17_V_ba W18 ne_ba_a0
  have f18_F_textEnd_a0 := Fld.same W18 f17_F_textEnd_a0
  have N18 := Fr.snoc X18 N17 g_a0
  have SZ18 : n0 ≤ h18.size := Nat.le_trans SZ17 (Keep.of_wr W18).1
  have K18 := Keep.wr K17 W18 (Or.inl (List.mem_of_getElem? (i := 0) rfl))
  refine Gz.aloadN 200 X18 hx (dd d9_199) rfl rfl rfl ?_
  refine Gz.iconst 201 (0 : Int32) X18 hx (dd d9_200) rfl rfl ?_
  refine Gz.putF 204 X18 hx hZ hown .boolean (dd d9_201) (host := "") (Or.inl (ww hw 74 rfl)) Via.refl e18 f18_F_escaped_a0 f18_E_a0 (Or.inl (ww hw 75 rfl)) (ww hw 14 rfl) (by decide) rfl rfl rfl fun T19 h19 X19 e19 W19 => ?_
  have f19_E_a0 := Exa.wr W19 f18_E_a0
  have f19_F_bytes_a0 := Fld.other W19 f18_F_bytes_a0 (Or.inr (Ne.symm <| sn8 hw))
  have f19_F_maxDepth_a0 := Fld.other W19 f18_F_maxDepth_a0 (Or.inr (Ne.symm <| sn27 hw))
  have f19_F_position_a0 := Fld.other W19 f18_F_position_a0 (Or.inr (Ne.symm <| sn18 hw))
  have f19_F_depth_a0 := Fld.other W19 f18_F_depth_a0 (Or.inr (Ne.symm <| sn43 hw))
  have f19_F_first_a0 := Fld.other W19 f18_F_first_a0 (Or.inr (Ne.symm <| sn49 hw))
  have f19_F_token_a0 := Fld.other W19 f18_F_token_a0 (Or.inr (Ne.symm <| sn54 hw))
  have f19_F_tokenStart_a0 := Fld.other W19 f18_F_tokenStart_a0 (Or.inr (Ne.symm <| sn36 hw))
  have f19_F_textStart_a0 := Fld.other W19 f18_F_textStart_a0 (Or.inr (Ne.symm <| sn58 hw))
  have f19_F_textEnd_a0 := Fld.other W19 f18_F_textEnd_a0 (Or.inr (Ne.symm <| sn61 hw))
  have f19_F_ascii_a0 := Fld.other W19 f18_F_ascii_a0 (Or.inr (sn64 hw))
  have f19_F_integral_a0 := Fld.other W19 f18_F_integral_a0 (Or.inr (sn65 hw))
  have f19_V_ba := Arv.other f18_V_ba W19 ne_ba_a0
  have f19_F_escaped_a0 := Fld.same W19 f18_F_escaped_a0
  have N19 := Fr.snoc X19 N18 g_a0
  have SZ19 : n0 ≤ h19.size := Nat.le_trans SZ18 (Keep.of_wr W19).1
  have K19 := Keep.wr K18 W19 (Or.inl (List.mem_of_getElem? (i := 0) rfl))
  refine Gz.aloadN 205 X19 hx (dd d9_204) rfl rfl rfl ?_
  refine Gz.iconst 206 (1 : Int32) X19 hx (dd d9_205) rfl rfl ?_
  refine Gz.putF 209 X19 hx hZ hown .boolean (dd d9_206) (host := "") (Or.inl (ww hw 76 rfl)) Via.refl e19 f19_F_ascii_a0 f19_E_a0 (Or.inl (ww hw 77 rfl)) (ww hw 14 rfl) (by decide) rfl rfl rfl fun T20 h20 X20 e20 W20 => ?_
  have f20_E_a0 := Exa.wr W20 f19_E_a0
  have f20_F_bytes_a0 := Fld.other W20 f19_F_bytes_a0 (Or.inr (Ne.symm <| sn9 hw))
  have f20_F_maxDepth_a0 := Fld.other W20 f19_F_maxDepth_a0 (Or.inr (Ne.symm <| sn28 hw))
  have f20_F_position_a0 := Fld.other W20 f19_F_position_a0 (Or.inr (Ne.symm <| sn19 hw))
  have f20_F_depth_a0 := Fld.other W20 f19_F_depth_a0 (Or.inr (Ne.symm <| sn44 hw))
  have f20_F_first_a0 := Fld.other W20 f19_F_first_a0 (Or.inr (Ne.symm <| sn50 hw))
  have f20_F_token_a0 := Fld.other W20 f19_F_token_a0 (Or.inr (Ne.symm <| sn55 hw))
  have f20_F_tokenStart_a0 := Fld.other W20 f19_F_tokenStart_a0 (Or.inr (Ne.symm <| sn37 hw))
  have f20_F_textStart_a0 := Fld.other W20 f19_F_textStart_a0 (Or.inr (Ne.symm <| sn59 hw))
  have f20_F_textEnd_a0 := Fld.other W20 f19_F_textEnd_a0 (Or.inr (Ne.symm <| sn62 hw))
  have f20_F_escaped_a0 := Fld.other W20 f19_F_escaped_a0 (Or.inr (Ne.symm <| sn64 hw))
  have f20_F_integral_a0 := Fld.other W20 f19_F_integral_a0 (Or.inr (sn66 hw))
  have f20_V_ba := Arv.other f19_V_ba W20 ne_ba_a0
  have f20_F_ascii_a0 := Fld.same W20 f19_F_ascii_a0
  have N20 := Fr.snoc X20 N19 g_a0
  have SZ20 : n0 ≤ h20.size := Nat.le_trans SZ19 (Keep.of_wr W20).1
  have K20 := Keep.wr K19 W20 (Or.inl (List.mem_of_getElem? (i := 0) rfl))
  refine Gz.aloadN 210 X20 hx (dd d9_209) rfl rfl rfl ?_
  refine Gz.iload 212 X20 hx (dd d9_210) rfl rfl ?_
  refine Gz.putF 215 X20 hx hZ hown .boolean (dd d9_212) (host := "") (Or.inl (ww hw 78 rfl)) Via.refl e20 f20_F_integral_a0 f20_E_a0 (Or.inl (ww hw 79 rfl)) (ww hw 14 rfl) (by decide) rfl rfl rfl fun T21 h21 X21 e21 W21 => ?_
  have f21_E_a0 := Exa.wr W21 f20_E_a0
  have f21_F_bytes_a0 := Fld.other W21 f20_F_bytes_a0 (Or.inr (Ne.symm <| sn10 hw))
  have f21_F_maxDepth_a0 := Fld.other W21 f20_F_maxDepth_a0 (Or.inr (Ne.symm <| sn29 hw))
  have f21_F_position_a0 := Fld.other W21 f20_F_position_a0 (Or.inr (Ne.symm <| sn20 hw))
  have f21_F_depth_a0 := Fld.other W21 f20_F_depth_a0 (Or.inr (Ne.symm <| sn45 hw))
  have f21_F_first_a0 := Fld.other W21 f20_F_first_a0 (Or.inr (Ne.symm <| sn51 hw))
  have f21_F_token_a0 := Fld.other W21 f20_F_token_a0 (Or.inr (Ne.symm <| sn56 hw))
  have f21_F_tokenStart_a0 := Fld.other W21 f20_F_tokenStart_a0 (Or.inr (Ne.symm <| sn38 hw))
  have f21_F_textStart_a0 := Fld.other W21 f20_F_textStart_a0 (Or.inr (Ne.symm <| sn60 hw))
  have f21_F_textEnd_a0 := Fld.other W21 f20_F_textEnd_a0 (Or.inr (Ne.symm <| sn63 hw))
  have f21_F_escaped_a0 := Fld.other W21 f20_F_escaped_a0 (Or.inr (Ne.symm <| sn65 hw))
  have f21_F_ascii_a0 := Fld.other W21 f20_F_ascii_a0 (Or.inr (Ne.symm <| sn66 hw))
  have f21_V_ba := Arv.other f20_V_ba W21 ne_ba_a0
  have f21_F_integral_a0 := Fld.same W21 f20_F_integral_a0
  have N21 := Fr.snoc X21 N20 g_a0
  have SZ21 : n0 ≤ h21.size := Nat.le_trans SZ20 (Keep.of_wr W21).1
  have K21 := Keep.wr K20 W21 (Or.inl (List.mem_of_getElem? (i := 0) rfl))
  refine Gz.aloadN 216 X21 hx (dd d9_215) rfl rfl rfl ?_
  refine Gz.iloadN 217 X21 hx (dd d9_216) rfl rfl ?_
  refine Gz.putF 220 X21 hx hZ hown .int (dd d9_217) (host := "") (Or.inl (ww hw 24 rfl)) Via.refl e21 f21_F_position_a0 f21_E_a0 (Or.inl (ww hw 25 rfl)) (ww hw 14 rfl) (by decide) rfl rfl rfl fun T22 h22 X22 e22 W22 => ?_
  have f22_E_a0 := Exa.wr W22 f21_E_a0
  have f22_F_bytes_a0 := Fld.other W22 f21_F_bytes_a0 (Or.inr (Ne.symm <| sn1 hw))
  have f22_F_maxDepth_a0 := Fld.other W22 f21_F_maxDepth_a0 (Or.inr (sn11 hw))
  have f22_F_depth_a0 := Fld.other W22 f21_F_depth_a0 (Or.inr (sn12 hw))
  have f22_F_first_a0 := Fld.other W22 f21_F_first_a0 (Or.inr (sn13 hw))
  have f22_F_token_a0 := Fld.other W22 f21_F_token_a0 (Or.inr (sn14 hw))
  have f22_F_tokenStart_a0 := Fld.other W22 f21_F_tokenStart_a0 (Or.inr (sn15 hw))
  have f22_F_textStart_a0 := Fld.other W22 f21_F_textStart_a0 (Or.inr (sn16 hw))
  have f22_F_textEnd_a0 := Fld.other W22 f21_F_textEnd_a0 (Or.inr (sn17 hw))
  have f22_F_escaped_a0 := Fld.other W22 f21_F_escaped_a0 (Or.inr (sn18 hw))
  have f22_F_ascii_a0 := Fld.other W22 f21_F_ascii_a0 (Or.inr (sn19 hw))
  have f22_F_integral_a0 := Fld.other W22 f21_F_integral_a0 (Or.inr (sn20 hw))
  have f22_V_ba := Arv.other f21_V_ba W22 ne_ba_a0
  have f22_F_position_a0 := Fld.same W22 f21_F_position_a0
  have N22 := Fr.snoc X22 N21 g_a0
  have SZ22 : n0 ≤ h22.size := Nat.le_trans SZ21 (Keep.of_wr W22).1
  have K22 := Keep.wr K21 W22 (Or.inl (List.mem_of_getElem? (i := 0) rfl))
  refine Gz.aloadN 221 X22 hx (dd d9_220) rfl rfl rfl ?_
  refine Gz.iconst 222 (0 : Int32) X22 hx (dd d9_221) rfl rfl ?_
  refine Gz.putF 225 X22 hx hZ hown .boolean (dd d9_222) (host := "") (Or.inl (ww hw 49 rfl)) Via.refl e22 f22_F_first_a0 f22_E_a0 (Or.inl (ww hw 50 rfl)) (ww hw 14 rfl) (by decide) rfl rfl rfl fun T23 h23 X23 e23 W23 => ?_
  have f23_E_a0 := Exa.wr W23 f22_E_a0
  have f23_F_bytes_a0 := Fld.other W23 f22_F_bytes_a0 (Or.inr (Ne.symm <| sn3 hw))
  have f23_F_maxDepth_a0 := Fld.other W23 f22_F_maxDepth_a0 (Or.inr (Ne.symm <| sn22 hw))
  have f23_F_position_a0 := Fld.other W23 f22_F_position_a0 (Or.inr (Ne.symm <| sn13 hw))
  have f23_F_depth_a0 := Fld.other W23 f22_F_depth_a0 (Or.inr (Ne.symm <| sn39 hw))
  have f23_F_token_a0 := Fld.other W23 f22_F_token_a0 (Or.inr (sn46 hw))
  have f23_F_tokenStart_a0 := Fld.other W23 f22_F_tokenStart_a0 (Or.inr (Ne.symm <| sn32 hw))
  have f23_F_textStart_a0 := Fld.other W23 f22_F_textStart_a0 (Or.inr (sn47 hw))
  have f23_F_textEnd_a0 := Fld.other W23 f22_F_textEnd_a0 (Or.inr (sn48 hw))
  have f23_F_escaped_a0 := Fld.other W23 f22_F_escaped_a0 (Or.inr (sn49 hw))
  have f23_F_ascii_a0 := Fld.other W23 f22_F_ascii_a0 (Or.inr (sn50 hw))
  have f23_F_integral_a0 := Fld.other W23 f22_F_integral_a0 (Or.inr (sn51 hw))
  have f23_V_ba := Arv.other f22_V_ba W23 ne_ba_a0
  have f23_F_first_a0 := Fld.same W23 f22_F_first_a0
  have N23 := Fr.snoc X23 N22 g_a0
  have SZ23 : n0 ≤ h23.size := Nat.le_trans SZ22 (Keep.of_wr W23).1
  have K23 := Keep.wr K22 W23 (Or.inl (List.mem_of_getElem? (i := 0) rfl))
  refine Gz.fin X23 (v := none) (fun _ => rfl) hlk (by decide) (by decide) (fun fs hr => X23.returnOut hx hret (dd d9_225) hr) ?_
  rw [e23]
  exact ⟨rfl, N23, K23, f23_E_a0, f23_F_bytes_a0, f23_F_maxDepth_a0, f23_F_position_a0, f23_F_depth_a0, f23_F_first_a0, f23_F_token_a0, f23_F_tokenStart_a0, f23_F_textStart_a0, f23_F_textEnd_a0, f23_F_escaped_a0, f23_F_ascii_a0, f23_F_integral_a0⟩
abbrev ym13 : MethodName := ⟨cs0, "readNumber", "()V"⟩
theorem d3_147 : decode prog_11_method_2_code 147 = .ok (.iload_n 1, 1) := by decide +kernel
theorem d3_148 : decode prog_11_method_2_code 148 = .ok (.bipush 45, 2) := by decide +kernel
theorem d3_150 : decode prog_11_method_2_code 150 = .ok (.if_icmp .eq 15, 3) := by decide +kernel
theorem d3_153 : decode prog_11_method_2_code 153 = .ok (.iload_n 1, 1) := by decide +kernel
theorem d3_154 : decode prog_11_method_2_code 154 = .ok (.invokestatic 67, 3) := by decide +kernel
theorem d3_157 : decode prog_11_method_2_code 157 = .ok (.ifCond .ne 8, 3) := by decide +kernel
theorem d3_165 : decode prog_11_method_2_code 165 = .ok (.aload_n 0, 1) := by decide +kernel
theorem d3_166 : decode prog_11_method_2_code 166 = .ok (.invokevirtual 75, 3) := by decide +kernel
theorem d3_169 : decode prog_11_method_2_code 169 = .ok (.getstatic 78, 3) := by decide +kernel
theorem d3_172 : decode prog_11_method_2_code 172 = .ok (.astore_n 2, 1) := by decide +kernel
theorem ef_rmNx_1_n (m : MethodId) (a0 : Addr) : entryFrame m #[(.ref a0)] 3 = mkF m 0 #[.val (.ref a0), .unset, .unset] [] := by first | (simp [entryFrame, mkF, argsToLocals, Value.category]; done) | rfl
def Q_rmNx_1_n (Z : State) (a0 : Addr) (ba : Addr) (md : Int32) (dp : Int32) (fi : Int32) (ts : Int32) (xs : Int32) (xe : Int32) (es : Int32) (as_ : Int32) (ig : Int32) (k_ba : ClassId) (s_NUMBER : Addr) (h0 : Heap) (n0 : Nat) (v : Option Value) (h : Heap) (L : List Loc) : Prop := v = some (.ref s_NUMBER) ∧ Fr n0 L ∧ Keep h0 h [a0] ∧ Exa Z h a0 cs0 ∧ Fld Z h a0 cs0 "bytes" "[B" (.ref ba) ∧ Fld Z h a0 cs0 "maxDepth" "I" (.int md) ∧ Fld Z h a0 cs0 "position" "I" (.int (4 : Int32)) ∧ Fld Z h a0 cs0 "depth" "I" (.int dp) ∧ Fld Z h a0 cs0 "first" "Z" (.int (0 : Int32)) ∧ Fld Z h a0 cs0 "token" "Lcom/example/bad_status/badstatus/model/JsonReader$Token;" (.ref s_NUMBER) ∧ Fld Z h a0 cs0 "tokenStart" "I" (.int (2 : Int32)) ∧ Fld Z h a0 cs0 "textStart" "I" (.int (2 : Int32)) ∧ Fld Z h a0 cs0 "textEnd" "I" (.int (4 : Int32)) ∧ Fld Z h a0 cs0 "escaped" "Z" (.int (0 : Int32)) ∧ Fld Z h a0 cs0 "ascii" "Z" (.int (1 : Int32)) ∧ Fld Z h a0 cs0 "integral" "Z" (.int (1 : Int32))
set_option maxRecDepth 65536 in
set_option maxHeartbeats 40000000 in
theorem rmNx_1_n (l : Launch) (Z : State) (av0 : Array Value) (hw : ∀ d ∈ tables_1, d.before av0 Z = true) (ws : List Jvm.Cond) (a0 : Addr) (ba : Addr) (md : Int32) (dp : Int32) (fi : Int32) (ts : Int32) (xs : Int32) (xe : Int32) (es : Int32) (as_ : Int32) (ig : Int32) (k_ba : ClassId) (s_NUMBER : Addr) (h0 : Heap) (n0 : Nat) (Z0 : n0 ≤ h0.size) (E_a0 : Exa Z h0 a0 cs0) (F_bytes_a0 : Fld Z h0 a0 cs0 "bytes" "[B" (.ref ba)) (F_maxDepth_a0 : Fld Z h0 a0 cs0 "maxDepth" "I" (.int md)) (F_position_a0 : Fld Z h0 a0 cs0 "position" "I" (.int (1 : Int32))) (F_depth_a0 : Fld Z h0 a0 cs0 "depth" "I" (.int dp)) (F_first_a0 : Fld Z h0 a0 cs0 "first" "Z" (.int fi)) (F_token_a0 : Fld Z h0 a0 cs0 "token" "Lcom/example/bad_status/badstatus/model/JsonReader$Token;" .null) (F_tokenStart_a0 : Fld Z h0 a0 cs0 "tokenStart" "I" (.int ts)) (F_textStart_a0 : Fld Z h0 a0 cs0 "textStart" "I" (.int xs)) (F_textEnd_a0 : Fld Z h0 a0 cs0 "textEnd" "I" (.int xe)) (F_escaped_a0 : Fld Z h0 a0 cs0 "escaped" "Z" (.int es)) (F_ascii_a0 : Fld Z h0 a0 cs0 "ascii" "Z" (.int as_)) (F_integral_a0 : Fld Z h0 a0 cs0 "integral" "Z" (.int ig)) (g_a0 : n0 ≤ a0) (V_ba : Arv Z h0 ba k_ba .byte (10 : Int32) [(.int (91 : Int32)), (.int (32 : Int32)), (.int (52 : Int32)), (.int (50 : Int32)), (.int (44 : Int32)), (.int (91 : Int32)), (.int (116 : Int32)), (.int (114 : Int32)), (.int (117 : Int32)), (.int (101 : Int32))] (.int (0 : Int32))) (ne_ba_a0 : ba ≠ a0) (S_s_NUMBER : Sta Z h0 cs1 "NUMBER" "Lcom/example/bad_status/badstatus/model/JsonReader$Token;" (.ref s_NUMBER)) :
    MetFree l (⟨cs0, "next", "()Lcom/example/bad_status/badstatus/model/JsonReader$Token;"⟩ : MethodName) (head1 (Jvm.Cond.code (⟨cs0, "next", "()Lcom/example/bad_status/badstatus/model/JsonReader$Token;"⟩ : MethodName) prog_11_method_2_code 3 (some (.object cs1)) :: ws) ({ frames := 3, cells := 0, slots := 0, locals := 42 } : Room)) (fun a U => a = #[(.ref a0)] ∧ Z.Warmed39 U.vm ∧ U.heap = h0) (fun _ _ _ _ _ => True) (fun _ U o U' => ∃ v L, o = .returned v ∧ Q_rmNx_1_n Z a0 ba md dp fi ts xs xe es as_ ig k_ba s_NUMBER h0 n0 v U'.heap L ∧ FrameEnd U o U' L ({ frames := 3, cells := 0, slots := 0, locals := 42 } : Room).cells ({ frames := 3, cells := 0, slots := 0, locals := 42 } : Room).slots) := by
  refine MetFree.of_bodySF (plainFor_of_name pn_0) hisR ?_
  intro p e s m args below meth c s₁ Bd hml0 hP hK
  obtain ⟨rfl, hZ, hh⟩ := hP
  have hx := Bd.exec
  have hby := Bd.bytes
  have hml : c.maxLocals = 3 := hml0
  have dd : ∀ {pc : Nat} {r : Except DecodeError (Instr × Nat)}, decode prog_11_method_2_code pc = r → decode c.code pc = r := fun q => hb hby q
  have hown : s.vm.findClass cs0 = some m.cls := findClass_of_methodNamed Bd.named
  have hnm := (name_of_methodNamed Bd.named Bd.method).1
  have X0 : Stand p l e ({ frames := 3, cells := 0, slots := 0, locals := 42 } : Room) s m #[(.ref a0)] below meth c s₁ [] 0 0 := Stand.of_body Bd
  have e0 : s₁.heap = h0 := by rw [← hh, Bd.state]; rfl
  have N0 := Fr.nil n0
  have hret := Bd.returns
  have hlk := Bd.notSynchronized
  show Gz p e below s ({ frames := 3, cells := 0, slots := 0, locals := 42 } : Room).cells ({ frames := 3, cells := 0, slots := 0, locals := 42 } : Room).slots (Q_rmNx_1_n Z a0 ba md dp fi ts xs xe es as_ ig k_ba s_NUMBER h0 n0) (s₁.setTop (entryFrame m #[(.ref a0)] 3))
  refine Gz.enter (ef_rmNx_1_n m a0) ?_
  refine Gz.aloadN 1 X0 hx (dd d3_0) rfl rfl rfl ?_
  obtain ⟨cq1, q1, q1'⟩ := E_a0.cell
  obtain ⟨_, _, ⟨T1, L1, k1, n1⟩, -, X1, ⟨Lc1, hQ1, l1, y1, z1⟩, st1⟩ := X0.privateBack hx (y := ym7) hown (mvT hZ (ww hw 33 rfl)) (mvT hZ (ww hw 34 rfl)) (own_selp (y := ym7) (y' := ym8) rfl (mvT hZ (ww hw 31 rfl)) (mvT hZ (ww hw 30 rfl)) (mvT hZ (ww hw 34 rfl)) (Cond.privateMethod_at (mvP hZ (ww hw 35 rfl) (args := #[]))) (by decide)) (Cond.privateMethod_at (mvP hZ (ww hw 35 rfl) (args := #[]))) (mvT hZ (ww hw 36 rfl)) (by decide) (backOf (W := 0) (rmSw_1_n l Z av0 hw [] a0 ba md dp fi ts xs xe es as_ ig k_ba h0 n0 Z0 E_a0 F_bytes_a0 F_maxDepth_a0 F_position_a0 F_depth_a0 F_first_a0 F_token_a0 F_tokenStart_a0 F_textStart_a0 F_textEnd_a0 F_escaped_a0 F_ascii_a0 F_integral_a0 g_a0 V_ba ne_ba_a0) hZ (ww hw 36 rfl) (ww hw 15 rfl) (by decide) (by decide)) (g := (mkF m 1 #[.val (.ref a0), .unset, .unset] [(.ref a0)])) rfl (by rw [hml]; rfl) (Steps.refl _) (a := a0) (by rw [e0]; exact q1) q1' (argsL := []) (rest := []) (lenOf pd_5 rfl) rfl (Nat.le_refl _) (dd d3_1) (fun _ _ => ⟨rfl, e0, (by decide : 0 + 0 ≤ _), (by decide : 0 + 0 ≤ _)⟩)
  dsimp only [Pt.U, Pt.locs, Pt.cells, Pt.slots, Q_rmSw_1_n] at X1 l1 y1 z1 st1 hQ1
  subst l1 y1 z1
  obtain ⟨rfl, N1q, K1q, QE1_0, QF1_0, QF1_1, QF1_2, QF1_3, QF1_4, QF1_5, QF1_6, QF1_7, QF1_8, QF1_9, QF1_10, QF1_11⟩ := hQ1
  have N1 := Fr.app N0 N1q
  have f1_E_a0 := Exa.keep E_a0 K1q
  have f1_V_ba := Arv.keep V_ba K1q (ninS ne_ba_a0 nin0)
  have f1_S_s_NUMBER := own_staK S_s_NUMBER K1q (allS (nst_of E_a0) all0)
  have SZ1 := Nat.le_trans Z0 K1q.1
  have K1 := Keep.trans (Keep.refl h0 [a0]) K1q (allS (Or.inl (List.mem_of_getElem? (i := 0) rfl)) all0)
  refine Gz.tr st1 ?_
  refine Gz.istoreN 5 #[.val (.ref a0), .val (.int (52 : Int32)), .unset] X1 hx (dd d3_4) rfl rfl ?_
  refine Gz.aloadN 6 X1 hx (dd d3_5) rfl rfl rfl ?_
  refine Gz.aloadN 7 X1 hx (dd d3_6) rfl rfl rfl ?_
  refine Gz.getF 10 X1 hx hZ hown (dd d3_7) (host := "") (Or.inl (ww hw 24 rfl)) Via.refl rfl QF1_2 rfl fun T2 X2 e2 => ?_
  refine Gz.putF 13 X2 hx hZ hown .int (dd d3_10) (host := "") (Or.inl (ww hw 40 rfl)) Via.refl e2 QF1_6 QE1_0 (Or.inl (ww hw 41 rfl)) (ww hw 14 rfl) (by decide) rfl rfl rfl fun T3 h3 X3 e3 W3 => ?_
  have f3_E_a0 := Exa.wr W3 QE1_0
  have f3_V_ba := Arv.other f1_V_ba W3 ne_ba_a0
  have f3_S_s_NUMBER := Sta.wr W3 f1_S_s_NUMBER
  have f3_F_bytes_a0 := Fld.other W3 QF1_0 (Or.inr (Ne.symm <| sn5 hw))
  have f3_F_maxDepth_a0 := Fld.other W3 QF1_1 (Or.inr (Ne.symm <| sn24 hw))
  have f3_F_position_a0 := Fld.other W3 QF1_2 (Or.inr (Ne.symm <| sn15 hw))
  have f3_F_depth_a0 := Fld.other W3 QF1_3 (Or.inr (sn31 hw))
  have f3_F_first_a0 := Fld.other W3 QF1_4 (Or.inr (sn32 hw))
  have f3_F_token_a0 := Fld.other W3 QF1_5 (Or.inr (sn33 hw))
  have f3_F_textStart_a0 := Fld.other W3 QF1_7 (Or.inr (sn34 hw))
  have f3_F_textEnd_a0 := Fld.other W3 QF1_8 (Or.inr (sn35 hw))
  have f3_F_escaped_a0 := Fld.other W3 QF1_9 (Or.inr (sn36 hw))
  have f3_F_ascii_a0 := Fld.other W3 QF1_10 (Or.inr (sn37 hw))
  have f3_F_integral_a0 := Fld.other W3 QF1_11 (Or.inr (sn38 hw))
  have f3_F_tokenStart_a0 := Fld.same W3 QF1_6
  have N3 := Fr.snoc X3 N1 g_a0
  have SZ3 : n0 ≤ h3.size := Nat.le_trans SZ1 (Keep.of_wr W3).1
  have K3 := Keep.wr K1 W3 (Or.inl (List.mem_of_getElem? (i := 0) rfl))
  refine Gz.iloadN 14 X3 hx (dd d3_13) rfl rfl ?_
  refine Gz.st (fun t k => X3.lookupswitchMiss hx (g := (mkF m 14 #[.val (.ref a0), .val (.int (52 : Int32)), .unset] [(.int (52 : Int32))])) rfl (k := (52 : Int32)) (rest := []) rfl (dd d3_14) (by decide) (by decide) (by show (0 : Int) ≤ ((14 : Nat) : Int) + 133; decide) t k) ?_
  show Gz p e below s _ _ _ (T3.setTop (mkF m 147 #[.val (.ref a0), .val (.int (52 : Int32)), .unset] []))
  refine Gz.iloadN 148 X3 hx (dd d3_147) rfl rfl ?_
  refine Gz.bipush 150 (45 : Int32) X3 hx (dd d3_148) rfl rfl ?_
  refine Gz.icmpNo 153 X3 hx (dd d3_150) (feq (by decide : ¬ ((52 : Int32) = (45 : Int32)))).1 rfl ?_
  refine Gz.iloadN 154 X3 hx (dd d3_153) rfl rfl ?_
  obtain ⟨_, _, ⟨T4, L4, k4, n4⟩, -, X4, ⟨Lc4, hQ4, l4, y4, z4⟩, st4⟩ := Jvm.LawKit.callS X3 hx (y := ym11) hown (mvT hZ (ww hw 59 rfl)) (mvT hZ (ww hw 60 rfl)) (mvT hZ (ww hw 15 rfl)) (mvT hZ (ww hw 61 rfl)) (by decide) (backOf (W := 0) (rm8 l Z av0 hw [] (52 : Int32)  h3 n0 SZ3 ) hZ (ww hw 61 rfl) (ww hw 15 rfl) (by decide) (by decide)) (g := (mkF m 154 #[.val (.ref a0), .val (.int (52 : Int32)), .unset] [(.int (52 : Int32))])) rfl (by rw [hml]; rfl) (argsL := [(.int (52 : Int32))]) (rest := []) (lenOf pd_9 rfl) rfl (Nat.le_refl _) (dd d3_154) (fun _ _ => ⟨rfl, e3, (by decide : 0 + 0 ≤ _), (by decide : 0 + 0 ≤ _)⟩)
  dsimp only [Pt.U, Pt.locs, Pt.cells, Pt.slots, Q_rm8] at X4 l4 y4 z4 st4 hQ4
  subst l4 y4 z4
  rw [show (fDg (52 : Int32)) = (1 : Int32) from (by unfold fDg; rw [if_neg (by decide : ¬ ((52 : Int32) < (48 : Int32))), if_neg (by decide : ¬ ((57 : Int32) < (52 : Int32)))]; try decide)] at hQ4
  obtain ⟨rfl, N4q, e4⟩ := hQ4
  have N4 := Fr.app N3 N4q
  refine Gz.st st4 ?_
  refine Gz.ifYes 165 X4 hx (dd d3_157) ((if0 _ _).trans (feq (by decide : ¬ ((1 : Int32) = (0 : Int32)))).2) (by decide) (by decide) ?_
  refine Gz.aloadN 166 X4 hx (dd d3_165) rfl rfl rfl ?_
  obtain ⟨cq5, q5, q5'⟩ := f3_E_a0.cell
  obtain ⟨_, _, ⟨T5, L5, k5, n5⟩, -, X5, ⟨Lc5, hQ5, l5, y5, z5⟩, st5⟩ := X4.privateBack hx (y := ym13) hown (mvT hZ (ww hw 62 rfl)) (mvT hZ (ww hw 63 rfl)) (own_selp (y := ym13) (y' := ym8) rfl (mvT hZ (ww hw 31 rfl)) (mvT hZ (ww hw 30 rfl)) (mvT hZ (ww hw 63 rfl)) (Cond.privateMethod_at (mvP hZ (ww hw 64 rfl) (args := #[]))) (by decide)) (Cond.privateMethod_at (mvP hZ (ww hw 64 rfl) (args := #[]))) (mvT hZ (ww hw 65 rfl)) (by decide) (backOf (W := 0) (rmRn_2_n l Z av0 hw [] a0 ba md dp fi (2 : Int32) xs xe es as_ ig k_ba h3 n0 SZ3 f3_E_a0 f3_F_bytes_a0 f3_F_maxDepth_a0 f3_F_position_a0 f3_F_depth_a0 f3_F_first_a0 f3_F_token_a0 f3_F_tokenStart_a0 f3_F_textStart_a0 f3_F_textEnd_a0 f3_F_escaped_a0 f3_F_ascii_a0 f3_F_integral_a0 g_a0 f3_V_ba ne_ba_a0) hZ (ww hw 65 rfl) (ww hw 15 rfl) (by decide) (by decide)) (g := (mkF m 166 #[.val (.ref a0), .val (.int (52 : Int32)), .unset] [(.ref a0)])) rfl (by rw [hml]; rfl) (Steps.refl _) (a := a0) (by rw [e4]; exact q5) q5' (argsL := []) (rest := []) (lenOf pd_2 rfl) rfl (Nat.le_refl _) (dd d3_166) (fun _ _ => ⟨rfl, e4, (by decide : 0 + 0 ≤ _), (by decide : 0 + 0 ≤ _)⟩)
  dsimp only [Pt.U, Pt.locs, Pt.cells, Pt.slots, Q_rmRn_2_n] at X5 l5 y5 z5 st5 hQ5
  subst l5 y5 z5
  obtain ⟨rfl, N5q, K5q, QE5_0, QF5_0, QF5_1, QF5_2, QF5_3, QF5_4, QF5_5, QF5_6, QF5_7, QF5_8, QF5_9, QF5_10, QF5_11⟩ := hQ5
  have N5 := Fr.app N4 N5q
  have f5_E_a0 := Exa.keep f3_E_a0 K5q
  have f5_V_ba := Arv.keep f3_V_ba K5q (ninS ne_ba_a0 nin0)
  have f5_S_s_NUMBER := own_staK f3_S_s_NUMBER K5q (allS (nst_of f3_E_a0) all0)
  have SZ5 := Nat.le_trans SZ3 K5q.1
  have K5 := Keep.trans K3 K5q (allS (Or.inl (List.mem_of_getElem? (i := 0) rfl)) all0)
  refine Gz.tr st5 ?_
  refine Gz.getS 172 X5 hx hZ hown (dd d3_169) (host := "") (Or.inl (ww hw 80 rfl)) Via.refl rfl f5_S_s_NUMBER rfl fun T6 X6 e6 => ?_
  refine Gz.astoreN 173 #[.val (.ref a0), .val (.int (52 : Int32)), .val (.ref s_NUMBER)] X6 hx (dd d3_172) rfl rfl rfl ?_
  refine Gz.aloadN 174 X6 hx (dd d3_173) rfl rfl rfl ?_
  refine Gz.aloadN 175 X6 hx (dd d3_174) rfl rfl rfl ?_
  refine Gz.putF 178 X6 hx hZ hown (.object cs1) (dd d3_175) (host := "") (Or.inl (ww hw 51 rfl)) Via.refl e6 QF5_5 QE5_0 (Or.inl (ww hw 52 rfl)) (ww hw 14 rfl) (by decide) rfl rfl rfl fun T7 h7 X7 e7 W7 => ?_
  have f7_E_a0 := Exa.wr W7 QE5_0
  have f7_V_ba := Arv.other f5_V_ba W7 ne_ba_a0
  have f7_S_s_NUMBER := Sta.wr W7 f5_S_s_NUMBER
  have f7_F_bytes_a0 := Fld.other W7 QF5_0 (Or.inr (Ne.symm <| sn4 hw))
  have f7_F_maxDepth_a0 := Fld.other W7 QF5_1 (Or.inr (Ne.symm <| sn23 hw))
  have f7_F_position_a0 := Fld.other W7 QF5_2 (Or.inr (Ne.symm <| sn14 hw))
  have f7_F_depth_a0 := Fld.other W7 QF5_3 (Or.inr (Ne.symm <| sn40 hw))
  have f7_F_first_a0 := Fld.other W7 QF5_4 (Or.inr (Ne.symm <| sn46 hw))
  have f7_F_tokenStart_a0 := Fld.other W7 QF5_6 (Or.inr (Ne.symm <| sn33 hw))
  have f7_F_textStart_a0 := Fld.other W7 QF5_7 (Or.inr (sn52 hw))
  have f7_F_textEnd_a0 := Fld.other W7 QF5_8 (Or.inr (sn53 hw))
  have f7_F_escaped_a0 := Fld.other W7 QF5_9 (Or.inr (sn54 hw))
  have f7_F_ascii_a0 := Fld.other W7 QF5_10 (Or.inr (sn55 hw))
  have f7_F_integral_a0 := Fld.other W7 QF5_11 (Or.inr (sn56 hw))
  have f7_F_token_a0 := Fld.same W7 QF5_5
  have N7 := Fr.snoc X7 N5 g_a0
  have SZ7 : n0 ≤ h7.size := Nat.le_trans SZ5 (Keep.of_wr W7).1
  have K7 := Keep.wr K5 W7 (Or.inl (List.mem_of_getElem? (i := 0) rfl))
  refine Gz.aloadN 179 X7 hx (dd d3_178) rfl rfl rfl ?_
  refine Gz.fin X7 (v := some (.ref s_NUMBER)) (fun h => by rw [hret] at h; cases h) hlk (by decide) (by decide) (fun fs hr => retA X7 hx hret (dd d3_179) hr rfl rfl) ?_
  rw [e7]
  exact ⟨rfl, N7, K7, f7_E_a0, f7_F_bytes_a0, f7_F_maxDepth_a0, f7_F_position_a0, f7_F_depth_a0, f7_F_first_a0, f7_F_token_a0, f7_F_tokenStart_a0, f7_F_textStart_a0, f7_F_textEnd_a0, f7_F_escaped_a0, f7_F_ascii_a0, f7_F_integral_a0⟩
theorem ef_rmMk_o (m : MethodId) (a0 : Addr) : entryFrame m #[(.ref a0)] 2 = mkF m 0 #[.val (.ref a0), .unset] [] := by first | (simp [entryFrame, mkF, argsToLocals, Value.category]; done) | rfl
def Q_rmMk_o (Z : State) (a0 : Addr) (s_OBJECT : Addr) (s_ARRAY : Addr) (dp : Int32) (tk : Addr) (ts : Int32) (h0 : Heap) (n0 : Nat) (v : Option Value) (h : Heap) (L : List Loc) : Prop := ∃ rd : Addr, v = some (.ref rd) ∧ Fr n0 L ∧ Keep h0 h [] ∧ n0 ≤ rd ∧ h0.size ≤ rd ∧ Exa Z h rd cs2 ∧ Fld Z h rd cs2 "position" "I" (.int ts) ∧ Fld Z h rd cs2 "depth" "I" (.int dp)
set_option maxRecDepth 65536 in
set_option maxHeartbeats 40000000 in
theorem rmMk_o (l : Launch) (Z : State) (av0 : Array Value) (hw : ∀ d ∈ tables_1, d.before av0 Z = true) (ws : List Jvm.Cond) (a0 : Addr) (s_OBJECT : Addr) (s_ARRAY : Addr) (dp : Int32) (tk : Addr) (ts : Int32) (h0 : Heap) (n0 : Nat) (Z0 : n0 ≤ h0.size) (S_s_OBJECT : Sta Z h0 cs1 "OBJECT" "Lcom/example/bad_status/badstatus/model/JsonReader$Token;" (.ref s_OBJECT)) (S_s_ARRAY : Sta Z h0 cs1 "ARRAY" "Lcom/example/bad_status/badstatus/model/JsonReader$Token;" (.ref s_ARRAY)) (E_a0 : Exa Z h0 a0 cs0) (F_depth_a0 : Fld Z h0 a0 cs0 "depth" "I" (.int dp)) (F_token_a0 : Fld Z h0 a0 cs0 "token" "Lcom/example/bad_status/badstatus/model/JsonReader$Token;" (.ref tk)) (F_tokenStart_a0 : Fld Z h0 a0 cs0 "tokenStart" "I" (.int ts)) (ne_tk_s_OBJECT : tk ≠ s_OBJECT) (ne_tk_s_ARRAY : tk ≠ s_ARRAY) :
    MetFree l (⟨cs0, "mark", "()Lcom/example/bad_status/badstatus/model/JsonReader$Mark;"⟩ : MethodName) (head1 (Jvm.Cond.code (⟨cs0, "mark", "()Lcom/example/bad_status/badstatus/model/JsonReader$Mark;"⟩ : MethodName) prog_11_method_7_code 2 (some (.object cs2)) :: ws) ({ frames := 3, cells := 1, slots := 2, locals := 39 } : Room)) (fun a U => a = #[(.ref a0)] ∧ Z.Warmed39 U.vm ∧ U.heap = h0) (fun _ _ _ _ _ => True) (fun _ U o U' => ∃ v L, o = .returned v ∧ Q_rmMk_o Z a0 s_OBJECT s_ARRAY dp tk ts h0 n0 v U'.heap L ∧ FrameEnd U o U' L ({ frames := 3, cells := 1, slots := 2, locals := 39 } : Room).cells ({ frames := 3, cells := 1, slots := 2, locals := 39 } : Room).slots) := by
  refine MetFree.of_bodySF (plainFor_of_name pn_0) hisR ?_
  intro p e s m args below meth c s₁ Bd hml0 hP hK
  obtain ⟨rfl, hZ, hh⟩ := hP
  have hx := Bd.exec
  have hby := Bd.bytes
  have hml : c.maxLocals = 2 := hml0
  have dd : ∀ {pc : Nat} {r : Except DecodeError (Instr × Nat)}, decode prog_11_method_7_code pc = r → decode c.code pc = r := fun q => hb hby q
  have hown : s.vm.findClass cs0 = some m.cls := findClass_of_methodNamed Bd.named
  have hnm := (name_of_methodNamed Bd.named Bd.method).1
  have X0 : Stand p l e ({ frames := 3, cells := 1, slots := 2, locals := 39 } : Room) s m #[(.ref a0)] below meth c s₁ [] 0 0 := Stand.of_body Bd
  have e0 : s₁.heap = h0 := by rw [← hh, Bd.state]; rfl
  have N0 := Fr.nil n0
  have hret := Bd.returns
  have hlk := Bd.notSynchronized
  show Gz p e below s ({ frames := 3, cells := 1, slots := 2, locals := 39 } : Room).cells ({ frames := 3, cells := 1, slots := 2, locals := 39 } : Room).slots (Q_rmMk_o Z a0 s_OBJECT s_ARRAY dp tk ts h0 n0) (s₁.setTop (entryFrame m #[(.ref a0)] 2))
  refine Gz.enter (ef_rmMk_o m a0) ?_
  refine Gz.aloadN 1 X0 hx (dd d16_0) rfl rfl rfl ?_
  refine Gz.getF 4 X0 hx hZ hown (dd d16_1) (host := "") (Or.inl (ww hw 51 rfl)) Via.refl e0 F_token_a0 rfl fun T1 X1 e1 => ?_
  refine Gz.getS 7 X1 hx hZ hown (dd d16_4) (host := "") (Or.inl (ww hw 117 rfl)) Via.refl e1 S_s_OBJECT rfl fun T2 X2 e2 => ?_
  refine Gz.acmp 10 false X2 hx (dd d16_7) rfl rfl (decide_eq_false fun q => ne_tk_s_OBJECT (Value.ref.inj q)) (by decide) (by decide) ?_
  refine Gz.aloadN 11 X2 hx (dd d16_10) rfl rfl rfl ?_
  refine Gz.getF 14 X2 hx hZ hown (dd d16_11) (host := "") (Or.inl (ww hw 51 rfl)) Via.refl e2 F_token_a0 rfl fun T3 X3 e3 => ?_
  refine Gz.getS 17 X3 hx hZ hown (dd d16_14) (host := "") (Or.inl (ww hw 42 rfl)) Via.refl e3 S_s_ARRAY rfl fun T4 X4 e4 => ?_
  refine Gz.acmp 24 false X4 hx (dd d16_17) rfl rfl (decide_eq_false fun q => ne_tk_s_ARRAY (Value.ref.inj q)) (by decide) (by decide) ?_
  refine Gz.iconst 25 (0 : Int32) X4 hx (dd d16_24) rfl rfl ?_
  refine Gz.istoreN 26 #[.val (.ref a0), .val (.int (0 : Int32))] X4 hx (dd d16_25) rfl rfl ?_
  obtain ⟨T5, h5, X5, e5, E5, A5, D5, -, st5⟩ := newO X4 hx hZ hown (ww hw 119 rfl) (ww hw 82 rfl) (ww hw 83 rfl) e4 (g := (mkF m 26 #[.val (.ref a0), .val (.int (0 : Int32))] [])) rfl (dd d16_26) (by decide) (by decide)
  obtain ⟨b5, g5⟩ : ∃ z, z = h0.size := ⟨_, rfl⟩
  rw [← g5] at A5 D5 st5
  have ne_a0_b5 : a0 ≠ b5 := Nat.ne_of_lt (Nat.lt_of_lt_of_le (E_a0).lt (Nat.le_of_eq g5.symm))
  have g_b5 : n0 ≤ b5 := Nat.le_trans Z0 (Nat.le_of_eq g5.symm)
  have SZ5 : n0 ≤ h5.size := Nat.le_trans Z0 E5.1
  have sz_b5 : h0.size ≤ b5 := Nat.le_trans (Keep.refl h0 []).1 (Nat.le_of_eq g5.symm)
  have K5 := Keep.ext (Keep.refl h0 []) E5
  have f5_S_s_OBJECT := Sta.ext E5 S_s_OBJECT
  have f5_S_s_ARRAY := Sta.ext E5 S_s_ARRAY
  have f5_E_a0 := Exa.ext E5 E_a0
  have f5_F_depth_a0 := Fld.ext E5 F_depth_a0
  have f5_F_token_a0 := Fld.ext E5 F_token_a0
  have f5_F_tokenStart_a0 := Fld.ext E5 F_tokenStart_a0
  have F_position_b5 : Fld Z h5 b5 cs2 "position" "I" (.int (0 : Int32)) := D5 (Or.inr (ww hw 94 rfl)) (ty := .int) (by decide)
  have F_depth_b5 : Fld Z h5 b5 cs2 "depth" "I" (.int (0 : Int32)) := D5 (Or.inr (ww hw 96 rfl)) (ty := .int) (by decide)
  refine Gz.st st5 ?_
  refine Gz.dup 30 X5 hx (dd d16_29) rfl rfl ?_
  refine Gz.aloadN 31 X5 hx (dd d16_30) rfl rfl rfl ?_
  refine Gz.getF 34 X5 hx hZ hown (dd d16_31) (host := "") (Or.inl (ww hw 40 rfl)) Via.refl e5 f5_F_tokenStart_a0 rfl fun T6 X6 e6 => ?_
  refine Gz.iloadN 35 X6 hx (dd d16_34) rfl rfl ?_
  refine Gz.ifYes 47 X6 hx (dd d16_35) ((if0 _ _).trans (teq (by decide : (0 : Int32) = (0 : Int32))).1) (by decide) (by decide) ?_
  refine Gz.aloadN 48 X6 hx (dd d16_47) rfl rfl rfl ?_
  refine Gz.getF 51 X6 hx hZ hown (dd d16_48) (host := "") (Or.inl (ww hw 47 rfl)) Via.refl e6 f5_F_depth_a0 rfl fun T7 X7 e7 => ?_
  obtain ⟨_, _, ⟨T8, L8, k8, n8⟩, -, X8, ⟨Lc8, hQ8, l8, y8, z8⟩, st8⟩ := X7.specialBack hx (y := ym3) rfl hown (mvT hZ (ww hw 120 rfl)) (mvT hZ (ww hw 85 rfl)) (mvT hZ (ww hw 86 rfl)) (by decide) (backOf (W := 1) (rm11 l Z av0 hw [] b5 ts dp  h5 n0 SZ5 A5 F_position_b5 F_depth_b5 g_b5) hZ (ww hw 86 rfl) (ww hw 83 rfl) (by decide) (by decide)) (g := (mkF m 51 #[.val (.ref a0), .val (.int (0 : Int32))] [(.int dp), (.int ts), (.ref b5), (.ref b5)])) rfl (by rw [hml]; rfl) (Steps.refl _) (a := b5) (argsL := [(.int ts), (.int dp)]) (rest := [(.ref b5)]) (lenOf pd_3 rfl) rfl (Nat.le_refl _) (dd d16_51) (fun _ _ => ⟨rfl, e7, (by decide : 1 + 0 ≤ _), (by decide : 2 + 0 ≤ _)⟩)
  dsimp only [Pt.U, Pt.locs, Pt.cells, Pt.slots, Q_rm11] at X8 l8 y8 z8 st8 hQ8
  subst l8 y8 z8
  obtain ⟨rfl, N8q, K8q, QE8_0, QF8_0, QF8_1⟩ := hQ8
  have N8 := Fr.app N0 N8q
  have f8_S_s_OBJECT := own_staK f5_S_s_OBJECT K8q (allS (nst_of A5) all0)
  have f8_S_s_ARRAY := own_staK f5_S_s_ARRAY K8q (allS (nst_of A5) all0)
  have f8_E_a0 := Exa.keep f5_E_a0 K8q
  have f8_F_depth_a0 := Fld.keep f5_F_depth_a0 K8q (ninS ne_a0_b5 nin0)
  have f8_F_token_a0 := Fld.keep f5_F_token_a0 K8q (ninS ne_a0_b5 nin0)
  have f8_F_tokenStart_a0 := Fld.keep f5_F_tokenStart_a0 K8q (ninS ne_a0_b5 nin0)
  have f8_Eb5 := Exa.keep A5 K8q
  have SZ8 := Nat.le_trans SZ5 K8q.1
  have K8 := Keep.trans K5 K8q (allS (Or.inr sz_b5) all0)
  refine Gz.tr st8 ?_
  refine Gz.fin X8 (v := some (.ref b5)) (fun h => by rw [hret] at h; cases h) hlk (by decide) (by decide) (fun fs hr => retA X8 hx hret (dd d16_54) hr rfl rfl) ?_
  exact ⟨b5, rfl, N8, K8, g_b5, sz_b5, QE8_0, QF8_0, QF8_1⟩
set_option maxRecDepth 65536 in
set_option maxHeartbeats 40000000 in
theorem sgC1 {p : Program} {l : Launch} {e : Env} {s : State} {m : MethodId} {args : Array Value} {below : List Frame} {meth : Method} {c : Code} {T0 : State} {locs : List Loc} {Z : State} {av0 : Array Value} {hS : Heap} (s0 : Slot) (dq : Int32) (s2 : Slot) (s3 : Slot) (s4 : Slot) (ast : Addr) (aks : Addr) (s8 : Slot) (s9 : Slot) (rd : Addr) (st_OBJECT : Addr) (st_ARRAY : Addr) (st_NUMBER : Addr) (st_TRUE : Addr) (tb : Addr) (k_tb : ClassId) (ba : Addr) (md : Int32) (fi : Int32) (ts : Int32) (xs : Int32) (xe : Int32) (es : Int32) (as_ : Int32) (ig : Int32) (k_ba : ClassId) (k_ast : ClassId) (k_aks : ClassId) (n0 : Nat)
    (X0 : Stand p l e room_1 s m args below meth c T0 locs 6 42) (hx : p.tables.exec = Jvm.exec) (hZ : Z.Warmed39 s.vm) (hw : ∀ d ∈ tables_1, d.before av0 Z = true) (hby : c.code = code) (hml : c.maxLocals = 15) (hown : s.vm.findClass "com/example/bad_status/badstatus/model/JsonReaderResetPinLaw" = some m.cls) (hret : meth.sig.returnType = some .boolean) (hlk : meth.locks = false) (e0 : T0.heap = hS) (N0 : Fr n0 locs) (Z0 : n0 ≤ hS.size) (S_st_OBJECT : Sta Z hS cs1 "OBJECT" "Lcom/example/bad_status/badstatus/model/JsonReader$Token;" (.ref st_OBJECT)) (S_st_ARRAY : Sta Z hS cs1 "ARRAY" "Lcom/example/bad_status/badstatus/model/JsonReader$Token;" (.ref st_ARRAY)) (S_st_NUMBER : Sta Z hS cs1 "NUMBER" "Lcom/example/bad_status/badstatus/model/JsonReader$Token;" (.ref st_NUMBER)) (S_st_TRUE : Sta Z hS cs1 "TRUE" "Lcom/example/bad_status/badstatus/model/JsonReader$Token;" (.ref st_TRUE)) (ne_st_OBJECT_st_ARRAY : st_OBJECT ≠ st_ARRAY) (ne_st_OBJECT_st_NUMBER : st_OBJECT ≠ st_NUMBER) (ne_st_OBJECT_st_TRUE : st_OBJECT ≠ st_TRUE) (ne_st_ARRAY_st_NUMBER : st_ARRAY ≠ st_NUMBER) (ne_st_ARRAY_st_TRUE : st_ARRAY ≠ st_TRUE) (S_tb : Sta Z hS cs0 "TRUE" "[B" (.ref tb)) (V_tb : Arv Z hS tb k_tb .byte (4 : Int32) [(.int (116 : Int32)), (.int (114 : Int32)), (.int (117 : Int32)), (.int (101 : Int32))] (.int (0 : Int32))) (E_rd : Exa Z hS rd cs0) (F_bytes_rd : Fld Z hS rd cs0 "bytes" "[B" (.ref ba)) (F_maxDepth_rd : Fld Z hS rd cs0 "maxDepth" "I" (.int md)) (F_position_rd : Fld Z hS rd cs0 "position" "I" (.int (1 : Int32))) (F_depth_rd : Fld Z hS rd cs0 "depth" "I" (.int dq)) (F_first_rd : Fld Z hS rd cs0 "first" "Z" (.int fi)) (F_token_rd : Fld Z hS rd cs0 "token" "Lcom/example/bad_status/badstatus/model/JsonReader$Token;" .null) (F_tokenStart_rd : Fld Z hS rd cs0 "tokenStart" "I" (.int ts)) (F_textStart_rd : Fld Z hS rd cs0 "textStart" "I" (.int xs)) (F_textEnd_rd : Fld Z hS rd cs0 "textEnd" "I" (.int xe)) (F_escaped_rd : Fld Z hS rd cs0 "escaped" "Z" (.int es)) (F_ascii_rd : Fld Z hS rd cs0 "ascii" "Z" (.int as_)) (F_integral_rd : Fld Z hS rd cs0 "integral" "Z" (.int ig)) (g_rd : n0 ≤ rd) (V_ba : Arv Z hS ba k_ba .byte (10 : Int32) [(.int (91 : Int32)), (.int (32 : Int32)), (.int (52 : Int32)), (.int (50 : Int32)), (.int (44 : Int32)), (.int (91 : Int32)), (.int (116 : Int32)), (.int (114 : Int32)), (.int (117 : Int32)), (.int (101 : Int32))] (.int (0 : Int32))) (ne_ba_rd : ba ≠ rd) (V_ast : Arv Z hS ast k_ast .int (6 : Int32) [(.int (0 : Int32)), (.int (2 : Int32)), (.int (2 : Int32)), (.int (3 : Int32)), (.int (5 : Int32)), (.int (6 : Int32))] (.int (0 : Int32))) (V_aks : Arv Z hS aks k_aks (.object cs1) (6 : Int32) [(.ref st_ARRAY), (.ref st_NUMBER), (.ref st_NUMBER), (.ref st_NUMBER), (.ref st_ARRAY), (.ref st_TRUE)] .null) (ne_ast_rd : ast ≠ rd) (ne_aks_rd : aks ≠ rd) (ne_tb_rd : tb ≠ rd) (hdm : ¬ (dq = md)) :
    Gz p e below s 24 192 (Q_law n0) (T0.setTop (mkF m 261 #[s0, .val (.int dq), s2, s3, s4, .val (.ref ast), .val (.ref aks), .val (.int (1 : Int32)), s8, s9, .val (.ref rd), .unset, .unset, .unset, .unset] [])) := by
  have dd : ∀ {pc : Nat} {r : Except DecodeError (Instr × Nat)}, decode code pc = r → decode c.code pc = r := fun q => hb hby q
  refine Gz.aload 263 X0 hx (dd at_261) rfl rfl rfl ?_
  obtain ⟨cq1, kq1, q1a, q1b, q1c⟩ := isOf hZ e0 E_rd
  obtain ⟨_, _, ⟨T1, L1, k1, n1⟩, -, X1, ⟨Lc1, hQ1, l1, y1, z1⟩, st1⟩ := X0.virtualBack hx (y := ym4) (z := ym4) hown (mvT hZ (ww hw 112 rfl)) (mvT hZ (ww hw 113 rfl)) (notFace_of_selects (args := #[]) (mvT hZ (ww hw 115 rfl))) (mvT hZ (ww hw 115 rfl)) (mvT hZ (ww hw 114 rfl)) (by decide) (backOf (W := 0) (rmMk_n l Z av0 hw [] rd st_OBJECT st_ARRAY dq ts hS n0 Z0 S_st_OBJECT S_st_ARRAY E_rd F_depth_rd F_token_rd F_tokenStart_rd) hZ (ww hw 116 rfl) (ww hw 15 rfl) (by decide) (by decide)) q1a q1c (g := (mkF m 263 #[s0, .val (.int dq), s2, s3, s4, .val (.ref ast), .val (.ref aks), .val (.int (1 : Int32)), s8, s9, .val (.ref rd), .unset, .unset, .unset, .unset] [(.ref rd)])) rfl (by rw [hml]; rfl) (Steps.refl _) (argsL := []) (rest := []) (lenOf pd_4 rfl) rfl (Nat.le_refl _) (dd at_263) (fun _ _ => ⟨rfl, e0, (by decide : 6 + 1 ≤ _), (by decide : 42 + 2 ≤ _)⟩)
  dsimp only [Pt.U, Pt.locs, Pt.cells, Pt.slots, Q_rmMk_n] at X1 l1 y1 z1 st1 hQ1
  subst l1 y1 z1
  obtain ⟨rd1, rfl, N1q, K1q, gr1, szr1, RE1, RP1, RD1⟩ := hQ1
  have N1 := Fr.app N0 N1q
  have ne_tb_rd1 : tb ≠ rd1 := Nat.ne_of_lt (Nat.lt_of_lt_of_le (V_tb).lt szr1)
  have ne_rd_rd1 : rd ≠ rd1 := Nat.ne_of_lt (Nat.lt_of_lt_of_le (F_integral_rd).lt szr1)
  have ne_ba_rd1 : ba ≠ rd1 := Nat.ne_of_lt (Nat.lt_of_lt_of_le (V_ba).lt szr1)
  have ne_ast_rd1 : ast ≠ rd1 := Nat.ne_of_lt (Nat.lt_of_lt_of_le (V_ast).lt szr1)
  have ne_aks_rd1 : aks ≠ rd1 := Nat.ne_of_lt (Nat.lt_of_lt_of_le (V_aks).lt szr1)
  have f1_S_st_OBJECT := own_staK S_st_OBJECT K1q all0
  have f1_S_st_ARRAY := own_staK S_st_ARRAY K1q all0
  have f1_S_st_NUMBER := own_staK S_st_NUMBER K1q all0
  have f1_S_st_TRUE := own_staK S_st_TRUE K1q all0
  have f1_S_tb := own_staK S_tb K1q all0
  have f1_V_tb := Arv.keep V_tb K1q nin0
  have f1_E_rd := Exa.keep E_rd K1q
  have f1_F_bytes_rd := Fld.keep F_bytes_rd K1q nin0
  have f1_F_maxDepth_rd := Fld.keep F_maxDepth_rd K1q nin0
  have f1_F_position_rd := Fld.keep F_position_rd K1q nin0
  have f1_F_depth_rd := Fld.keep F_depth_rd K1q nin0
  have f1_F_first_rd := Fld.keep F_first_rd K1q nin0
  have f1_F_token_rd := Fld.keep F_token_rd K1q nin0
  have f1_F_tokenStart_rd := Fld.keep F_tokenStart_rd K1q nin0
  have f1_F_textStart_rd := Fld.keep F_textStart_rd K1q nin0
  have f1_F_textEnd_rd := Fld.keep F_textEnd_rd K1q nin0
  have f1_F_escaped_rd := Fld.keep F_escaped_rd K1q nin0
  have f1_F_ascii_rd := Fld.keep F_ascii_rd K1q nin0
  have f1_F_integral_rd := Fld.keep F_integral_rd K1q nin0
  have f1_V_ba := Arv.keep V_ba K1q nin0
  have f1_V_ast := Arv.keep V_ast K1q nin0
  have f1_V_aks := Arv.keep V_aks K1q nin0
  have SZ1 := Nat.le_trans Z0 K1q.1
  refine Gz.tr st1 ?_
  refine Gz.astore 268 #[s0, .val (.int dq), s2, s3, s4, .val (.ref ast), .val (.ref aks), .val (.int (1 : Int32)), s8, s9, .val (.ref rd), .val (.ref rd1), .unset, .unset, .unset] X1 hx (dd at_266) rfl rfl rfl ?_
  refine Gz.aload 270 X1 hx (dd at_268) rfl rfl rfl ?_
  obtain ⟨cq2, kq2, q2a, q2b, q2c⟩ := isOf hZ rfl RE1
  obtain ⟨_, _, ⟨T2, L2, k2, n2⟩, -, X2, ⟨Lc2, hQ2, l2, y2, z2⟩, st2⟩ := X1.virtualBack hx (y := ym5) (z := ym5) hown (mvT hZ (ww hw 121 rfl)) (mvT hZ (ww hw 108 rfl)) (notFace_of_selects (args := #[]) (mvT hZ (ww hw 110 rfl))) (mvT hZ (ww hw 110 rfl)) (mvT hZ (ww hw 109 rfl)) (by decide) (backOf (W := 0) (rm15 l Z av0 hw [] rd1 dq T1.heap n0 SZ1 RD1) hZ (ww hw 111 rfl) (ww hw 83 rfl) (by decide) (by decide)) q2a q2c (g := (mkF m 270 #[s0, .val (.int dq), s2, s3, s4, .val (.ref ast), .val (.ref aks), .val (.int (1 : Int32)), s8, s9, .val (.ref rd), .val (.ref rd1), .unset, .unset, .unset] [(.ref rd1)])) rfl (by rw [hml]; rfl) (Steps.refl _) (argsL := []) (rest := []) (lenOf pd_5 rfl) rfl (Nat.le_refl _) (dd at_270) (fun _ _ => ⟨rfl, rfl, (by decide : 7 + 0 ≤ _), (by decide : 44 + 0 ≤ _)⟩)
  dsimp only [Pt.U, Pt.locs, Pt.cells, Pt.slots, Q_rm15] at X2 l2 y2 z2 st2 hQ2
  subst l2 y2 z2
  rw [show (fMd rd1 dq) = dq from (by unfold fMd; rfl)] at hQ2
  obtain ⟨rfl, N2q, e2⟩ := hQ2
  have N2 := Fr.app N1 N2q
  refine Gz.tr st2 ?_
  refine Gz.iloadN 274 X2 hx (dd at_273) rfl rfl ?_
  refine Gz.icmpNo 277 X2 hx (dd at_274) (teq (rfl : dq = dq)).2 rfl ?_
  refine Gz.iconst 278 (1 : Int32) X2 hx (dd at_277) rfl rfl ?_
  refine Gz.goto 282 X2 hx (dd at_278) (by decide) (by decide) ?_
  refine Gz.istore 284 #[s0, .val (.int dq), s2, s3, s4, .val (.ref ast), .val (.ref aks), .val (.int (1 : Int32)), s8, s9, .val (.ref rd), .val (.ref rd1), .val (.int (1 : Int32)), .unset, .unset] X2 hx (dd at_282) rfl rfl ?_
  refine Gz.aload 286 X2 hx (dd at_284) rfl rfl rfl ?_
  obtain ⟨cq3, kq3, q3a, q3b, q3c⟩ := isOf hZ e2 f1_E_rd
  obtain ⟨_, _, ⟨T3, L3, k3, n3⟩, -, X3, ⟨Lc3, hQ3, l3, y3, z3⟩, st3⟩ := X2.virtualBack hx (y := ym8) (z := ym8) hown (mvT hZ (ww hw 28 rfl)) (mvT hZ (ww hw 29 rfl)) (notFace_of_selects (args := #[]) (mvT hZ (ww hw 31 rfl))) (mvT hZ (ww hw 31 rfl)) (mvT hZ (ww hw 30 rfl)) (by decide) (backOf (W := 0) (rmNx_1_n l Z av0 hw [] rd ba md dq fi ts xs xe es as_ ig k_ba st_NUMBER T1.heap n0 SZ1 f1_E_rd f1_F_bytes_rd f1_F_maxDepth_rd f1_F_position_rd f1_F_depth_rd f1_F_first_rd f1_F_token_rd f1_F_tokenStart_rd f1_F_textStart_rd f1_F_textEnd_rd f1_F_escaped_rd f1_F_ascii_rd f1_F_integral_rd g_rd f1_V_ba ne_ba_rd f1_S_st_NUMBER) hZ (ww hw 32 rfl) (ww hw 15 rfl) (by decide) (by decide)) q3a q3c (g := (mkF m 286 #[s0, .val (.int dq), s2, s3, s4, .val (.ref ast), .val (.ref aks), .val (.int (1 : Int32)), s8, s9, .val (.ref rd), .val (.ref rd1), .val (.int (1 : Int32)), .unset, .unset] [(.ref rd)])) rfl (by rw [hml]; rfl) (Steps.refl _) (argsL := []) (rest := []) (lenOf pd_8 rfl) rfl (Nat.le_refl _) (dd at_286) (fun _ _ => ⟨rfl, e2, (by decide : 7 + 0 ≤ _), (by decide : 44 + 0 ≤ _)⟩)
  dsimp only [Pt.U, Pt.locs, Pt.cells, Pt.slots, Q_rmNx_1_n] at X3 l3 y3 z3 st3 hQ3
  subst l3 y3 z3
  obtain ⟨rfl, N3q, K3q, QE3_0, QF3_0, QF3_1, QF3_2, QF3_3, QF3_4, QF3_5, QF3_6, QF3_7, QF3_8, QF3_9, QF3_10, QF3_11⟩ := hQ3
  have N3 := Fr.app N2 N3q
  have f3_S_st_OBJECT := own_staK f1_S_st_OBJECT K3q (allS (nst_of f1_E_rd) all0)
  have f3_S_st_ARRAY := own_staK f1_S_st_ARRAY K3q (allS (nst_of f1_E_rd) all0)
  have f3_S_st_NUMBER := own_staK f1_S_st_NUMBER K3q (allS (nst_of f1_E_rd) all0)
  have f3_S_st_TRUE := own_staK f1_S_st_TRUE K3q (allS (nst_of f1_E_rd) all0)
  have f3_S_tb := own_staK f1_S_tb K3q (allS (nst_of f1_E_rd) all0)
  have f3_V_tb := Arv.keep f1_V_tb K3q (ninS ne_tb_rd nin0)
  have f3_E_rd := Exa.keep f1_E_rd K3q
  have f3_V_ba := Arv.keep f1_V_ba K3q (ninS ne_ba_rd nin0)
  have f3_V_ast := Arv.keep f1_V_ast K3q (ninS ne_ast_rd nin0)
  have f3_V_aks := Arv.keep f1_V_aks K3q (ninS ne_aks_rd nin0)
  have f3_E_rd1 := Exa.keep RE1 K3q
  have f3_F_position_rd1 := Fld.keep RP1 K3q (ninS (Ne.symm ne_rd_rd1) nin0)
  have f3_F_depth_rd1 := Fld.keep RD1 K3q (ninS (Ne.symm ne_rd_rd1) nin0)
  have SZ3 := Nat.le_trans SZ1 K3q.1
  refine Gz.tr st3 ?_
  refine Gz.astore 291 #[s0, .val (.int dq), s2, s3, s4, .val (.ref ast), .val (.ref aks), .val (.int (1 : Int32)), s8, s9, .val (.ref rd), .val (.ref rd1), .val (.int (1 : Int32)), .val (.ref st_NUMBER), .unset] X3 hx (dd at_289) rfl rfl rfl ?_
  refine Gz.aload 293 X3 hx (dd at_291) rfl rfl rfl ?_
  obtain ⟨cq4, kq4, q4a, q4b, q4c⟩ := isOf hZ rfl QE3_0
  obtain ⟨_, _, ⟨T4, L4, k4, n4⟩, -, X4, ⟨Lc4, hQ4, l4, y4, z4⟩, st4⟩ := X3.virtualBack hx (y := ym4) (z := ym4) hown (mvT hZ (ww hw 112 rfl)) (mvT hZ (ww hw 113 rfl)) (notFace_of_selects (args := #[]) (mvT hZ (ww hw 115 rfl))) (mvT hZ (ww hw 115 rfl)) (mvT hZ (ww hw 114 rfl)) (by decide) (backOf (W := 0) (rmMk_o l Z av0 hw [] rd st_OBJECT st_ARRAY dq st_NUMBER (2 : Int32) T3.heap n0 SZ3 f3_S_st_OBJECT f3_S_st_ARRAY QE3_0 QF3_3 QF3_5 QF3_6 (Ne.symm ne_st_OBJECT_st_NUMBER) (Ne.symm ne_st_ARRAY_st_NUMBER)) hZ (ww hw 116 rfl) (ww hw 15 rfl) (by decide) (by decide)) q4a q4c (g := (mkF m 293 #[s0, .val (.int dq), s2, s3, s4, .val (.ref ast), .val (.ref aks), .val (.int (1 : Int32)), s8, s9, .val (.ref rd), .val (.ref rd1), .val (.int (1 : Int32)), .val (.ref st_NUMBER), .unset] [(.ref rd)])) rfl (by rw [hml]; rfl) (Steps.refl _) (argsL := []) (rest := []) (lenOf pd_4 rfl) rfl (Nat.le_refl _) (dd at_293) (fun _ _ => ⟨rfl, rfl, (by decide : 7 + 1 ≤ _), (by decide : 44 + 2 ≤ _)⟩)
  dsimp only [Pt.U, Pt.locs, Pt.cells, Pt.slots, Q_rmMk_o] at X4 l4 y4 z4 st4 hQ4
  subst l4 y4 z4
  obtain ⟨rd4, rfl, N4q, K4q, gr4, szr4, RE4, RP4, RD4⟩ := hQ4
  have N4 := Fr.app N3 N4q
  have ne_tb_rd4 : tb ≠ rd4 := Nat.ne_of_lt (Nat.lt_of_lt_of_le (f3_V_tb).lt szr4)
  have ne_rd_rd4 : rd ≠ rd4 := Nat.ne_of_lt (Nat.lt_of_lt_of_le (QF3_11).lt szr4)
  have ne_ba_rd4 : ba ≠ rd4 := Nat.ne_of_lt (Nat.lt_of_lt_of_le (f3_V_ba).lt szr4)
  have ne_ast_rd4 : ast ≠ rd4 := Nat.ne_of_lt (Nat.lt_of_lt_of_le (f3_V_ast).lt szr4)
  have ne_aks_rd4 : aks ≠ rd4 := Nat.ne_of_lt (Nat.lt_of_lt_of_le (f3_V_aks).lt szr4)
  have ne_rd1_rd4 : rd1 ≠ rd4 := Nat.ne_of_lt (Nat.lt_of_lt_of_le (f3_F_depth_rd1).lt szr4)
  have f4_S_st_OBJECT := own_staK f3_S_st_OBJECT K4q all0
  have f4_S_st_ARRAY := own_staK f3_S_st_ARRAY K4q all0
  have f4_S_st_NUMBER := own_staK f3_S_st_NUMBER K4q all0
  have f4_S_st_TRUE := own_staK f3_S_st_TRUE K4q all0
  have f4_S_tb := own_staK f3_S_tb K4q all0
  have f4_V_tb := Arv.keep f3_V_tb K4q nin0
  have f4_E_rd := Exa.keep QE3_0 K4q
  have f4_V_ba := Arv.keep f3_V_ba K4q nin0
  have f4_V_ast := Arv.keep f3_V_ast K4q nin0
  have f4_V_aks := Arv.keep f3_V_aks K4q nin0
  have f4_E_rd1 := Exa.keep f3_E_rd1 K4q
  have f4_F_position_rd1 := Fld.keep f3_F_position_rd1 K4q nin0
  have f4_F_depth_rd1 := Fld.keep f3_F_depth_rd1 K4q nin0
  have f4_F_bytes_rd := Fld.keep QF3_0 K4q nin0
  have f4_F_maxDepth_rd := Fld.keep QF3_1 K4q nin0
  have f4_F_position_rd := Fld.keep QF3_2 K4q nin0
  have f4_F_depth_rd := Fld.keep QF3_3 K4q nin0
  have f4_F_first_rd := Fld.keep QF3_4 K4q nin0
  have f4_F_token_rd := Fld.keep QF3_5 K4q nin0
  have f4_F_tokenStart_rd := Fld.keep QF3_6 K4q nin0
  have f4_F_textStart_rd := Fld.keep QF3_7 K4q nin0
  have f4_F_textEnd_rd := Fld.keep QF3_8 K4q nin0
  have f4_F_escaped_rd := Fld.keep QF3_9 K4q nin0
  have f4_F_ascii_rd := Fld.keep QF3_10 K4q nin0
  have f4_F_integral_rd := Fld.keep QF3_11 K4q nin0
  have SZ4 := Nat.le_trans SZ3 K4q.1
  refine Gz.tr st4 ?_
  refine Gz.astore 298 #[s0, .val (.int dq), s2, s3, s4, .val (.ref ast), .val (.ref aks), .val (.int (1 : Int32)), s8, s9, .val (.ref rd), .val (.ref rd1), .val (.int (1 : Int32)), .val (.ref st_NUMBER), .val (.ref rd4)] X4 hx (dd at_296) rfl rfl rfl ?_
  refine Gz.iload 300 X4 hx (dd at_298) rfl rfl ?_
  refine Gz.ifNo 303 X4 hx (dd at_300) ((if0 _ _).trans (feq (by decide : ¬ ((1 : Int32) = (0 : Int32)))).1) rfl ?_
  refine Gz.aload 305 X4 hx (dd at_303) rfl rfl rfl ?_
  refine Gz.aload 307 X4 hx (dd at_305) rfl rfl rfl ?_
  refine Gz.iload 309 X4 hx (dd at_307) rfl rfl ?_
  obtain ⟨c5, A5, q5, S5, N5, H5, G5⟩ := id f4_V_aks
  have hin5 : ¬ ((1 : Int32) < 0 ∨ c5.slots.size ≤ ((1 : Int32)).toNatClampNeg) := inb_of S5 ⟨by decide, by decide⟩
  refine Gz.ldA 310 X4 hx hZ rfl (dd at_309) rfl A5 hin5 (Has.at H5 hin5 (rfl : _ = ((.ref st_NUMBER) : Value))) rfl ?_
  refine Gz.acmp 313 true X4 hx (dd at_310) rfl rfl (decide_eq_true rfl) (by decide) (by decide) ?_
  refine Gz.aload 315 X4 hx (dd at_313) rfl rfl rfl ?_
  obtain ⟨cq6, kq6, q6a, q6b, q6c⟩ := isOf hZ rfl RE4
  obtain ⟨_, _, ⟨T6, L6, k6, n6⟩, -, X6, ⟨Lc6, hQ6, l6, y6, z6⟩, st6⟩ := X4.virtualBack hx (y := ym10) (z := ym10) hown (mvT hZ (ww hw 122 rfl)) (mvT hZ (ww hw 103 rfl)) (notFace_of_selects (args := #[]) (mvT hZ (ww hw 105 rfl))) (mvT hZ (ww hw 105 rfl)) (mvT hZ (ww hw 104 rfl)) (by decide) (backOf (W := 0) (rm14 l Z av0 hw [] rd4 (2 : Int32) T4.heap n0 SZ4 RP4) hZ (ww hw 106 rfl) (ww hw 83 rfl) (by decide) (by decide)) q6a q6c (g := (mkF m 315 #[s0, .val (.int dq), s2, s3, s4, .val (.ref ast), .val (.ref aks), .val (.int (1 : Int32)), s8, s9, .val (.ref rd), .val (.ref rd1), .val (.int (1 : Int32)), .val (.ref st_NUMBER), .val (.ref rd4)] [(.ref rd4)])) rfl (by rw [hml]; rfl) (Steps.refl _) (argsL := []) (rest := []) (lenOf pd_5 rfl) rfl (Nat.le_refl _) (dd at_315) (fun _ _ => ⟨rfl, rfl, (by decide : 8 + 0 ≤ _), (by decide : 46 + 0 ≤ _)⟩)
  dsimp only [Pt.U, Pt.locs, Pt.cells, Pt.slots, Q_rm14] at X6 l6 y6 z6 st6 hQ6
  subst l6 y6 z6
  rw [show (fMp rd4 (2 : Int32)) = (2 : Int32) from (by unfold fMp; rfl)] at hQ6
  obtain ⟨rfl, N6q, e6⟩ := hQ6
  have N6 := Fr.app N4 N6q
  refine Gz.tr st6 ?_
  refine Gz.aload 320 X6 hx (dd at_318) rfl rfl rfl ?_
  refine Gz.iload 322 X6 hx (dd at_320) rfl rfl ?_
  obtain ⟨c7, A7, q7, S7, N7, H7, G7⟩ := id f4_V_ast
  have hin7 : ¬ ((1 : Int32) < 0 ∨ c7.slots.size ≤ ((1 : Int32)).toNatClampNeg) := inb_of S7 ⟨by decide, by decide⟩
  refine Gz.ldI 323 X6 hx hZ (dd at_322) e6 A7 hin7 (Has.at H7 hin7 (rfl : _ = ((.int (2 : Int32)) : Value))) rfl ?_
  refine Gz.icmpNo 326 X6 hx (dd at_323) (teq (by decide : (2 : Int32) = (2 : Int32))).2 rfl ?_
  refine Gz.aload 328 X6 hx (dd at_326) rfl rfl rfl ?_
  obtain ⟨cq8, kq8, q8a, q8b, q8c⟩ := isOf hZ e6 RE4
  obtain ⟨_, _, ⟨T8, L8, k8, n8⟩, -, X8, ⟨Lc8, hQ8, l8, y8, z8⟩, st8⟩ := X6.virtualBack hx (y := ym5) (z := ym5) hown (mvT hZ (ww hw 121 rfl)) (mvT hZ (ww hw 108 rfl)) (notFace_of_selects (args := #[]) (mvT hZ (ww hw 110 rfl))) (mvT hZ (ww hw 110 rfl)) (mvT hZ (ww hw 109 rfl)) (by decide) (backOf (W := 0) (rm15 l Z av0 hw [] rd4 dq T4.heap n0 SZ4 RD4) hZ (ww hw 111 rfl) (ww hw 83 rfl) (by decide) (by decide)) q8a q8c (g := (mkF m 328 #[s0, .val (.int dq), s2, s3, s4, .val (.ref ast), .val (.ref aks), .val (.int (1 : Int32)), s8, s9, .val (.ref rd), .val (.ref rd1), .val (.int (1 : Int32)), .val (.ref st_NUMBER), .val (.ref rd4)] [(.ref rd4)])) rfl (by rw [hml]; rfl) (Steps.refl _) (argsL := []) (rest := []) (lenOf pd_5 rfl) rfl (Nat.le_refl _) (dd at_328) (fun _ _ => ⟨rfl, e6, (by decide : 8 + 0 ≤ _), (by decide : 46 + 0 ≤ _)⟩)
  dsimp only [Pt.U, Pt.locs, Pt.cells, Pt.slots, Q_rm15] at X8 l8 y8 z8 st8 hQ8
  subst l8 y8 z8
  rw [show (fMd rd4 dq) = dq from (by unfold fMd; rfl)] at hQ8
  obtain ⟨rfl, N8q, e8⟩ := hQ8
  have N8 := Fr.app N6 N8q
  refine Gz.tr st8 ?_
  refine Gz.iloadN 332 X8 hx (dd at_331) rfl rfl ?_
  refine Gz.icmpNo 335 X8 hx (dd at_332) (teq (rfl : dq = dq)).2 rfl ?_
  refine Gz.iconst 336 (1 : Int32) X8 hx (dd at_335) rfl rfl ?_
  refine Gz.goto 340 X8 hx (dd at_336) (by decide) (by decide) ?_
  refine Gz.fin X8 (v := some (.int (1 : Int32))) (fun h => by rw [hret] at h; cases h) hlk (by decide) (by decide) (fun fs hr => retN X8 hx (t := .boolean) hret (by simp) (dd at_340) hr) ?_
  exact ⟨rfl, N8⟩
theorem ef_rmSw_2_n (m : MethodId) (a0 : Addr) : entryFrame m #[(.ref a0)] 2 = mkF m 0 #[.val (.ref a0), .unset] [] := by first | (simp [entryFrame, mkF, argsToLocals, Value.category]; done) | rfl
def Q_rmSw_2_n (Z : State) (a0 : Addr) (ba : Addr) (md : Int32) (dp : Int32) (fi : Int32) (ts : Int32) (xs : Int32) (xe : Int32) (es : Int32) (as_ : Int32) (ig : Int32) (k_ba : ClassId) (h0 : Heap) (n0 : Nat) (v : Option Value) (h : Heap) (L : List Loc) : Prop := v = some (.int (52 : Int32)) ∧ Fr n0 L ∧ Keep h0 h [a0] ∧ Exa Z h a0 cs0 ∧ Fld Z h a0 cs0 "bytes" "[B" (.ref ba) ∧ Fld Z h a0 cs0 "maxDepth" "I" (.int md) ∧ Fld Z h a0 cs0 "position" "I" (.int (2 : Int32)) ∧ Fld Z h a0 cs0 "depth" "I" (.int dp) ∧ Fld Z h a0 cs0 "first" "Z" (.int fi) ∧ Fld Z h a0 cs0 "token" "Lcom/example/bad_status/badstatus/model/JsonReader$Token;" .null ∧ Fld Z h a0 cs0 "tokenStart" "I" (.int ts) ∧ Fld Z h a0 cs0 "textStart" "I" (.int xs) ∧ Fld Z h a0 cs0 "textEnd" "I" (.int xe) ∧ Fld Z h a0 cs0 "escaped" "Z" (.int es) ∧ Fld Z h a0 cs0 "ascii" "Z" (.int as_) ∧ Fld Z h a0 cs0 "integral" "Z" (.int ig)
set_option maxRecDepth 65536 in
set_option maxHeartbeats 40000000 in
theorem rmSw_2_n (l : Launch) (Z : State) (av0 : Array Value) (hw : ∀ d ∈ tables_1, d.before av0 Z = true) (ws : List Jvm.Cond) (a0 : Addr) (ba : Addr) (md : Int32) (dp : Int32) (fi : Int32) (ts : Int32) (xs : Int32) (xe : Int32) (es : Int32) (as_ : Int32) (ig : Int32) (k_ba : ClassId) (h0 : Heap) (n0 : Nat) (Z0 : n0 ≤ h0.size) (E_a0 : Exa Z h0 a0 cs0) (F_bytes_a0 : Fld Z h0 a0 cs0 "bytes" "[B" (.ref ba)) (F_maxDepth_a0 : Fld Z h0 a0 cs0 "maxDepth" "I" (.int md)) (F_position_a0 : Fld Z h0 a0 cs0 "position" "I" (.int (2 : Int32))) (F_depth_a0 : Fld Z h0 a0 cs0 "depth" "I" (.int dp)) (F_first_a0 : Fld Z h0 a0 cs0 "first" "Z" (.int fi)) (F_token_a0 : Fld Z h0 a0 cs0 "token" "Lcom/example/bad_status/badstatus/model/JsonReader$Token;" .null) (F_tokenStart_a0 : Fld Z h0 a0 cs0 "tokenStart" "I" (.int ts)) (F_textStart_a0 : Fld Z h0 a0 cs0 "textStart" "I" (.int xs)) (F_textEnd_a0 : Fld Z h0 a0 cs0 "textEnd" "I" (.int xe)) (F_escaped_a0 : Fld Z h0 a0 cs0 "escaped" "Z" (.int es)) (F_ascii_a0 : Fld Z h0 a0 cs0 "ascii" "Z" (.int as_)) (F_integral_a0 : Fld Z h0 a0 cs0 "integral" "Z" (.int ig)) (g_a0 : n0 ≤ a0) (V_ba : Arv Z h0 ba k_ba .byte (10 : Int32) [(.int (91 : Int32)), (.int (32 : Int32)), (.int (52 : Int32)), (.int (50 : Int32)), (.int (44 : Int32)), (.int (91 : Int32)), (.int (116 : Int32)), (.int (114 : Int32)), (.int (117 : Int32)), (.int (101 : Int32))] (.int (0 : Int32))) (ne_ba_a0 : ba ≠ a0) :
    MetFree l (⟨cs0, "skipWhitespace", "()I"⟩ : MethodName) (head1 (Jvm.Cond.code (⟨cs0, "skipWhitespace", "()I"⟩ : MethodName) prog_11_method_14_code 2 (some .int) :: ws) ({ frames := 1, cells := 0, slots := 0, locals := 12 } : Room)) (fun a U => a = #[(.ref a0)] ∧ Z.Warmed39 U.vm ∧ U.heap = h0) (fun _ _ _ _ _ => True) (fun _ U o U' => ∃ v L, o = .returned v ∧ Q_rmSw_2_n Z a0 ba md dp fi ts xs xe es as_ ig k_ba h0 n0 v U'.heap L ∧ FrameEnd U o U' L ({ frames := 1, cells := 0, slots := 0, locals := 12 } : Room).cells ({ frames := 1, cells := 0, slots := 0, locals := 12 } : Room).slots) := by
  refine MetFree.of_bodySF (plainFor_of_name pn_0) hisR ?_
  intro p e s m args below meth c s₁ Bd hml0 hP hK
  obtain ⟨rfl, hZ, hh⟩ := hP
  have hx := Bd.exec
  have hby := Bd.bytes
  have hml : c.maxLocals = 2 := hml0
  have dd : ∀ {pc : Nat} {r : Except DecodeError (Instr × Nat)}, decode prog_11_method_14_code pc = r → decode c.code pc = r := fun q => hb hby q
  have hown : s.vm.findClass cs0 = some m.cls := findClass_of_methodNamed Bd.named
  have hnm := (name_of_methodNamed Bd.named Bd.method).1
  have X0 : Stand p l e ({ frames := 1, cells := 0, slots := 0, locals := 12 } : Room) s m #[(.ref a0)] below meth c s₁ [] 0 0 := Stand.of_body Bd
  have e0 : s₁.heap = h0 := by rw [← hh, Bd.state]; rfl
  have N0 := Fr.nil n0
  have hret := Bd.returns
  have hlk := Bd.notSynchronized
  show Gz p e below s ({ frames := 1, cells := 0, slots := 0, locals := 12 } : Room).cells ({ frames := 1, cells := 0, slots := 0, locals := 12 } : Room).slots (Q_rmSw_2_n Z a0 ba md dp fi ts xs xe es as_ ig k_ba h0 n0) (s₁.setTop (entryFrame m #[(.ref a0)] 2))
  refine Gz.enter (ef_rmSw_2_n m a0) ?_
  refine Gz.aloadN 1 X0 hx (dd d4_0) rfl rfl rfl ?_
  refine Gz.getF 4 X0 hx hZ hown (dd d4_1) (host := "") (Or.inl (ww hw 24 rfl)) Via.refl e0 F_position_a0 rfl fun T1 X1 e1 => ?_
  refine Gz.istoreN 5 #[.val (.ref a0), .val (.int (2 : Int32))] X1 hx (dd d4_4) rfl rfl ?_
  refine Gz.iloadN 6 X1 hx (dd d4_5) rfl rfl ?_
  refine Gz.aloadN 7 X1 hx (dd d4_6) rfl rfl rfl ?_
  refine Gz.getF 10 X1 hx hZ hown (dd d4_7) (host := "") (Or.inl (ww hw 22 rfl)) Via.refl e1 F_bytes_a0 rfl fun T2 X2 e2 => ?_
  obtain ⟨c3, A3, -, S3, N3, -, -⟩ := id V_ba
  refine Gz.alen 11 X2 hx hZ (dd d4_10) e2 A3 S3 N3 rfl ?_
  refine Gz.icmpNo 14 X2 hx (dd d4_11) (tlt (by decide : (2 : Int32) < (10 : Int32))).2.1 rfl ?_
  refine Gz.aloadN 15 X2 hx (dd d4_14) rfl rfl rfl ?_
  refine Gz.getF 18 X2 hx hZ hown (dd d4_15) (host := "") (Or.inl (ww hw 22 rfl)) Via.refl e2 F_bytes_a0 rfl fun T4 X4 e4 => ?_
  refine Gz.iloadN 19 X4 hx (dd d4_18) rfl rfl ?_
  obtain ⟨c5, A5, q5, S5, N5, H5, G5⟩ := id V_ba
  have hin5 : ¬ ((2 : Int32) < 0 ∨ c5.slots.size ≤ ((2 : Int32)).toNatClampNeg) := inb_of S5 ⟨by decide, by decide⟩
  refine Gz.ldB 20 X4 hx hZ (dd d4_19) e4 A5 hin5 (Has.at H5 hin5 (rfl : _ = ((.int (52 : Int32)) : Value))) rfl ?_
  obtain ⟨_, _, ⟨T6, L6, k6, n6⟩, -, X6, ⟨Lc6, hQ6, l6, y6, z6⟩, st6⟩ := Jvm.LawKit.callS X4 hx (y := ym6) hown (mvT hZ (ww hw 37 rfl)) (mvT hZ (ww hw 38 rfl)) (mvT hZ (ww hw 15 rfl)) (mvT hZ (ww hw 39 rfl)) (by decide) (backOf (W := 0) (rm5 l Z av0 hw [] (52 : Int32)  h0 n0 Z0 ) hZ (ww hw 39 rfl) (ww hw 15 rfl) (by decide) (by decide)) (g := (mkF m 20 #[.val (.ref a0), .val (.int (2 : Int32))] [(.int (52 : Int32))])) rfl (by rw [hml]; rfl) (argsL := [(.int (52 : Int32))]) (rest := []) (lenOf pd_6 rfl) rfl (Nat.le_refl _) (dd d4_20) (fun _ _ => ⟨rfl, e4, (by decide : 0 + 0 ≤ _), (by decide : 0 + 0 ≤ _)⟩)
  dsimp only [Pt.U, Pt.locs, Pt.cells, Pt.slots, Q_rm5] at X6 l6 y6 z6 st6 hQ6
  subst l6 y6 z6
  rw [show (fWs (52 : Int32)) = (0 : Int32) from (by unfold fWs; rw [if_pos (by decide : (32 : Int32) < (52 : Int32))]; try decide)] at hQ6
  obtain ⟨rfl, N6q, e6⟩ := hQ6
  have N6 := Fr.app N0 N6q
  refine Gz.st st6 ?_
  refine Gz.ifYes 32 X6 hx (dd d4_23) ((if0 _ _).trans (teq (by decide : (0 : Int32) = (0 : Int32))).1) (by decide) (by decide) ?_
  refine Gz.aloadN 33 X6 hx (dd d4_32) rfl rfl rfl ?_
  refine Gz.iloadN 34 X6 hx (dd d4_33) rfl rfl ?_
  refine Gz.putF 37 X6 hx hZ hown .int (dd d4_34) (host := "") (Or.inl (ww hw 24 rfl)) Via.refl e6 F_position_a0 E_a0 (Or.inl (ww hw 25 rfl)) (ww hw 14 rfl) (by decide) rfl rfl rfl fun T7 h7 X7 e7 W7 => ?_
  have f7_E_a0 := Exa.wr W7 E_a0
  have f7_F_bytes_a0 := Fld.other W7 F_bytes_a0 (Or.inr (Ne.symm <| sn1 hw))
  have f7_F_maxDepth_a0 := Fld.other W7 F_maxDepth_a0 (Or.inr (sn11 hw))
  have f7_F_depth_a0 := Fld.other W7 F_depth_a0 (Or.inr (sn12 hw))
  have f7_F_first_a0 := Fld.other W7 F_first_a0 (Or.inr (sn13 hw))
  have f7_F_token_a0 := Fld.other W7 F_token_a0 (Or.inr (sn14 hw))
  have f7_F_tokenStart_a0 := Fld.other W7 F_tokenStart_a0 (Or.inr (sn15 hw))
  have f7_F_textStart_a0 := Fld.other W7 F_textStart_a0 (Or.inr (sn16 hw))
  have f7_F_textEnd_a0 := Fld.other W7 F_textEnd_a0 (Or.inr (sn17 hw))
  have f7_F_escaped_a0 := Fld.other W7 F_escaped_a0 (Or.inr (sn18 hw))
  have f7_F_ascii_a0 := Fld.other W7 F_ascii_a0 (Or.inr (sn19 hw))
  have f7_F_integral_a0 := Fld.other W7 F_integral_a0 (Or.inr (sn20 hw))
  have f7_V_ba := Arv.other V_ba W7 ne_ba_a0
  have f7_F_position_a0 := Fld.same W7 F_position_a0
  have N7 := Fr.snoc X7 N6 g_a0
  have SZ7 : n0 ≤ h7.size := Nat.le_trans Z0 (Keep.of_wr W7).1
  have K7 := Keep.wr (Keep.refl h0 [a0]) W7 (Or.inl (List.mem_of_getElem? (i := 0) rfl))
  refine Gz.iloadN 38 X7 hx (dd d4_37) rfl rfl ?_
  refine Gz.aloadN 39 X7 hx (dd d4_38) rfl rfl rfl ?_
  refine Gz.getF 42 X7 hx hZ hown (dd d4_39) (host := "") (Or.inl (ww hw 22 rfl)) Via.refl e7 f7_F_bytes_a0 rfl fun T8 X8 e8 => ?_
  obtain ⟨c9, A9, -, S9, N9, -, -⟩ := id f7_V_ba
  refine Gz.alen 43 X8 hx hZ (dd d4_42) e8 A9 S9 N9 rfl ?_
  refine Gz.icmpNo 46 X8 hx (dd d4_43) (tlt (by decide : (2 : Int32) < (10 : Int32))).2.1 rfl ?_
  refine Gz.aloadN 47 X8 hx (dd d4_46) rfl rfl rfl ?_
  refine Gz.getF 50 X8 hx hZ hown (dd d4_47) (host := "") (Or.inl (ww hw 22 rfl)) Via.refl e8 f7_F_bytes_a0 rfl fun T10 X10 e10 => ?_
  refine Gz.iloadN 51 X10 hx (dd d4_50) rfl rfl ?_
  obtain ⟨c11, A11, q11, S11, N11, H11, G11⟩ := id f7_V_ba
  have hin11 : ¬ ((2 : Int32) < 0 ∨ c11.slots.size ≤ ((2 : Int32)).toNatClampNeg) := inb_of S11 ⟨by decide, by decide⟩
  refine Gz.ldB 52 X10 hx hZ (dd d4_51) e10 A11 hin11 (Has.at H11 hin11 (rfl : _ = ((.int (52 : Int32)) : Value))) rfl ?_
  refine Gz.sipush 55 (255 : Int32) X10 hx (dd d4_52) rfl rfl ?_
  refine Gz.iandV 56 (52 : Int32) X10 hx (dd d4_55) rfl rfl ?_
  refine Gz.goto 60 X10 hx (dd d4_56) (by decide) (by decide) ?_
  refine Gz.fin X10 (v := some (.int (52 : Int32))) (fun h => by rw [hret] at h; cases h) hlk (by decide) (by decide) (fun fs hr => retI X10 hx hret (dd d4_60) hr) ?_
  rw [e10]
  exact ⟨rfl, N7, K7, f7_E_a0, f7_F_bytes_a0, f7_F_maxDepth_a0, f7_F_position_a0, f7_F_depth_a0, f7_F_first_a0, f7_F_token_a0, f7_F_tokenStart_a0, f7_F_textStart_a0, f7_F_textEnd_a0, f7_F_escaped_a0, f7_F_ascii_a0, f7_F_integral_a0⟩
theorem ef_rmNx_2_n (m : MethodId) (a0 : Addr) : entryFrame m #[(.ref a0)] 3 = mkF m 0 #[.val (.ref a0), .unset, .unset] [] := by first | (simp [entryFrame, mkF, argsToLocals, Value.category]; done) | rfl
def Q_rmNx_2_n (Z : State) (a0 : Addr) (ba : Addr) (md : Int32) (dp : Int32) (fi : Int32) (ts : Int32) (xs : Int32) (xe : Int32) (es : Int32) (as_ : Int32) (ig : Int32) (k_ba : ClassId) (s_NUMBER : Addr) (h0 : Heap) (n0 : Nat) (v : Option Value) (h : Heap) (L : List Loc) : Prop := v = some (.ref s_NUMBER) ∧ Fr n0 L ∧ Keep h0 h [a0] ∧ Exa Z h a0 cs0 ∧ Fld Z h a0 cs0 "bytes" "[B" (.ref ba) ∧ Fld Z h a0 cs0 "maxDepth" "I" (.int md) ∧ Fld Z h a0 cs0 "position" "I" (.int (4 : Int32)) ∧ Fld Z h a0 cs0 "depth" "I" (.int dp) ∧ Fld Z h a0 cs0 "first" "Z" (.int (0 : Int32)) ∧ Fld Z h a0 cs0 "token" "Lcom/example/bad_status/badstatus/model/JsonReader$Token;" (.ref s_NUMBER) ∧ Fld Z h a0 cs0 "tokenStart" "I" (.int (2 : Int32)) ∧ Fld Z h a0 cs0 "textStart" "I" (.int (2 : Int32)) ∧ Fld Z h a0 cs0 "textEnd" "I" (.int (4 : Int32)) ∧ Fld Z h a0 cs0 "escaped" "Z" (.int (0 : Int32)) ∧ Fld Z h a0 cs0 "ascii" "Z" (.int (1 : Int32)) ∧ Fld Z h a0 cs0 "integral" "Z" (.int (1 : Int32))
set_option maxRecDepth 65536 in
set_option maxHeartbeats 40000000 in
theorem rmNx_2_n (l : Launch) (Z : State) (av0 : Array Value) (hw : ∀ d ∈ tables_1, d.before av0 Z = true) (ws : List Jvm.Cond) (a0 : Addr) (ba : Addr) (md : Int32) (dp : Int32) (fi : Int32) (ts : Int32) (xs : Int32) (xe : Int32) (es : Int32) (as_ : Int32) (ig : Int32) (k_ba : ClassId) (s_NUMBER : Addr) (h0 : Heap) (n0 : Nat) (Z0 : n0 ≤ h0.size) (E_a0 : Exa Z h0 a0 cs0) (F_bytes_a0 : Fld Z h0 a0 cs0 "bytes" "[B" (.ref ba)) (F_maxDepth_a0 : Fld Z h0 a0 cs0 "maxDepth" "I" (.int md)) (F_position_a0 : Fld Z h0 a0 cs0 "position" "I" (.int (2 : Int32))) (F_depth_a0 : Fld Z h0 a0 cs0 "depth" "I" (.int dp)) (F_first_a0 : Fld Z h0 a0 cs0 "first" "Z" (.int fi)) (F_token_a0 : Fld Z h0 a0 cs0 "token" "Lcom/example/bad_status/badstatus/model/JsonReader$Token;" .null) (F_tokenStart_a0 : Fld Z h0 a0 cs0 "tokenStart" "I" (.int ts)) (F_textStart_a0 : Fld Z h0 a0 cs0 "textStart" "I" (.int xs)) (F_textEnd_a0 : Fld Z h0 a0 cs0 "textEnd" "I" (.int xe)) (F_escaped_a0 : Fld Z h0 a0 cs0 "escaped" "Z" (.int es)) (F_ascii_a0 : Fld Z h0 a0 cs0 "ascii" "Z" (.int as_)) (F_integral_a0 : Fld Z h0 a0 cs0 "integral" "Z" (.int ig)) (g_a0 : n0 ≤ a0) (V_ba : Arv Z h0 ba k_ba .byte (10 : Int32) [(.int (91 : Int32)), (.int (32 : Int32)), (.int (52 : Int32)), (.int (50 : Int32)), (.int (44 : Int32)), (.int (91 : Int32)), (.int (116 : Int32)), (.int (114 : Int32)), (.int (117 : Int32)), (.int (101 : Int32))] (.int (0 : Int32))) (ne_ba_a0 : ba ≠ a0) (S_s_NUMBER : Sta Z h0 cs1 "NUMBER" "Lcom/example/bad_status/badstatus/model/JsonReader$Token;" (.ref s_NUMBER)) :
    MetFree l (⟨cs0, "next", "()Lcom/example/bad_status/badstatus/model/JsonReader$Token;"⟩ : MethodName) (head1 (Jvm.Cond.code (⟨cs0, "next", "()Lcom/example/bad_status/badstatus/model/JsonReader$Token;"⟩ : MethodName) prog_11_method_2_code 3 (some (.object cs1)) :: ws) ({ frames := 3, cells := 0, slots := 0, locals := 42 } : Room)) (fun a U => a = #[(.ref a0)] ∧ Z.Warmed39 U.vm ∧ U.heap = h0) (fun _ _ _ _ _ => True) (fun _ U o U' => ∃ v L, o = .returned v ∧ Q_rmNx_2_n Z a0 ba md dp fi ts xs xe es as_ ig k_ba s_NUMBER h0 n0 v U'.heap L ∧ FrameEnd U o U' L ({ frames := 3, cells := 0, slots := 0, locals := 42 } : Room).cells ({ frames := 3, cells := 0, slots := 0, locals := 42 } : Room).slots) := by
  refine MetFree.of_bodySF (plainFor_of_name pn_0) hisR ?_
  intro p e s m args below meth c s₁ Bd hml0 hP hK
  obtain ⟨rfl, hZ, hh⟩ := hP
  have hx := Bd.exec
  have hby := Bd.bytes
  have hml : c.maxLocals = 3 := hml0
  have dd : ∀ {pc : Nat} {r : Except DecodeError (Instr × Nat)}, decode prog_11_method_2_code pc = r → decode c.code pc = r := fun q => hb hby q
  have hown : s.vm.findClass cs0 = some m.cls := findClass_of_methodNamed Bd.named
  have hnm := (name_of_methodNamed Bd.named Bd.method).1
  have X0 : Stand p l e ({ frames := 3, cells := 0, slots := 0, locals := 42 } : Room) s m #[(.ref a0)] below meth c s₁ [] 0 0 := Stand.of_body Bd
  have e0 : s₁.heap = h0 := by rw [← hh, Bd.state]; rfl
  have N0 := Fr.nil n0
  have hret := Bd.returns
  have hlk := Bd.notSynchronized
  show Gz p e below s ({ frames := 3, cells := 0, slots := 0, locals := 42 } : Room).cells ({ frames := 3, cells := 0, slots := 0, locals := 42 } : Room).slots (Q_rmNx_2_n Z a0 ba md dp fi ts xs xe es as_ ig k_ba s_NUMBER h0 n0) (s₁.setTop (entryFrame m #[(.ref a0)] 3))
  refine Gz.enter (ef_rmNx_2_n m a0) ?_
  refine Gz.aloadN 1 X0 hx (dd d3_0) rfl rfl rfl ?_
  obtain ⟨cq1, q1, q1'⟩ := E_a0.cell
  obtain ⟨_, _, ⟨T1, L1, k1, n1⟩, -, X1, ⟨Lc1, hQ1, l1, y1, z1⟩, st1⟩ := X0.privateBack hx (y := ym7) hown (mvT hZ (ww hw 33 rfl)) (mvT hZ (ww hw 34 rfl)) (own_selp (y := ym7) (y' := ym8) rfl (mvT hZ (ww hw 31 rfl)) (mvT hZ (ww hw 30 rfl)) (mvT hZ (ww hw 34 rfl)) (Cond.privateMethod_at (mvP hZ (ww hw 35 rfl) (args := #[]))) (by decide)) (Cond.privateMethod_at (mvP hZ (ww hw 35 rfl) (args := #[]))) (mvT hZ (ww hw 36 rfl)) (by decide) (backOf (W := 0) (rmSw_2_n l Z av0 hw [] a0 ba md dp fi ts xs xe es as_ ig k_ba h0 n0 Z0 E_a0 F_bytes_a0 F_maxDepth_a0 F_position_a0 F_depth_a0 F_first_a0 F_token_a0 F_tokenStart_a0 F_textStart_a0 F_textEnd_a0 F_escaped_a0 F_ascii_a0 F_integral_a0 g_a0 V_ba ne_ba_a0) hZ (ww hw 36 rfl) (ww hw 15 rfl) (by decide) (by decide)) (g := (mkF m 1 #[.val (.ref a0), .unset, .unset] [(.ref a0)])) rfl (by rw [hml]; rfl) (Steps.refl _) (a := a0) (by rw [e0]; exact q1) q1' (argsL := []) (rest := []) (lenOf pd_5 rfl) rfl (Nat.le_refl _) (dd d3_1) (fun _ _ => ⟨rfl, e0, (by decide : 0 + 0 ≤ _), (by decide : 0 + 0 ≤ _)⟩)
  dsimp only [Pt.U, Pt.locs, Pt.cells, Pt.slots, Q_rmSw_2_n] at X1 l1 y1 z1 st1 hQ1
  subst l1 y1 z1
  obtain ⟨rfl, N1q, K1q, QE1_0, QF1_0, QF1_1, QF1_2, QF1_3, QF1_4, QF1_5, QF1_6, QF1_7, QF1_8, QF1_9, QF1_10, QF1_11⟩ := hQ1
  have N1 := Fr.app N0 N1q
  have f1_E_a0 := Exa.keep E_a0 K1q
  have f1_V_ba := Arv.keep V_ba K1q (ninS ne_ba_a0 nin0)
  have f1_S_s_NUMBER := own_staK S_s_NUMBER K1q (allS (nst_of E_a0) all0)
  have SZ1 := Nat.le_trans Z0 K1q.1
  have K1 := Keep.trans (Keep.refl h0 [a0]) K1q (allS (Or.inl (List.mem_of_getElem? (i := 0) rfl)) all0)
  refine Gz.tr st1 ?_
  refine Gz.istoreN 5 #[.val (.ref a0), .val (.int (52 : Int32)), .unset] X1 hx (dd d3_4) rfl rfl ?_
  refine Gz.aloadN 6 X1 hx (dd d3_5) rfl rfl rfl ?_
  refine Gz.aloadN 7 X1 hx (dd d3_6) rfl rfl rfl ?_
  refine Gz.getF 10 X1 hx hZ hown (dd d3_7) (host := "") (Or.inl (ww hw 24 rfl)) Via.refl rfl QF1_2 rfl fun T2 X2 e2 => ?_
  refine Gz.putF 13 X2 hx hZ hown .int (dd d3_10) (host := "") (Or.inl (ww hw 40 rfl)) Via.refl e2 QF1_6 QE1_0 (Or.inl (ww hw 41 rfl)) (ww hw 14 rfl) (by decide) rfl rfl rfl fun T3 h3 X3 e3 W3 => ?_
  have f3_E_a0 := Exa.wr W3 QE1_0
  have f3_V_ba := Arv.other f1_V_ba W3 ne_ba_a0
  have f3_S_s_NUMBER := Sta.wr W3 f1_S_s_NUMBER
  have f3_F_bytes_a0 := Fld.other W3 QF1_0 (Or.inr (Ne.symm <| sn5 hw))
  have f3_F_maxDepth_a0 := Fld.other W3 QF1_1 (Or.inr (Ne.symm <| sn24 hw))
  have f3_F_position_a0 := Fld.other W3 QF1_2 (Or.inr (Ne.symm <| sn15 hw))
  have f3_F_depth_a0 := Fld.other W3 QF1_3 (Or.inr (sn31 hw))
  have f3_F_first_a0 := Fld.other W3 QF1_4 (Or.inr (sn32 hw))
  have f3_F_token_a0 := Fld.other W3 QF1_5 (Or.inr (sn33 hw))
  have f3_F_textStart_a0 := Fld.other W3 QF1_7 (Or.inr (sn34 hw))
  have f3_F_textEnd_a0 := Fld.other W3 QF1_8 (Or.inr (sn35 hw))
  have f3_F_escaped_a0 := Fld.other W3 QF1_9 (Or.inr (sn36 hw))
  have f3_F_ascii_a0 := Fld.other W3 QF1_10 (Or.inr (sn37 hw))
  have f3_F_integral_a0 := Fld.other W3 QF1_11 (Or.inr (sn38 hw))
  have f3_F_tokenStart_a0 := Fld.same W3 QF1_6
  have N3 := Fr.snoc X3 N1 g_a0
  have SZ3 : n0 ≤ h3.size := Nat.le_trans SZ1 (Keep.of_wr W3).1
  have K3 := Keep.wr K1 W3 (Or.inl (List.mem_of_getElem? (i := 0) rfl))
  refine Gz.iloadN 14 X3 hx (dd d3_13) rfl rfl ?_
  refine Gz.st (fun t k => X3.lookupswitchMiss hx (g := (mkF m 14 #[.val (.ref a0), .val (.int (52 : Int32)), .unset] [(.int (52 : Int32))])) rfl (k := (52 : Int32)) (rest := []) rfl (dd d3_14) (by decide) (by decide) (by show (0 : Int) ≤ ((14 : Nat) : Int) + 133; decide) t k) ?_
  show Gz p e below s _ _ _ (T3.setTop (mkF m 147 #[.val (.ref a0), .val (.int (52 : Int32)), .unset] []))
  refine Gz.iloadN 148 X3 hx (dd d3_147) rfl rfl ?_
  refine Gz.bipush 150 (45 : Int32) X3 hx (dd d3_148) rfl rfl ?_
  refine Gz.icmpNo 153 X3 hx (dd d3_150) (feq (by decide : ¬ ((52 : Int32) = (45 : Int32)))).1 rfl ?_
  refine Gz.iloadN 154 X3 hx (dd d3_153) rfl rfl ?_
  obtain ⟨_, _, ⟨T4, L4, k4, n4⟩, -, X4, ⟨Lc4, hQ4, l4, y4, z4⟩, st4⟩ := Jvm.LawKit.callS X3 hx (y := ym11) hown (mvT hZ (ww hw 59 rfl)) (mvT hZ (ww hw 60 rfl)) (mvT hZ (ww hw 15 rfl)) (mvT hZ (ww hw 61 rfl)) (by decide) (backOf (W := 0) (rm8 l Z av0 hw [] (52 : Int32)  h3 n0 SZ3 ) hZ (ww hw 61 rfl) (ww hw 15 rfl) (by decide) (by decide)) (g := (mkF m 154 #[.val (.ref a0), .val (.int (52 : Int32)), .unset] [(.int (52 : Int32))])) rfl (by rw [hml]; rfl) (argsL := [(.int (52 : Int32))]) (rest := []) (lenOf pd_9 rfl) rfl (Nat.le_refl _) (dd d3_154) (fun _ _ => ⟨rfl, e3, (by decide : 0 + 0 ≤ _), (by decide : 0 + 0 ≤ _)⟩)
  dsimp only [Pt.U, Pt.locs, Pt.cells, Pt.slots, Q_rm8] at X4 l4 y4 z4 st4 hQ4
  subst l4 y4 z4
  rw [show (fDg (52 : Int32)) = (1 : Int32) from (by unfold fDg; rw [if_neg (by decide : ¬ ((52 : Int32) < (48 : Int32))), if_neg (by decide : ¬ ((57 : Int32) < (52 : Int32)))]; try decide)] at hQ4
  obtain ⟨rfl, N4q, e4⟩ := hQ4
  have N4 := Fr.app N3 N4q
  refine Gz.st st4 ?_
  refine Gz.ifYes 165 X4 hx (dd d3_157) ((if0 _ _).trans (feq (by decide : ¬ ((1 : Int32) = (0 : Int32)))).2) (by decide) (by decide) ?_
  refine Gz.aloadN 166 X4 hx (dd d3_165) rfl rfl rfl ?_
  obtain ⟨cq5, q5, q5'⟩ := f3_E_a0.cell
  obtain ⟨_, _, ⟨T5, L5, k5, n5⟩, -, X5, ⟨Lc5, hQ5, l5, y5, z5⟩, st5⟩ := X4.privateBack hx (y := ym13) hown (mvT hZ (ww hw 62 rfl)) (mvT hZ (ww hw 63 rfl)) (own_selp (y := ym13) (y' := ym8) rfl (mvT hZ (ww hw 31 rfl)) (mvT hZ (ww hw 30 rfl)) (mvT hZ (ww hw 63 rfl)) (Cond.privateMethod_at (mvP hZ (ww hw 64 rfl) (args := #[]))) (by decide)) (Cond.privateMethod_at (mvP hZ (ww hw 64 rfl) (args := #[]))) (mvT hZ (ww hw 65 rfl)) (by decide) (backOf (W := 0) (rmRn_2_n l Z av0 hw [] a0 ba md dp fi (2 : Int32) xs xe es as_ ig k_ba h3 n0 SZ3 f3_E_a0 f3_F_bytes_a0 f3_F_maxDepth_a0 f3_F_position_a0 f3_F_depth_a0 f3_F_first_a0 f3_F_token_a0 f3_F_tokenStart_a0 f3_F_textStart_a0 f3_F_textEnd_a0 f3_F_escaped_a0 f3_F_ascii_a0 f3_F_integral_a0 g_a0 f3_V_ba ne_ba_a0) hZ (ww hw 65 rfl) (ww hw 15 rfl) (by decide) (by decide)) (g := (mkF m 166 #[.val (.ref a0), .val (.int (52 : Int32)), .unset] [(.ref a0)])) rfl (by rw [hml]; rfl) (Steps.refl _) (a := a0) (by rw [e4]; exact q5) q5' (argsL := []) (rest := []) (lenOf pd_2 rfl) rfl (Nat.le_refl _) (dd d3_166) (fun _ _ => ⟨rfl, e4, (by decide : 0 + 0 ≤ _), (by decide : 0 + 0 ≤ _)⟩)
  dsimp only [Pt.U, Pt.locs, Pt.cells, Pt.slots, Q_rmRn_2_n] at X5 l5 y5 z5 st5 hQ5
  subst l5 y5 z5
  obtain ⟨rfl, N5q, K5q, QE5_0, QF5_0, QF5_1, QF5_2, QF5_3, QF5_4, QF5_5, QF5_6, QF5_7, QF5_8, QF5_9, QF5_10, QF5_11⟩ := hQ5
  have N5 := Fr.app N4 N5q
  have f5_E_a0 := Exa.keep f3_E_a0 K5q
  have f5_V_ba := Arv.keep f3_V_ba K5q (ninS ne_ba_a0 nin0)
  have f5_S_s_NUMBER := own_staK f3_S_s_NUMBER K5q (allS (nst_of f3_E_a0) all0)
  have SZ5 := Nat.le_trans SZ3 K5q.1
  have K5 := Keep.trans K3 K5q (allS (Or.inl (List.mem_of_getElem? (i := 0) rfl)) all0)
  refine Gz.tr st5 ?_
  refine Gz.getS 172 X5 hx hZ hown (dd d3_169) (host := "") (Or.inl (ww hw 80 rfl)) Via.refl rfl f5_S_s_NUMBER rfl fun T6 X6 e6 => ?_
  refine Gz.astoreN 173 #[.val (.ref a0), .val (.int (52 : Int32)), .val (.ref s_NUMBER)] X6 hx (dd d3_172) rfl rfl rfl ?_
  refine Gz.aloadN 174 X6 hx (dd d3_173) rfl rfl rfl ?_
  refine Gz.aloadN 175 X6 hx (dd d3_174) rfl rfl rfl ?_
  refine Gz.putF 178 X6 hx hZ hown (.object cs1) (dd d3_175) (host := "") (Or.inl (ww hw 51 rfl)) Via.refl e6 QF5_5 QE5_0 (Or.inl (ww hw 52 rfl)) (ww hw 14 rfl) (by decide) rfl rfl rfl fun T7 h7 X7 e7 W7 => ?_
  have f7_E_a0 := Exa.wr W7 QE5_0
  have f7_V_ba := Arv.other f5_V_ba W7 ne_ba_a0
  have f7_S_s_NUMBER := Sta.wr W7 f5_S_s_NUMBER
  have f7_F_bytes_a0 := Fld.other W7 QF5_0 (Or.inr (Ne.symm <| sn4 hw))
  have f7_F_maxDepth_a0 := Fld.other W7 QF5_1 (Or.inr (Ne.symm <| sn23 hw))
  have f7_F_position_a0 := Fld.other W7 QF5_2 (Or.inr (Ne.symm <| sn14 hw))
  have f7_F_depth_a0 := Fld.other W7 QF5_3 (Or.inr (Ne.symm <| sn40 hw))
  have f7_F_first_a0 := Fld.other W7 QF5_4 (Or.inr (Ne.symm <| sn46 hw))
  have f7_F_tokenStart_a0 := Fld.other W7 QF5_6 (Or.inr (Ne.symm <| sn33 hw))
  have f7_F_textStart_a0 := Fld.other W7 QF5_7 (Or.inr (sn52 hw))
  have f7_F_textEnd_a0 := Fld.other W7 QF5_8 (Or.inr (sn53 hw))
  have f7_F_escaped_a0 := Fld.other W7 QF5_9 (Or.inr (sn54 hw))
  have f7_F_ascii_a0 := Fld.other W7 QF5_10 (Or.inr (sn55 hw))
  have f7_F_integral_a0 := Fld.other W7 QF5_11 (Or.inr (sn56 hw))
  have f7_F_token_a0 := Fld.same W7 QF5_5
  have N7 := Fr.snoc X7 N5 g_a0
  have SZ7 : n0 ≤ h7.size := Nat.le_trans SZ5 (Keep.of_wr W7).1
  have K7 := Keep.wr K5 W7 (Or.inl (List.mem_of_getElem? (i := 0) rfl))
  refine Gz.aloadN 179 X7 hx (dd d3_178) rfl rfl rfl ?_
  refine Gz.fin X7 (v := some (.ref s_NUMBER)) (fun h => by rw [hret] at h; cases h) hlk (by decide) (by decide) (fun fs hr => retA X7 hx hret (dd d3_179) hr rfl rfl) ?_
  rw [e7]
  exact ⟨rfl, N7, K7, f7_E_a0, f7_F_bytes_a0, f7_F_maxDepth_a0, f7_F_position_a0, f7_F_depth_a0, f7_F_first_a0, f7_F_token_a0, f7_F_tokenStart_a0, f7_F_textStart_a0, f7_F_textEnd_a0, f7_F_escaped_a0, f7_F_ascii_a0, f7_F_integral_a0⟩
set_option maxRecDepth 65536 in
set_option maxHeartbeats 40000000 in
theorem sgC2 {p : Program} {l : Launch} {e : Env} {s : State} {m : MethodId} {args : Array Value} {below : List Frame} {meth : Method} {c : Code} {T0 : State} {locs : List Loc} {Z : State} {av0 : Array Value} {hS : Heap} (s0 : Slot) (dq : Int32) (s2 : Slot) (s3 : Slot) (s4 : Slot) (ast : Addr) (aks : Addr) (s8 : Slot) (s9 : Slot) (rd : Addr) (st_OBJECT : Addr) (st_ARRAY : Addr) (st_NUMBER : Addr) (st_TRUE : Addr) (tb : Addr) (k_tb : ClassId) (ba : Addr) (md : Int32) (fi : Int32) (ts : Int32) (xs : Int32) (xe : Int32) (es : Int32) (as_ : Int32) (ig : Int32) (k_ba : ClassId) (k_ast : ClassId) (k_aks : ClassId) (n0 : Nat)
    (X0 : Stand p l e room_1 s m args below meth c T0 locs 6 42) (hx : p.tables.exec = Jvm.exec) (hZ : Z.Warmed39 s.vm) (hw : ∀ d ∈ tables_1, d.before av0 Z = true) (hby : c.code = code) (hml : c.maxLocals = 15) (hown : s.vm.findClass "com/example/bad_status/badstatus/model/JsonReaderResetPinLaw" = some m.cls) (hret : meth.sig.returnType = some .boolean) (hlk : meth.locks = false) (e0 : T0.heap = hS) (N0 : Fr n0 locs) (Z0 : n0 ≤ hS.size) (S_st_OBJECT : Sta Z hS cs1 "OBJECT" "Lcom/example/bad_status/badstatus/model/JsonReader$Token;" (.ref st_OBJECT)) (S_st_ARRAY : Sta Z hS cs1 "ARRAY" "Lcom/example/bad_status/badstatus/model/JsonReader$Token;" (.ref st_ARRAY)) (S_st_NUMBER : Sta Z hS cs1 "NUMBER" "Lcom/example/bad_status/badstatus/model/JsonReader$Token;" (.ref st_NUMBER)) (S_st_TRUE : Sta Z hS cs1 "TRUE" "Lcom/example/bad_status/badstatus/model/JsonReader$Token;" (.ref st_TRUE)) (ne_st_OBJECT_st_ARRAY : st_OBJECT ≠ st_ARRAY) (ne_st_OBJECT_st_NUMBER : st_OBJECT ≠ st_NUMBER) (ne_st_OBJECT_st_TRUE : st_OBJECT ≠ st_TRUE) (ne_st_ARRAY_st_NUMBER : st_ARRAY ≠ st_NUMBER) (ne_st_ARRAY_st_TRUE : st_ARRAY ≠ st_TRUE) (S_tb : Sta Z hS cs0 "TRUE" "[B" (.ref tb)) (V_tb : Arv Z hS tb k_tb .byte (4 : Int32) [(.int (116 : Int32)), (.int (114 : Int32)), (.int (117 : Int32)), (.int (101 : Int32))] (.int (0 : Int32))) (E_rd : Exa Z hS rd cs0) (F_bytes_rd : Fld Z hS rd cs0 "bytes" "[B" (.ref ba)) (F_maxDepth_rd : Fld Z hS rd cs0 "maxDepth" "I" (.int md)) (F_position_rd : Fld Z hS rd cs0 "position" "I" (.int (2 : Int32))) (F_depth_rd : Fld Z hS rd cs0 "depth" "I" (.int dq)) (F_first_rd : Fld Z hS rd cs0 "first" "Z" (.int fi)) (F_token_rd : Fld Z hS rd cs0 "token" "Lcom/example/bad_status/badstatus/model/JsonReader$Token;" .null) (F_tokenStart_rd : Fld Z hS rd cs0 "tokenStart" "I" (.int ts)) (F_textStart_rd : Fld Z hS rd cs0 "textStart" "I" (.int xs)) (F_textEnd_rd : Fld Z hS rd cs0 "textEnd" "I" (.int xe)) (F_escaped_rd : Fld Z hS rd cs0 "escaped" "Z" (.int es)) (F_ascii_rd : Fld Z hS rd cs0 "ascii" "Z" (.int as_)) (F_integral_rd : Fld Z hS rd cs0 "integral" "Z" (.int ig)) (g_rd : n0 ≤ rd) (V_ba : Arv Z hS ba k_ba .byte (10 : Int32) [(.int (91 : Int32)), (.int (32 : Int32)), (.int (52 : Int32)), (.int (50 : Int32)), (.int (44 : Int32)), (.int (91 : Int32)), (.int (116 : Int32)), (.int (114 : Int32)), (.int (117 : Int32)), (.int (101 : Int32))] (.int (0 : Int32))) (ne_ba_rd : ba ≠ rd) (V_ast : Arv Z hS ast k_ast .int (6 : Int32) [(.int (0 : Int32)), (.int (2 : Int32)), (.int (2 : Int32)), (.int (3 : Int32)), (.int (5 : Int32)), (.int (6 : Int32))] (.int (0 : Int32))) (V_aks : Arv Z hS aks k_aks (.object cs1) (6 : Int32) [(.ref st_ARRAY), (.ref st_NUMBER), (.ref st_NUMBER), (.ref st_NUMBER), (.ref st_ARRAY), (.ref st_TRUE)] .null) (ne_ast_rd : ast ≠ rd) (ne_aks_rd : aks ≠ rd) (ne_tb_rd : tb ≠ rd) (hdm : ¬ (dq = md)) :
    Gz p e below s 24 192 (Q_law n0) (T0.setTop (mkF m 261 #[s0, .val (.int dq), s2, s3, s4, .val (.ref ast), .val (.ref aks), .val (.int (2 : Int32)), s8, s9, .val (.ref rd), .unset, .unset, .unset, .unset] [])) := by
  have dd : ∀ {pc : Nat} {r : Except DecodeError (Instr × Nat)}, decode code pc = r → decode c.code pc = r := fun q => hb hby q
  refine Gz.aload 263 X0 hx (dd at_261) rfl rfl rfl ?_
  obtain ⟨cq1, kq1, q1a, q1b, q1c⟩ := isOf hZ e0 E_rd
  obtain ⟨_, _, ⟨T1, L1, k1, n1⟩, -, X1, ⟨Lc1, hQ1, l1, y1, z1⟩, st1⟩ := X0.virtualBack hx (y := ym4) (z := ym4) hown (mvT hZ (ww hw 112 rfl)) (mvT hZ (ww hw 113 rfl)) (notFace_of_selects (args := #[]) (mvT hZ (ww hw 115 rfl))) (mvT hZ (ww hw 115 rfl)) (mvT hZ (ww hw 114 rfl)) (by decide) (backOf (W := 0) (rmMk_n l Z av0 hw [] rd st_OBJECT st_ARRAY dq ts hS n0 Z0 S_st_OBJECT S_st_ARRAY E_rd F_depth_rd F_token_rd F_tokenStart_rd) hZ (ww hw 116 rfl) (ww hw 15 rfl) (by decide) (by decide)) q1a q1c (g := (mkF m 263 #[s0, .val (.int dq), s2, s3, s4, .val (.ref ast), .val (.ref aks), .val (.int (2 : Int32)), s8, s9, .val (.ref rd), .unset, .unset, .unset, .unset] [(.ref rd)])) rfl (by rw [hml]; rfl) (Steps.refl _) (argsL := []) (rest := []) (lenOf pd_4 rfl) rfl (Nat.le_refl _) (dd at_263) (fun _ _ => ⟨rfl, e0, (by decide : 6 + 1 ≤ _), (by decide : 42 + 2 ≤ _)⟩)
  dsimp only [Pt.U, Pt.locs, Pt.cells, Pt.slots, Q_rmMk_n] at X1 l1 y1 z1 st1 hQ1
  subst l1 y1 z1
  obtain ⟨rd1, rfl, N1q, K1q, gr1, szr1, RE1, RP1, RD1⟩ := hQ1
  have N1 := Fr.app N0 N1q
  have ne_tb_rd1 : tb ≠ rd1 := Nat.ne_of_lt (Nat.lt_of_lt_of_le (V_tb).lt szr1)
  have ne_rd_rd1 : rd ≠ rd1 := Nat.ne_of_lt (Nat.lt_of_lt_of_le (F_integral_rd).lt szr1)
  have ne_ba_rd1 : ba ≠ rd1 := Nat.ne_of_lt (Nat.lt_of_lt_of_le (V_ba).lt szr1)
  have ne_ast_rd1 : ast ≠ rd1 := Nat.ne_of_lt (Nat.lt_of_lt_of_le (V_ast).lt szr1)
  have ne_aks_rd1 : aks ≠ rd1 := Nat.ne_of_lt (Nat.lt_of_lt_of_le (V_aks).lt szr1)
  have f1_S_st_OBJECT := own_staK S_st_OBJECT K1q all0
  have f1_S_st_ARRAY := own_staK S_st_ARRAY K1q all0
  have f1_S_st_NUMBER := own_staK S_st_NUMBER K1q all0
  have f1_S_st_TRUE := own_staK S_st_TRUE K1q all0
  have f1_S_tb := own_staK S_tb K1q all0
  have f1_V_tb := Arv.keep V_tb K1q nin0
  have f1_E_rd := Exa.keep E_rd K1q
  have f1_F_bytes_rd := Fld.keep F_bytes_rd K1q nin0
  have f1_F_maxDepth_rd := Fld.keep F_maxDepth_rd K1q nin0
  have f1_F_position_rd := Fld.keep F_position_rd K1q nin0
  have f1_F_depth_rd := Fld.keep F_depth_rd K1q nin0
  have f1_F_first_rd := Fld.keep F_first_rd K1q nin0
  have f1_F_token_rd := Fld.keep F_token_rd K1q nin0
  have f1_F_tokenStart_rd := Fld.keep F_tokenStart_rd K1q nin0
  have f1_F_textStart_rd := Fld.keep F_textStart_rd K1q nin0
  have f1_F_textEnd_rd := Fld.keep F_textEnd_rd K1q nin0
  have f1_F_escaped_rd := Fld.keep F_escaped_rd K1q nin0
  have f1_F_ascii_rd := Fld.keep F_ascii_rd K1q nin0
  have f1_F_integral_rd := Fld.keep F_integral_rd K1q nin0
  have f1_V_ba := Arv.keep V_ba K1q nin0
  have f1_V_ast := Arv.keep V_ast K1q nin0
  have f1_V_aks := Arv.keep V_aks K1q nin0
  have SZ1 := Nat.le_trans Z0 K1q.1
  refine Gz.tr st1 ?_
  refine Gz.astore 268 #[s0, .val (.int dq), s2, s3, s4, .val (.ref ast), .val (.ref aks), .val (.int (2 : Int32)), s8, s9, .val (.ref rd), .val (.ref rd1), .unset, .unset, .unset] X1 hx (dd at_266) rfl rfl rfl ?_
  refine Gz.aload 270 X1 hx (dd at_268) rfl rfl rfl ?_
  obtain ⟨cq2, kq2, q2a, q2b, q2c⟩ := isOf hZ rfl RE1
  obtain ⟨_, _, ⟨T2, L2, k2, n2⟩, -, X2, ⟨Lc2, hQ2, l2, y2, z2⟩, st2⟩ := X1.virtualBack hx (y := ym5) (z := ym5) hown (mvT hZ (ww hw 121 rfl)) (mvT hZ (ww hw 108 rfl)) (notFace_of_selects (args := #[]) (mvT hZ (ww hw 110 rfl))) (mvT hZ (ww hw 110 rfl)) (mvT hZ (ww hw 109 rfl)) (by decide) (backOf (W := 0) (rm15 l Z av0 hw [] rd1 dq T1.heap n0 SZ1 RD1) hZ (ww hw 111 rfl) (ww hw 83 rfl) (by decide) (by decide)) q2a q2c (g := (mkF m 270 #[s0, .val (.int dq), s2, s3, s4, .val (.ref ast), .val (.ref aks), .val (.int (2 : Int32)), s8, s9, .val (.ref rd), .val (.ref rd1), .unset, .unset, .unset] [(.ref rd1)])) rfl (by rw [hml]; rfl) (Steps.refl _) (argsL := []) (rest := []) (lenOf pd_5 rfl) rfl (Nat.le_refl _) (dd at_270) (fun _ _ => ⟨rfl, rfl, (by decide : 7 + 0 ≤ _), (by decide : 44 + 0 ≤ _)⟩)
  dsimp only [Pt.U, Pt.locs, Pt.cells, Pt.slots, Q_rm15] at X2 l2 y2 z2 st2 hQ2
  subst l2 y2 z2
  rw [show (fMd rd1 dq) = dq from (by unfold fMd; rfl)] at hQ2
  obtain ⟨rfl, N2q, e2⟩ := hQ2
  have N2 := Fr.app N1 N2q
  refine Gz.tr st2 ?_
  refine Gz.iloadN 274 X2 hx (dd at_273) rfl rfl ?_
  refine Gz.icmpNo 277 X2 hx (dd at_274) (teq (rfl : dq = dq)).2 rfl ?_
  refine Gz.iconst 278 (1 : Int32) X2 hx (dd at_277) rfl rfl ?_
  refine Gz.goto 282 X2 hx (dd at_278) (by decide) (by decide) ?_
  refine Gz.istore 284 #[s0, .val (.int dq), s2, s3, s4, .val (.ref ast), .val (.ref aks), .val (.int (2 : Int32)), s8, s9, .val (.ref rd), .val (.ref rd1), .val (.int (1 : Int32)), .unset, .unset] X2 hx (dd at_282) rfl rfl ?_
  refine Gz.aload 286 X2 hx (dd at_284) rfl rfl rfl ?_
  obtain ⟨cq3, kq3, q3a, q3b, q3c⟩ := isOf hZ e2 f1_E_rd
  obtain ⟨_, _, ⟨T3, L3, k3, n3⟩, -, X3, ⟨Lc3, hQ3, l3, y3, z3⟩, st3⟩ := X2.virtualBack hx (y := ym8) (z := ym8) hown (mvT hZ (ww hw 28 rfl)) (mvT hZ (ww hw 29 rfl)) (notFace_of_selects (args := #[]) (mvT hZ (ww hw 31 rfl))) (mvT hZ (ww hw 31 rfl)) (mvT hZ (ww hw 30 rfl)) (by decide) (backOf (W := 0) (rmNx_2_n l Z av0 hw [] rd ba md dq fi ts xs xe es as_ ig k_ba st_NUMBER T1.heap n0 SZ1 f1_E_rd f1_F_bytes_rd f1_F_maxDepth_rd f1_F_position_rd f1_F_depth_rd f1_F_first_rd f1_F_token_rd f1_F_tokenStart_rd f1_F_textStart_rd f1_F_textEnd_rd f1_F_escaped_rd f1_F_ascii_rd f1_F_integral_rd g_rd f1_V_ba ne_ba_rd f1_S_st_NUMBER) hZ (ww hw 32 rfl) (ww hw 15 rfl) (by decide) (by decide)) q3a q3c (g := (mkF m 286 #[s0, .val (.int dq), s2, s3, s4, .val (.ref ast), .val (.ref aks), .val (.int (2 : Int32)), s8, s9, .val (.ref rd), .val (.ref rd1), .val (.int (1 : Int32)), .unset, .unset] [(.ref rd)])) rfl (by rw [hml]; rfl) (Steps.refl _) (argsL := []) (rest := []) (lenOf pd_8 rfl) rfl (Nat.le_refl _) (dd at_286) (fun _ _ => ⟨rfl, e2, (by decide : 7 + 0 ≤ _), (by decide : 44 + 0 ≤ _)⟩)
  dsimp only [Pt.U, Pt.locs, Pt.cells, Pt.slots, Q_rmNx_2_n] at X3 l3 y3 z3 st3 hQ3
  subst l3 y3 z3
  obtain ⟨rfl, N3q, K3q, QE3_0, QF3_0, QF3_1, QF3_2, QF3_3, QF3_4, QF3_5, QF3_6, QF3_7, QF3_8, QF3_9, QF3_10, QF3_11⟩ := hQ3
  have N3 := Fr.app N2 N3q
  have f3_S_st_OBJECT := own_staK f1_S_st_OBJECT K3q (allS (nst_of f1_E_rd) all0)
  have f3_S_st_ARRAY := own_staK f1_S_st_ARRAY K3q (allS (nst_of f1_E_rd) all0)
  have f3_S_st_NUMBER := own_staK f1_S_st_NUMBER K3q (allS (nst_of f1_E_rd) all0)
  have f3_S_st_TRUE := own_staK f1_S_st_TRUE K3q (allS (nst_of f1_E_rd) all0)
  have f3_S_tb := own_staK f1_S_tb K3q (allS (nst_of f1_E_rd) all0)
  have f3_V_tb := Arv.keep f1_V_tb K3q (ninS ne_tb_rd nin0)
  have f3_E_rd := Exa.keep f1_E_rd K3q
  have f3_V_ba := Arv.keep f1_V_ba K3q (ninS ne_ba_rd nin0)
  have f3_V_ast := Arv.keep f1_V_ast K3q (ninS ne_ast_rd nin0)
  have f3_V_aks := Arv.keep f1_V_aks K3q (ninS ne_aks_rd nin0)
  have f3_E_rd1 := Exa.keep RE1 K3q
  have f3_F_position_rd1 := Fld.keep RP1 K3q (ninS (Ne.symm ne_rd_rd1) nin0)
  have f3_F_depth_rd1 := Fld.keep RD1 K3q (ninS (Ne.symm ne_rd_rd1) nin0)
  have SZ3 := Nat.le_trans SZ1 K3q.1
  refine Gz.tr st3 ?_
  refine Gz.astore 291 #[s0, .val (.int dq), s2, s3, s4, .val (.ref ast), .val (.ref aks), .val (.int (2 : Int32)), s8, s9, .val (.ref rd), .val (.ref rd1), .val (.int (1 : Int32)), .val (.ref st_NUMBER), .unset] X3 hx (dd at_289) rfl rfl rfl ?_
  refine Gz.aload 293 X3 hx (dd at_291) rfl rfl rfl ?_
  obtain ⟨cq4, kq4, q4a, q4b, q4c⟩ := isOf hZ rfl QE3_0
  obtain ⟨_, _, ⟨T4, L4, k4, n4⟩, -, X4, ⟨Lc4, hQ4, l4, y4, z4⟩, st4⟩ := X3.virtualBack hx (y := ym4) (z := ym4) hown (mvT hZ (ww hw 112 rfl)) (mvT hZ (ww hw 113 rfl)) (notFace_of_selects (args := #[]) (mvT hZ (ww hw 115 rfl))) (mvT hZ (ww hw 115 rfl)) (mvT hZ (ww hw 114 rfl)) (by decide) (backOf (W := 0) (rmMk_o l Z av0 hw [] rd st_OBJECT st_ARRAY dq st_NUMBER (2 : Int32) T3.heap n0 SZ3 f3_S_st_OBJECT f3_S_st_ARRAY QE3_0 QF3_3 QF3_5 QF3_6 (Ne.symm ne_st_OBJECT_st_NUMBER) (Ne.symm ne_st_ARRAY_st_NUMBER)) hZ (ww hw 116 rfl) (ww hw 15 rfl) (by decide) (by decide)) q4a q4c (g := (mkF m 293 #[s0, .val (.int dq), s2, s3, s4, .val (.ref ast), .val (.ref aks), .val (.int (2 : Int32)), s8, s9, .val (.ref rd), .val (.ref rd1), .val (.int (1 : Int32)), .val (.ref st_NUMBER), .unset] [(.ref rd)])) rfl (by rw [hml]; rfl) (Steps.refl _) (argsL := []) (rest := []) (lenOf pd_4 rfl) rfl (Nat.le_refl _) (dd at_293) (fun _ _ => ⟨rfl, rfl, (by decide : 7 + 1 ≤ _), (by decide : 44 + 2 ≤ _)⟩)
  dsimp only [Pt.U, Pt.locs, Pt.cells, Pt.slots, Q_rmMk_o] at X4 l4 y4 z4 st4 hQ4
  subst l4 y4 z4
  obtain ⟨rd4, rfl, N4q, K4q, gr4, szr4, RE4, RP4, RD4⟩ := hQ4
  have N4 := Fr.app N3 N4q
  have ne_tb_rd4 : tb ≠ rd4 := Nat.ne_of_lt (Nat.lt_of_lt_of_le (f3_V_tb).lt szr4)
  have ne_rd_rd4 : rd ≠ rd4 := Nat.ne_of_lt (Nat.lt_of_lt_of_le (QF3_11).lt szr4)
  have ne_ba_rd4 : ba ≠ rd4 := Nat.ne_of_lt (Nat.lt_of_lt_of_le (f3_V_ba).lt szr4)
  have ne_ast_rd4 : ast ≠ rd4 := Nat.ne_of_lt (Nat.lt_of_lt_of_le (f3_V_ast).lt szr4)
  have ne_aks_rd4 : aks ≠ rd4 := Nat.ne_of_lt (Nat.lt_of_lt_of_le (f3_V_aks).lt szr4)
  have ne_rd1_rd4 : rd1 ≠ rd4 := Nat.ne_of_lt (Nat.lt_of_lt_of_le (f3_F_depth_rd1).lt szr4)
  have f4_S_st_OBJECT := own_staK f3_S_st_OBJECT K4q all0
  have f4_S_st_ARRAY := own_staK f3_S_st_ARRAY K4q all0
  have f4_S_st_NUMBER := own_staK f3_S_st_NUMBER K4q all0
  have f4_S_st_TRUE := own_staK f3_S_st_TRUE K4q all0
  have f4_S_tb := own_staK f3_S_tb K4q all0
  have f4_V_tb := Arv.keep f3_V_tb K4q nin0
  have f4_E_rd := Exa.keep QE3_0 K4q
  have f4_V_ba := Arv.keep f3_V_ba K4q nin0
  have f4_V_ast := Arv.keep f3_V_ast K4q nin0
  have f4_V_aks := Arv.keep f3_V_aks K4q nin0
  have f4_E_rd1 := Exa.keep f3_E_rd1 K4q
  have f4_F_position_rd1 := Fld.keep f3_F_position_rd1 K4q nin0
  have f4_F_depth_rd1 := Fld.keep f3_F_depth_rd1 K4q nin0
  have f4_F_bytes_rd := Fld.keep QF3_0 K4q nin0
  have f4_F_maxDepth_rd := Fld.keep QF3_1 K4q nin0
  have f4_F_position_rd := Fld.keep QF3_2 K4q nin0
  have f4_F_depth_rd := Fld.keep QF3_3 K4q nin0
  have f4_F_first_rd := Fld.keep QF3_4 K4q nin0
  have f4_F_token_rd := Fld.keep QF3_5 K4q nin0
  have f4_F_tokenStart_rd := Fld.keep QF3_6 K4q nin0
  have f4_F_textStart_rd := Fld.keep QF3_7 K4q nin0
  have f4_F_textEnd_rd := Fld.keep QF3_8 K4q nin0
  have f4_F_escaped_rd := Fld.keep QF3_9 K4q nin0
  have f4_F_ascii_rd := Fld.keep QF3_10 K4q nin0
  have f4_F_integral_rd := Fld.keep QF3_11 K4q nin0
  have SZ4 := Nat.le_trans SZ3 K4q.1
  refine Gz.tr st4 ?_
  refine Gz.astore 298 #[s0, .val (.int dq), s2, s3, s4, .val (.ref ast), .val (.ref aks), .val (.int (2 : Int32)), s8, s9, .val (.ref rd), .val (.ref rd1), .val (.int (1 : Int32)), .val (.ref st_NUMBER), .val (.ref rd4)] X4 hx (dd at_296) rfl rfl rfl ?_
  refine Gz.iload 300 X4 hx (dd at_298) rfl rfl ?_
  refine Gz.ifNo 303 X4 hx (dd at_300) ((if0 _ _).trans (feq (by decide : ¬ ((1 : Int32) = (0 : Int32)))).1) rfl ?_
  refine Gz.aload 305 X4 hx (dd at_303) rfl rfl rfl ?_
  refine Gz.aload 307 X4 hx (dd at_305) rfl rfl rfl ?_
  refine Gz.iload 309 X4 hx (dd at_307) rfl rfl ?_
  obtain ⟨c5, A5, q5, S5, N5, H5, G5⟩ := id f4_V_aks
  have hin5 : ¬ ((2 : Int32) < 0 ∨ c5.slots.size ≤ ((2 : Int32)).toNatClampNeg) := inb_of S5 ⟨by decide, by decide⟩
  refine Gz.ldA 310 X4 hx hZ rfl (dd at_309) rfl A5 hin5 (Has.at H5 hin5 (rfl : _ = ((.ref st_NUMBER) : Value))) rfl ?_
  refine Gz.acmp 313 true X4 hx (dd at_310) rfl rfl (decide_eq_true rfl) (by decide) (by decide) ?_
  refine Gz.aload 315 X4 hx (dd at_313) rfl rfl rfl ?_
  obtain ⟨cq6, kq6, q6a, q6b, q6c⟩ := isOf hZ rfl RE4
  obtain ⟨_, _, ⟨T6, L6, k6, n6⟩, -, X6, ⟨Lc6, hQ6, l6, y6, z6⟩, st6⟩ := X4.virtualBack hx (y := ym10) (z := ym10) hown (mvT hZ (ww hw 122 rfl)) (mvT hZ (ww hw 103 rfl)) (notFace_of_selects (args := #[]) (mvT hZ (ww hw 105 rfl))) (mvT hZ (ww hw 105 rfl)) (mvT hZ (ww hw 104 rfl)) (by decide) (backOf (W := 0) (rm14 l Z av0 hw [] rd4 (2 : Int32) T4.heap n0 SZ4 RP4) hZ (ww hw 106 rfl) (ww hw 83 rfl) (by decide) (by decide)) q6a q6c (g := (mkF m 315 #[s0, .val (.int dq), s2, s3, s4, .val (.ref ast), .val (.ref aks), .val (.int (2 : Int32)), s8, s9, .val (.ref rd), .val (.ref rd1), .val (.int (1 : Int32)), .val (.ref st_NUMBER), .val (.ref rd4)] [(.ref rd4)])) rfl (by rw [hml]; rfl) (Steps.refl _) (argsL := []) (rest := []) (lenOf pd_5 rfl) rfl (Nat.le_refl _) (dd at_315) (fun _ _ => ⟨rfl, rfl, (by decide : 8 + 0 ≤ _), (by decide : 46 + 0 ≤ _)⟩)
  dsimp only [Pt.U, Pt.locs, Pt.cells, Pt.slots, Q_rm14] at X6 l6 y6 z6 st6 hQ6
  subst l6 y6 z6
  rw [show (fMp rd4 (2 : Int32)) = (2 : Int32) from (by unfold fMp; rfl)] at hQ6
  obtain ⟨rfl, N6q, e6⟩ := hQ6
  have N6 := Fr.app N4 N6q
  refine Gz.tr st6 ?_
  refine Gz.aload 320 X6 hx (dd at_318) rfl rfl rfl ?_
  refine Gz.iload 322 X6 hx (dd at_320) rfl rfl ?_
  obtain ⟨c7, A7, q7, S7, N7, H7, G7⟩ := id f4_V_ast
  have hin7 : ¬ ((2 : Int32) < 0 ∨ c7.slots.size ≤ ((2 : Int32)).toNatClampNeg) := inb_of S7 ⟨by decide, by decide⟩
  refine Gz.ldI 323 X6 hx hZ (dd at_322) e6 A7 hin7 (Has.at H7 hin7 (rfl : _ = ((.int (2 : Int32)) : Value))) rfl ?_
  refine Gz.icmpNo 326 X6 hx (dd at_323) (teq (by decide : (2 : Int32) = (2 : Int32))).2 rfl ?_
  refine Gz.aload 328 X6 hx (dd at_326) rfl rfl rfl ?_
  obtain ⟨cq8, kq8, q8a, q8b, q8c⟩ := isOf hZ e6 RE4
  obtain ⟨_, _, ⟨T8, L8, k8, n8⟩, -, X8, ⟨Lc8, hQ8, l8, y8, z8⟩, st8⟩ := X6.virtualBack hx (y := ym5) (z := ym5) hown (mvT hZ (ww hw 121 rfl)) (mvT hZ (ww hw 108 rfl)) (notFace_of_selects (args := #[]) (mvT hZ (ww hw 110 rfl))) (mvT hZ (ww hw 110 rfl)) (mvT hZ (ww hw 109 rfl)) (by decide) (backOf (W := 0) (rm15 l Z av0 hw [] rd4 dq T4.heap n0 SZ4 RD4) hZ (ww hw 111 rfl) (ww hw 83 rfl) (by decide) (by decide)) q8a q8c (g := (mkF m 328 #[s0, .val (.int dq), s2, s3, s4, .val (.ref ast), .val (.ref aks), .val (.int (2 : Int32)), s8, s9, .val (.ref rd), .val (.ref rd1), .val (.int (1 : Int32)), .val (.ref st_NUMBER), .val (.ref rd4)] [(.ref rd4)])) rfl (by rw [hml]; rfl) (Steps.refl _) (argsL := []) (rest := []) (lenOf pd_5 rfl) rfl (Nat.le_refl _) (dd at_328) (fun _ _ => ⟨rfl, e6, (by decide : 8 + 0 ≤ _), (by decide : 46 + 0 ≤ _)⟩)
  dsimp only [Pt.U, Pt.locs, Pt.cells, Pt.slots, Q_rm15] at X8 l8 y8 z8 st8 hQ8
  subst l8 y8 z8
  rw [show (fMd rd4 dq) = dq from (by unfold fMd; rfl)] at hQ8
  obtain ⟨rfl, N8q, e8⟩ := hQ8
  have N8 := Fr.app N6 N8q
  refine Gz.tr st8 ?_
  refine Gz.iloadN 332 X8 hx (dd at_331) rfl rfl ?_
  refine Gz.icmpNo 335 X8 hx (dd at_332) (teq (rfl : dq = dq)).2 rfl ?_
  refine Gz.iconst 336 (1 : Int32) X8 hx (dd at_335) rfl rfl ?_
  refine Gz.goto 340 X8 hx (dd at_336) (by decide) (by decide) ?_
  refine Gz.fin X8 (v := some (.int (1 : Int32))) (fun h => by rw [hret] at h; cases h) hlk (by decide) (by decide) (fun fs hr => retN X8 hx (t := .boolean) hret (by simp) (dd at_340) hr) ?_
  exact ⟨rfl, N8⟩
theorem ef_rmSw_3_n (m : MethodId) (a0 : Addr) : entryFrame m #[(.ref a0)] 2 = mkF m 0 #[.val (.ref a0), .unset] [] := by first | (simp [entryFrame, mkF, argsToLocals, Value.category]; done) | rfl
def Q_rmSw_3_n (Z : State) (a0 : Addr) (ba : Addr) (md : Int32) (dp : Int32) (fi : Int32) (ts : Int32) (xs : Int32) (xe : Int32) (es : Int32) (as_ : Int32) (ig : Int32) (k_ba : ClassId) (h0 : Heap) (n0 : Nat) (v : Option Value) (h : Heap) (L : List Loc) : Prop := v = some (.int (50 : Int32)) ∧ Fr n0 L ∧ Keep h0 h [a0] ∧ Exa Z h a0 cs0 ∧ Fld Z h a0 cs0 "bytes" "[B" (.ref ba) ∧ Fld Z h a0 cs0 "maxDepth" "I" (.int md) ∧ Fld Z h a0 cs0 "position" "I" (.int (3 : Int32)) ∧ Fld Z h a0 cs0 "depth" "I" (.int dp) ∧ Fld Z h a0 cs0 "first" "Z" (.int fi) ∧ Fld Z h a0 cs0 "token" "Lcom/example/bad_status/badstatus/model/JsonReader$Token;" .null ∧ Fld Z h a0 cs0 "tokenStart" "I" (.int ts) ∧ Fld Z h a0 cs0 "textStart" "I" (.int xs) ∧ Fld Z h a0 cs0 "textEnd" "I" (.int xe) ∧ Fld Z h a0 cs0 "escaped" "Z" (.int es) ∧ Fld Z h a0 cs0 "ascii" "Z" (.int as_) ∧ Fld Z h a0 cs0 "integral" "Z" (.int ig)
set_option maxRecDepth 65536 in
set_option maxHeartbeats 40000000 in
theorem rmSw_3_n (l : Launch) (Z : State) (av0 : Array Value) (hw : ∀ d ∈ tables_1, d.before av0 Z = true) (ws : List Jvm.Cond) (a0 : Addr) (ba : Addr) (md : Int32) (dp : Int32) (fi : Int32) (ts : Int32) (xs : Int32) (xe : Int32) (es : Int32) (as_ : Int32) (ig : Int32) (k_ba : ClassId) (h0 : Heap) (n0 : Nat) (Z0 : n0 ≤ h0.size) (E_a0 : Exa Z h0 a0 cs0) (F_bytes_a0 : Fld Z h0 a0 cs0 "bytes" "[B" (.ref ba)) (F_maxDepth_a0 : Fld Z h0 a0 cs0 "maxDepth" "I" (.int md)) (F_position_a0 : Fld Z h0 a0 cs0 "position" "I" (.int (3 : Int32))) (F_depth_a0 : Fld Z h0 a0 cs0 "depth" "I" (.int dp)) (F_first_a0 : Fld Z h0 a0 cs0 "first" "Z" (.int fi)) (F_token_a0 : Fld Z h0 a0 cs0 "token" "Lcom/example/bad_status/badstatus/model/JsonReader$Token;" .null) (F_tokenStart_a0 : Fld Z h0 a0 cs0 "tokenStart" "I" (.int ts)) (F_textStart_a0 : Fld Z h0 a0 cs0 "textStart" "I" (.int xs)) (F_textEnd_a0 : Fld Z h0 a0 cs0 "textEnd" "I" (.int xe)) (F_escaped_a0 : Fld Z h0 a0 cs0 "escaped" "Z" (.int es)) (F_ascii_a0 : Fld Z h0 a0 cs0 "ascii" "Z" (.int as_)) (F_integral_a0 : Fld Z h0 a0 cs0 "integral" "Z" (.int ig)) (g_a0 : n0 ≤ a0) (V_ba : Arv Z h0 ba k_ba .byte (10 : Int32) [(.int (91 : Int32)), (.int (32 : Int32)), (.int (52 : Int32)), (.int (50 : Int32)), (.int (44 : Int32)), (.int (91 : Int32)), (.int (116 : Int32)), (.int (114 : Int32)), (.int (117 : Int32)), (.int (101 : Int32))] (.int (0 : Int32))) (ne_ba_a0 : ba ≠ a0) :
    MetFree l (⟨cs0, "skipWhitespace", "()I"⟩ : MethodName) (head1 (Jvm.Cond.code (⟨cs0, "skipWhitespace", "()I"⟩ : MethodName) prog_11_method_14_code 2 (some .int) :: ws) ({ frames := 1, cells := 0, slots := 0, locals := 12 } : Room)) (fun a U => a = #[(.ref a0)] ∧ Z.Warmed39 U.vm ∧ U.heap = h0) (fun _ _ _ _ _ => True) (fun _ U o U' => ∃ v L, o = .returned v ∧ Q_rmSw_3_n Z a0 ba md dp fi ts xs xe es as_ ig k_ba h0 n0 v U'.heap L ∧ FrameEnd U o U' L ({ frames := 1, cells := 0, slots := 0, locals := 12 } : Room).cells ({ frames := 1, cells := 0, slots := 0, locals := 12 } : Room).slots) := by
  refine MetFree.of_bodySF (plainFor_of_name pn_0) hisR ?_
  intro p e s m args below meth c s₁ Bd hml0 hP hK
  obtain ⟨rfl, hZ, hh⟩ := hP
  have hx := Bd.exec
  have hby := Bd.bytes
  have hml : c.maxLocals = 2 := hml0
  have dd : ∀ {pc : Nat} {r : Except DecodeError (Instr × Nat)}, decode prog_11_method_14_code pc = r → decode c.code pc = r := fun q => hb hby q
  have hown : s.vm.findClass cs0 = some m.cls := findClass_of_methodNamed Bd.named
  have hnm := (name_of_methodNamed Bd.named Bd.method).1
  have X0 : Stand p l e ({ frames := 1, cells := 0, slots := 0, locals := 12 } : Room) s m #[(.ref a0)] below meth c s₁ [] 0 0 := Stand.of_body Bd
  have e0 : s₁.heap = h0 := by rw [← hh, Bd.state]; rfl
  have N0 := Fr.nil n0
  have hret := Bd.returns
  have hlk := Bd.notSynchronized
  show Gz p e below s ({ frames := 1, cells := 0, slots := 0, locals := 12 } : Room).cells ({ frames := 1, cells := 0, slots := 0, locals := 12 } : Room).slots (Q_rmSw_3_n Z a0 ba md dp fi ts xs xe es as_ ig k_ba h0 n0) (s₁.setTop (entryFrame m #[(.ref a0)] 2))
  refine Gz.enter (ef_rmSw_3_n m a0) ?_
  refine Gz.aloadN 1 X0 hx (dd d4_0) rfl rfl rfl ?_
  refine Gz.getF 4 X0 hx hZ hown (dd d4_1) (host := "") (Or.inl (ww hw 24 rfl)) Via.refl e0 F_position_a0 rfl fun T1 X1 e1 => ?_
  refine Gz.istoreN 5 #[.val (.ref a0), .val (.int (3 : Int32))] X1 hx (dd d4_4) rfl rfl ?_
  refine Gz.iloadN 6 X1 hx (dd d4_5) rfl rfl ?_
  refine Gz.aloadN 7 X1 hx (dd d4_6) rfl rfl rfl ?_
  refine Gz.getF 10 X1 hx hZ hown (dd d4_7) (host := "") (Or.inl (ww hw 22 rfl)) Via.refl e1 F_bytes_a0 rfl fun T2 X2 e2 => ?_
  obtain ⟨c3, A3, -, S3, N3, -, -⟩ := id V_ba
  refine Gz.alen 11 X2 hx hZ (dd d4_10) e2 A3 S3 N3 rfl ?_
  refine Gz.icmpNo 14 X2 hx (dd d4_11) (tlt (by decide : (3 : Int32) < (10 : Int32))).2.1 rfl ?_
  refine Gz.aloadN 15 X2 hx (dd d4_14) rfl rfl rfl ?_
  refine Gz.getF 18 X2 hx hZ hown (dd d4_15) (host := "") (Or.inl (ww hw 22 rfl)) Via.refl e2 F_bytes_a0 rfl fun T4 X4 e4 => ?_
  refine Gz.iloadN 19 X4 hx (dd d4_18) rfl rfl ?_
  obtain ⟨c5, A5, q5, S5, N5, H5, G5⟩ := id V_ba
  have hin5 : ¬ ((3 : Int32) < 0 ∨ c5.slots.size ≤ ((3 : Int32)).toNatClampNeg) := inb_of S5 ⟨by decide, by decide⟩
  refine Gz.ldB 20 X4 hx hZ (dd d4_19) e4 A5 hin5 (Has.at H5 hin5 (rfl : _ = ((.int (50 : Int32)) : Value))) rfl ?_
  obtain ⟨_, _, ⟨T6, L6, k6, n6⟩, -, X6, ⟨Lc6, hQ6, l6, y6, z6⟩, st6⟩ := Jvm.LawKit.callS X4 hx (y := ym6) hown (mvT hZ (ww hw 37 rfl)) (mvT hZ (ww hw 38 rfl)) (mvT hZ (ww hw 15 rfl)) (mvT hZ (ww hw 39 rfl)) (by decide) (backOf (W := 0) (rm5 l Z av0 hw [] (50 : Int32)  h0 n0 Z0 ) hZ (ww hw 39 rfl) (ww hw 15 rfl) (by decide) (by decide)) (g := (mkF m 20 #[.val (.ref a0), .val (.int (3 : Int32))] [(.int (50 : Int32))])) rfl (by rw [hml]; rfl) (argsL := [(.int (50 : Int32))]) (rest := []) (lenOf pd_6 rfl) rfl (Nat.le_refl _) (dd d4_20) (fun _ _ => ⟨rfl, e4, (by decide : 0 + 0 ≤ _), (by decide : 0 + 0 ≤ _)⟩)
  dsimp only [Pt.U, Pt.locs, Pt.cells, Pt.slots, Q_rm5] at X6 l6 y6 z6 st6 hQ6
  subst l6 y6 z6
  rw [show (fWs (50 : Int32)) = (0 : Int32) from (by unfold fWs; rw [if_pos (by decide : (32 : Int32) < (50 : Int32))]; try decide)] at hQ6
  obtain ⟨rfl, N6q, e6⟩ := hQ6
  have N6 := Fr.app N0 N6q
  refine Gz.st st6 ?_
  refine Gz.ifYes 32 X6 hx (dd d4_23) ((if0 _ _).trans (teq (by decide : (0 : Int32) = (0 : Int32))).1) (by decide) (by decide) ?_
  refine Gz.aloadN 33 X6 hx (dd d4_32) rfl rfl rfl ?_
  refine Gz.iloadN 34 X6 hx (dd d4_33) rfl rfl ?_
  refine Gz.putF 37 X6 hx hZ hown .int (dd d4_34) (host := "") (Or.inl (ww hw 24 rfl)) Via.refl e6 F_position_a0 E_a0 (Or.inl (ww hw 25 rfl)) (ww hw 14 rfl) (by decide) rfl rfl rfl fun T7 h7 X7 e7 W7 => ?_
  have f7_E_a0 := Exa.wr W7 E_a0
  have f7_F_bytes_a0 := Fld.other W7 F_bytes_a0 (Or.inr (Ne.symm <| sn1 hw))
  have f7_F_maxDepth_a0 := Fld.other W7 F_maxDepth_a0 (Or.inr (sn11 hw))
  have f7_F_depth_a0 := Fld.other W7 F_depth_a0 (Or.inr (sn12 hw))
  have f7_F_first_a0 := Fld.other W7 F_first_a0 (Or.inr (sn13 hw))
  have f7_F_token_a0 := Fld.other W7 F_token_a0 (Or.inr (sn14 hw))
  have f7_F_tokenStart_a0 := Fld.other W7 F_tokenStart_a0 (Or.inr (sn15 hw))
  have f7_F_textStart_a0 := Fld.other W7 F_textStart_a0 (Or.inr (sn16 hw))
  have f7_F_textEnd_a0 := Fld.other W7 F_textEnd_a0 (Or.inr (sn17 hw))
  have f7_F_escaped_a0 := Fld.other W7 F_escaped_a0 (Or.inr (sn18 hw))
  have f7_F_ascii_a0 := Fld.other W7 F_ascii_a0 (Or.inr (sn19 hw))
  have f7_F_integral_a0 := Fld.other W7 F_integral_a0 (Or.inr (sn20 hw))
  have f7_V_ba := Arv.other V_ba W7 ne_ba_a0
  have f7_F_position_a0 := Fld.same W7 F_position_a0
  have N7 := Fr.snoc X7 N6 g_a0
  have SZ7 : n0 ≤ h7.size := Nat.le_trans Z0 (Keep.of_wr W7).1
  have K7 := Keep.wr (Keep.refl h0 [a0]) W7 (Or.inl (List.mem_of_getElem? (i := 0) rfl))
  refine Gz.iloadN 38 X7 hx (dd d4_37) rfl rfl ?_
  refine Gz.aloadN 39 X7 hx (dd d4_38) rfl rfl rfl ?_
  refine Gz.getF 42 X7 hx hZ hown (dd d4_39) (host := "") (Or.inl (ww hw 22 rfl)) Via.refl e7 f7_F_bytes_a0 rfl fun T8 X8 e8 => ?_
  obtain ⟨c9, A9, -, S9, N9, -, -⟩ := id f7_V_ba
  refine Gz.alen 43 X8 hx hZ (dd d4_42) e8 A9 S9 N9 rfl ?_
  refine Gz.icmpNo 46 X8 hx (dd d4_43) (tlt (by decide : (3 : Int32) < (10 : Int32))).2.1 rfl ?_
  refine Gz.aloadN 47 X8 hx (dd d4_46) rfl rfl rfl ?_
  refine Gz.getF 50 X8 hx hZ hown (dd d4_47) (host := "") (Or.inl (ww hw 22 rfl)) Via.refl e8 f7_F_bytes_a0 rfl fun T10 X10 e10 => ?_
  refine Gz.iloadN 51 X10 hx (dd d4_50) rfl rfl ?_
  obtain ⟨c11, A11, q11, S11, N11, H11, G11⟩ := id f7_V_ba
  have hin11 : ¬ ((3 : Int32) < 0 ∨ c11.slots.size ≤ ((3 : Int32)).toNatClampNeg) := inb_of S11 ⟨by decide, by decide⟩
  refine Gz.ldB 52 X10 hx hZ (dd d4_51) e10 A11 hin11 (Has.at H11 hin11 (rfl : _ = ((.int (50 : Int32)) : Value))) rfl ?_
  refine Gz.sipush 55 (255 : Int32) X10 hx (dd d4_52) rfl rfl ?_
  refine Gz.iandV 56 (50 : Int32) X10 hx (dd d4_55) rfl rfl ?_
  refine Gz.goto 60 X10 hx (dd d4_56) (by decide) (by decide) ?_
  refine Gz.fin X10 (v := some (.int (50 : Int32))) (fun h => by rw [hret] at h; cases h) hlk (by decide) (by decide) (fun fs hr => retI X10 hx hret (dd d4_60) hr) ?_
  rw [e10]
  exact ⟨rfl, N7, K7, f7_E_a0, f7_F_bytes_a0, f7_F_maxDepth_a0, f7_F_position_a0, f7_F_depth_a0, f7_F_first_a0, f7_F_token_a0, f7_F_tokenStart_a0, f7_F_textStart_a0, f7_F_textEnd_a0, f7_F_escaped_a0, f7_F_ascii_a0, f7_F_integral_a0⟩
theorem ef_rmDe_3 (m : MethodId) (a0 : Addr) : entryFrame m #[(.ref a0), (.int (3 : Int32))] 3 = mkF m 0 #[.val (.ref a0), .val (.int (3 : Int32)), .unset] [] := by first | (simp [entryFrame, mkF, argsToLocals, Value.category]; done) | rfl
def fDe_3 (a0 : Addr) (ba : Addr) : Int32 := (4 : Int32)
def Q_rmDe_3 (Z : State) (a0 : Addr) (ba : Addr) (k_ba : ClassId) (h0 : Heap) (n0 : Nat) (v : Option Value) (h : Heap) (L : List Loc) : Prop := v = some (.int (fDe_3 a0 ba)) ∧ Fr n0 L ∧ h = h0
set_option maxRecDepth 65536 in
set_option maxHeartbeats 40000000 in
theorem rmDe_3 (l : Launch) (Z : State) (av0 : Array Value) (hw : ∀ d ∈ tables_1, d.before av0 Z = true) (ws : List Jvm.Cond) (a0 : Addr) (ba : Addr) (k_ba : ClassId) (h0 : Heap) (n0 : Nat) (Z0 : n0 ≤ h0.size) (F_bytes_a0 : Fld Z h0 a0 cs0 "bytes" "[B" (.ref ba)) (V_ba : Arv Z h0 ba k_ba .byte (10 : Int32) [(.int (91 : Int32)), (.int (32 : Int32)), (.int (52 : Int32)), (.int (50 : Int32)), (.int (44 : Int32)), (.int (91 : Int32)), (.int (116 : Int32)), (.int (114 : Int32)), (.int (117 : Int32)), (.int (101 : Int32))] (.int (0 : Int32))) :
    MetFree l (⟨cs0, "digitsEnd", "(I)I"⟩ : MethodName) (head1 (Jvm.Cond.code (⟨cs0, "digitsEnd", "(I)I"⟩ : MethodName) prog_11_method_27_code 3 (some .int) :: ws) ({ frames := 1, cells := 0, slots := 0, locals := 12 } : Room)) (fun a U => a = #[(.ref a0), (.int (3 : Int32))] ∧ Z.Warmed39 U.vm ∧ U.heap = h0) (fun _ _ _ _ _ => True) (fun _ U o U' => ∃ v L, o = .returned v ∧ Q_rmDe_3 Z a0 ba k_ba h0 n0 v U'.heap L ∧ FrameEnd U o U' L ({ frames := 1, cells := 0, slots := 0, locals := 12 } : Room).cells ({ frames := 1, cells := 0, slots := 0, locals := 12 } : Room).slots) := by
  refine MetFree.of_bodySF (plainFor_of_name pn_0) hisR ?_
  intro p e s m args below meth c s₁ Bd hml0 hP hK
  obtain ⟨rfl, hZ, hh⟩ := hP
  have hx := Bd.exec
  have hby := Bd.bytes
  have hml : c.maxLocals = 3 := hml0
  have dd : ∀ {pc : Nat} {r : Except DecodeError (Instr × Nat)}, decode prog_11_method_27_code pc = r → decode c.code pc = r := fun q => hb hby q
  have hown : s.vm.findClass cs0 = some m.cls := findClass_of_methodNamed Bd.named
  have hnm := (name_of_methodNamed Bd.named Bd.method).1
  have X0 : Stand p l e ({ frames := 1, cells := 0, slots := 0, locals := 12 } : Room) s m #[(.ref a0), (.int (3 : Int32))] below meth c s₁ [] 0 0 := Stand.of_body Bd
  have e0 : s₁.heap = h0 := by rw [← hh, Bd.state]; rfl
  have N0 := Fr.nil n0
  have hret := Bd.returns
  have hlk := Bd.notSynchronized
  show Gz p e below s ({ frames := 1, cells := 0, slots := 0, locals := 12 } : Room).cells ({ frames := 1, cells := 0, slots := 0, locals := 12 } : Room).slots (Q_rmDe_3 Z a0 ba k_ba h0 n0) (s₁.setTop (entryFrame m #[(.ref a0), (.int (3 : Int32))] 3))
  refine Gz.enter (ef_rmDe_3 m a0) ?_
  refine Gz.iloadN 1 X0 hx (dd d10_0) rfl rfl ?_
  refine Gz.istoreN 2 #[.val (.ref a0), .val (.int (3 : Int32)), .val (.int (3 : Int32))] X0 hx (dd d10_1) rfl rfl ?_
  refine Gz.iloadN 3 X0 hx (dd d10_2) rfl rfl ?_
  refine Gz.aloadN 4 X0 hx (dd d10_3) rfl rfl rfl ?_
  refine Gz.getF 7 X0 hx hZ hown (dd d10_4) (host := "") (Or.inl (ww hw 22 rfl)) Via.refl e0 F_bytes_a0 rfl fun T1 X1 e1 => ?_
  obtain ⟨c2, A2, -, S2, N2, -, -⟩ := id V_ba
  refine Gz.alen 8 X1 hx hZ (dd d10_7) e1 A2 S2 N2 rfl ?_
  refine Gz.icmpNo 11 X1 hx (dd d10_8) (tlt (by decide : (3 : Int32) < (10 : Int32))).2.1 rfl ?_
  refine Gz.aloadN 12 X1 hx (dd d10_11) rfl rfl rfl ?_
  refine Gz.getF 15 X1 hx hZ hown (dd d10_12) (host := "") (Or.inl (ww hw 22 rfl)) Via.refl e1 F_bytes_a0 rfl fun T3 X3 e3 => ?_
  refine Gz.iloadN 16 X3 hx (dd d10_15) rfl rfl ?_
  obtain ⟨c4, A4, q4, S4, N4, H4, G4⟩ := id V_ba
  have hin4 : ¬ ((3 : Int32) < 0 ∨ c4.slots.size ≤ ((3 : Int32)).toNatClampNeg) := inb_of S4 ⟨by decide, by decide⟩
  refine Gz.ldB 17 X3 hx hZ (dd d10_16) e3 A4 hin4 (Has.at H4 hin4 (rfl : _ = ((.int (50 : Int32)) : Value))) rfl ?_
  obtain ⟨_, _, ⟨T5, L5, k5, n5⟩, -, X5, ⟨Lc5, hQ5, l5, y5, z5⟩, st5⟩ := Jvm.LawKit.callS X3 hx (y := ym11) hown (mvT hZ (ww hw 59 rfl)) (mvT hZ (ww hw 60 rfl)) (mvT hZ (ww hw 15 rfl)) (mvT hZ (ww hw 61 rfl)) (by decide) (backOf (W := 0) (rm8 l Z av0 hw [] (50 : Int32)  h0 n0 Z0 ) hZ (ww hw 61 rfl) (ww hw 15 rfl) (by decide) (by decide)) (g := (mkF m 17 #[.val (.ref a0), .val (.int (3 : Int32)), .val (.int (3 : Int32))] [(.int (50 : Int32))])) rfl (by rw [hml]; rfl) (argsL := [(.int (50 : Int32))]) (rest := []) (lenOf pd_9 rfl) rfl (Nat.le_refl _) (dd d10_17) (fun _ _ => ⟨rfl, e3, (by decide : 0 + 0 ≤ _), (by decide : 0 + 0 ≤ _)⟩)
  dsimp only [Pt.U, Pt.locs, Pt.cells, Pt.slots, Q_rm8] at X5 l5 y5 z5 st5 hQ5
  subst l5 y5 z5
  rw [show (fDg (50 : Int32)) = (1 : Int32) from (by unfold fDg; rw [if_neg (by decide : ¬ ((50 : Int32) < (48 : Int32))), if_neg (by decide : ¬ ((57 : Int32) < (50 : Int32)))]; try decide)] at hQ5
  obtain ⟨rfl, N5q, e5⟩ := hQ5
  have N5 := Fr.app N0 N5q
  refine Gz.st st5 ?_
  refine Gz.ifNo 23 X5 hx (dd d10_20) ((if0 _ _).trans (feq (by decide : ¬ ((1 : Int32) = (0 : Int32)))).1) rfl ?_
  refine Gz.iinc 26 #[.val (.ref a0), .val (.int (3 : Int32)), .val (.int (4 : Int32))] X5 hx (dd d10_23) rfl rfl rfl ?_
  refine Gz.goto 2 X5 hx (dd d10_26) (by decide) (by decide) ?_
  refine Gz.iloadN 3 X5 hx (dd d10_2) rfl rfl ?_
  refine Gz.aloadN 4 X5 hx (dd d10_3) rfl rfl rfl ?_
  refine Gz.getF 7 X5 hx hZ hown (dd d10_4) (host := "") (Or.inl (ww hw 22 rfl)) Via.refl e5 F_bytes_a0 rfl fun T6 X6 e6 => ?_
  obtain ⟨c7, A7, -, S7, N7, -, -⟩ := id V_ba
  refine Gz.alen 8 X6 hx hZ (dd d10_7) e6 A7 S7 N7 rfl ?_
  refine Gz.icmpNo 11 X6 hx (dd d10_8) (tlt (by decide : (4 : Int32) < (10 : Int32))).2.1 rfl ?_
  refine Gz.aloadN 12 X6 hx (dd d10_11) rfl rfl rfl ?_
  refine Gz.getF 15 X6 hx hZ hown (dd d10_12) (host := "") (Or.inl (ww hw 22 rfl)) Via.refl e6 F_bytes_a0 rfl fun T8 X8 e8 => ?_
  refine Gz.iloadN 16 X8 hx (dd d10_15) rfl rfl ?_
  obtain ⟨c9, A9, q9, S9, N9, H9, G9⟩ := id V_ba
  have hin9 : ¬ ((4 : Int32) < 0 ∨ c9.slots.size ≤ ((4 : Int32)).toNatClampNeg) := inb_of S9 ⟨by decide, by decide⟩
  refine Gz.ldB 17 X8 hx hZ (dd d10_16) e8 A9 hin9 (Has.at H9 hin9 (rfl : _ = ((.int (44 : Int32)) : Value))) rfl ?_
  obtain ⟨_, _, ⟨T10, L10, k10, n10⟩, -, X10, ⟨Lc10, hQ10, l10, y10, z10⟩, st10⟩ := Jvm.LawKit.callS X8 hx (y := ym11) hown (mvT hZ (ww hw 59 rfl)) (mvT hZ (ww hw 60 rfl)) (mvT hZ (ww hw 15 rfl)) (mvT hZ (ww hw 61 rfl)) (by decide) (backOf (W := 0) (rm8 l Z av0 hw [] (44 : Int32)  h0 n0 Z0 ) hZ (ww hw 61 rfl) (ww hw 15 rfl) (by decide) (by decide)) (g := (mkF m 17 #[.val (.ref a0), .val (.int (3 : Int32)), .val (.int (4 : Int32))] [(.int (44 : Int32))])) rfl (by rw [hml]; rfl) (argsL := [(.int (44 : Int32))]) (rest := []) (lenOf pd_9 rfl) rfl (Nat.le_refl _) (dd d10_17) (fun _ _ => ⟨rfl, e8, (by decide : 0 + 0 ≤ _), (by decide : 0 + 0 ≤ _)⟩)
  dsimp only [Pt.U, Pt.locs, Pt.cells, Pt.slots, Q_rm8] at X10 l10 y10 z10 st10 hQ10
  subst l10 y10 z10
  rw [show (fDg (44 : Int32)) = (0 : Int32) from (by unfold fDg; rw [if_pos (by decide : (44 : Int32) < (48 : Int32))]; try decide)] at hQ10
  obtain ⟨rfl, N10q, e10⟩ := hQ10
  have N10 := Fr.app N5 N10q
  refine Gz.st st10 ?_
  refine Gz.ifYes 29 X10 hx (dd d10_20) ((if0 _ _).trans (teq (by decide : (0 : Int32) = (0 : Int32))).1) (by decide) (by decide) ?_
  refine Gz.iloadN 30 X10 hx (dd d10_29) rfl rfl ?_
  refine Gz.fin X10 (v := some (.int (4 : Int32))) (fun h => by rw [hret] at h; cases h) hlk (by decide) (by decide) (fun fs hr => retI X10 hx hret (dd d10_30) hr) ?_
  rw [e10]
  exact ⟨rfl, N10, rfl⟩
theorem ef_rmRn_3_n (m : MethodId) (a0 : Addr) : entryFrame m #[(.ref a0)] 5 = mkF m 0 #[.val (.ref a0), .unset, .unset, .unset, .unset] [] := by first | (simp [entryFrame, mkF, argsToLocals, Value.category]; done) | rfl
def Q_rmRn_3_n (Z : State) (a0 : Addr) (ba : Addr) (md : Int32) (dp : Int32) (fi : Int32) (ts : Int32) (xs : Int32) (xe : Int32) (es : Int32) (as_ : Int32) (ig : Int32) (k_ba : ClassId) (h0 : Heap) (n0 : Nat) (v : Option Value) (h : Heap) (L : List Loc) : Prop := v = none ∧ Fr n0 L ∧ Keep h0 h [a0] ∧ Exa Z h a0 cs0 ∧ Fld Z h a0 cs0 "bytes" "[B" (.ref ba) ∧ Fld Z h a0 cs0 "maxDepth" "I" (.int md) ∧ Fld Z h a0 cs0 "position" "I" (.int (4 : Int32)) ∧ Fld Z h a0 cs0 "depth" "I" (.int dp) ∧ Fld Z h a0 cs0 "first" "Z" (.int (0 : Int32)) ∧ Fld Z h a0 cs0 "token" "Lcom/example/bad_status/badstatus/model/JsonReader$Token;" .null ∧ Fld Z h a0 cs0 "tokenStart" "I" (.int ts) ∧ Fld Z h a0 cs0 "textStart" "I" (.int (3 : Int32)) ∧ Fld Z h a0 cs0 "textEnd" "I" (.int (4 : Int32)) ∧ Fld Z h a0 cs0 "escaped" "Z" (.int (0 : Int32)) ∧ Fld Z h a0 cs0 "ascii" "Z" (.int (1 : Int32)) ∧ Fld Z h a0 cs0 "integral" "Z" (.int (1 : Int32))
set_option maxRecDepth 65536 in
set_option maxHeartbeats 40000000 in
theorem rmRn_3_n (l : Launch) (Z : State) (av0 : Array Value) (hw : ∀ d ∈ tables_1, d.before av0 Z = true) (ws : List Jvm.Cond) (a0 : Addr) (ba : Addr) (md : Int32) (dp : Int32) (fi : Int32) (ts : Int32) (xs : Int32) (xe : Int32) (es : Int32) (as_ : Int32) (ig : Int32) (k_ba : ClassId) (h0 : Heap) (n0 : Nat) (Z0 : n0 ≤ h0.size) (E_a0 : Exa Z h0 a0 cs0) (F_bytes_a0 : Fld Z h0 a0 cs0 "bytes" "[B" (.ref ba)) (F_maxDepth_a0 : Fld Z h0 a0 cs0 "maxDepth" "I" (.int md)) (F_position_a0 : Fld Z h0 a0 cs0 "position" "I" (.int (3 : Int32))) (F_depth_a0 : Fld Z h0 a0 cs0 "depth" "I" (.int dp)) (F_first_a0 : Fld Z h0 a0 cs0 "first" "Z" (.int fi)) (F_token_a0 : Fld Z h0 a0 cs0 "token" "Lcom/example/bad_status/badstatus/model/JsonReader$Token;" .null) (F_tokenStart_a0 : Fld Z h0 a0 cs0 "tokenStart" "I" (.int ts)) (F_textStart_a0 : Fld Z h0 a0 cs0 "textStart" "I" (.int xs)) (F_textEnd_a0 : Fld Z h0 a0 cs0 "textEnd" "I" (.int xe)) (F_escaped_a0 : Fld Z h0 a0 cs0 "escaped" "Z" (.int es)) (F_ascii_a0 : Fld Z h0 a0 cs0 "ascii" "Z" (.int as_)) (F_integral_a0 : Fld Z h0 a0 cs0 "integral" "Z" (.int ig)) (g_a0 : n0 ≤ a0) (V_ba : Arv Z h0 ba k_ba .byte (10 : Int32) [(.int (91 : Int32)), (.int (32 : Int32)), (.int (52 : Int32)), (.int (50 : Int32)), (.int (44 : Int32)), (.int (91 : Int32)), (.int (116 : Int32)), (.int (114 : Int32)), (.int (117 : Int32)), (.int (101 : Int32))] (.int (0 : Int32))) (ne_ba_a0 : ba ≠ a0) :
    MetFree l (⟨cs0, "readNumber", "()V"⟩ : MethodName) (head1 (Jvm.Cond.code (⟨cs0, "readNumber", "()V"⟩ : MethodName) prog_11_method_26_code 5 none :: ws) ({ frames := 2, cells := 0, slots := 0, locals := 26 } : Room)) (fun a U => a = #[(.ref a0)] ∧ Z.Warmed39 U.vm ∧ U.heap = h0) (fun _ _ _ _ _ => True) (fun _ U o U' => ∃ v L, o = .returned v ∧ Q_rmRn_3_n Z a0 ba md dp fi ts xs xe es as_ ig k_ba h0 n0 v U'.heap L ∧ FrameEnd U o U' L ({ frames := 2, cells := 0, slots := 0, locals := 26 } : Room).cells ({ frames := 2, cells := 0, slots := 0, locals := 26 } : Room).slots) := by
  refine MetFree.of_bodySF (plainFor_of_name pn_0) hisR ?_
  intro p e s m args below meth c s₁ Bd hml0 hP hK
  obtain ⟨rfl, hZ, hh⟩ := hP
  have hx := Bd.exec
  have hby := Bd.bytes
  have hml : c.maxLocals = 5 := hml0
  have dd : ∀ {pc : Nat} {r : Except DecodeError (Instr × Nat)}, decode prog_11_method_26_code pc = r → decode c.code pc = r := fun q => hb hby q
  have hown : s.vm.findClass cs0 = some m.cls := findClass_of_methodNamed Bd.named
  have hnm := (name_of_methodNamed Bd.named Bd.method).1
  have X0 : Stand p l e ({ frames := 2, cells := 0, slots := 0, locals := 26 } : Room) s m #[(.ref a0)] below meth c s₁ [] 0 0 := Stand.of_body Bd
  have e0 : s₁.heap = h0 := by rw [← hh, Bd.state]; rfl
  have N0 := Fr.nil n0
  have hret := Bd.returns
  have hlk := Bd.notSynchronized
  show Gz p e below s ({ frames := 2, cells := 0, slots := 0, locals := 26 } : Room).cells ({ frames := 2, cells := 0, slots := 0, locals := 26 } : Room).slots (Q_rmRn_3_n Z a0 ba md dp fi ts xs xe es as_ ig k_ba h0 n0) (s₁.setTop (entryFrame m #[(.ref a0)] 5))
  refine Gz.enter (ef_rmRn_3_n m a0) ?_
  refine Gz.aloadN 1 X0 hx (dd d9_0) rfl rfl rfl ?_
  refine Gz.getF 4 X0 hx hZ hown (dd d9_1) (host := "") (Or.inl (ww hw 24 rfl)) Via.refl e0 F_position_a0 rfl fun T1 X1 e1 => ?_
  refine Gz.istoreN 5 #[.val (.ref a0), .val (.int (3 : Int32)), .unset, .unset, .unset] X1 hx (dd d9_4) rfl rfl ?_
  refine Gz.aloadN 6 X1 hx (dd d9_5) rfl rfl rfl ?_
  refine Gz.getF 9 X1 hx hZ hown (dd d9_6) (host := "") (Or.inl (ww hw 22 rfl)) Via.refl e1 F_bytes_a0 rfl fun T2 X2 e2 => ?_
  refine Gz.iloadN 10 X2 hx (dd d9_9) rfl rfl ?_
  obtain ⟨c3, A3, q3, S3, N3, H3, G3⟩ := id V_ba
  have hin3 : ¬ ((3 : Int32) < 0 ∨ c3.slots.size ≤ ((3 : Int32)).toNatClampNeg) := inb_of S3 ⟨by decide, by decide⟩
  refine Gz.ldB 11 X2 hx hZ (dd d9_10) e2 A3 hin3 (Has.at H3 hin3 (rfl : _ = ((.int (50 : Int32)) : Value))) rfl ?_
  refine Gz.bipush 13 (45 : Int32) X2 hx (dd d9_11) rfl rfl ?_
  refine Gz.icmpYes 22 X2 hx (dd d9_13) (feq (by decide : ¬ ((50 : Int32) = (45 : Int32)))).2 (by decide) (by decide) ?_
  refine Gz.iloadN 23 X2 hx (dd d9_22) rfl rfl ?_
  refine Gz.istoreN 24 #[.val (.ref a0), .val (.int (3 : Int32)), .val (.int (3 : Int32)), .unset, .unset] X2 hx (dd d9_23) rfl rfl ?_
  refine Gz.aloadN 25 X2 hx (dd d9_24) rfl rfl rfl ?_
  refine Gz.iloadN 26 X2 hx (dd d9_25) rfl rfl ?_
  obtain ⟨cq4, q4, q4'⟩ := E_a0.cell
  obtain ⟨_, _, ⟨T4, L4, k4, n4⟩, -, X4, ⟨Lc4, hQ4, l4, y4, z4⟩, st4⟩ := X2.privateBack hx (y := ym12) hown (mvT hZ (ww hw 66 rfl)) (mvT hZ (ww hw 67 rfl)) (own_selp (y := ym12) (y' := ym8) rfl (mvT hZ (ww hw 31 rfl)) (mvT hZ (ww hw 30 rfl)) (mvT hZ (ww hw 67 rfl)) (Cond.privateMethod_at (mvP hZ (ww hw 68 rfl) (args := #[]))) (by decide)) (Cond.privateMethod_at (mvP hZ (ww hw 68 rfl) (args := #[]))) (mvT hZ (ww hw 69 rfl)) (by decide) (backOf (W := 0) (rmDe_3 l Z av0 hw [] a0 ba k_ba h0 n0 Z0 F_bytes_a0 V_ba) hZ (ww hw 69 rfl) (ww hw 15 rfl) (by decide) (by decide)) (g := (mkF m 26 #[.val (.ref a0), .val (.int (3 : Int32)), .val (.int (3 : Int32)), .unset, .unset] [(.int (3 : Int32)), (.ref a0)])) rfl (by rw [hml]; rfl) (Steps.refl _) (a := a0) (by rw [e2]; exact q4) q4' (argsL := [(.int (3 : Int32))]) (rest := []) (lenOf pd_10 rfl) rfl (Nat.le_refl _) (dd d9_26) (fun _ _ => ⟨rfl, e2, (by decide : 0 + 0 ≤ _), (by decide : 0 + 0 ≤ _)⟩)
  dsimp only [Pt.U, Pt.locs, Pt.cells, Pt.slots, Q_rmDe_3] at X4 l4 y4 z4 st4 hQ4
  subst l4 y4 z4
  rw [show (fDe_3 a0 ba) = (4 : Int32) from (by unfold fDe_3; rfl)] at hQ4
  obtain ⟨rfl, N4q, e4⟩ := hQ4
  have N4 := Fr.app N0 N4q
  refine Gz.tr st4 ?_
  refine Gz.istoreN 30 #[.val (.ref a0), .val (.int (3 : Int32)), .val (.int (3 : Int32)), .val (.int (4 : Int32)), .unset] X4 hx (dd d9_29) rfl rfl ?_
  refine Gz.iloadN 31 X4 hx (dd d9_30) rfl rfl ?_
  refine Gz.iloadN 32 X4 hx (dd d9_31) rfl rfl ?_
  refine Gz.icmpNo 35 X4 hx (dd d9_32) (feq (by decide : ¬ ((4 : Int32) = (3 : Int32)))).1 rfl ?_
  refine Gz.aloadN 36 X4 hx (dd d9_35) rfl rfl rfl ?_
  refine Gz.getF 39 X4 hx hZ hown (dd d9_36) (host := "") (Or.inl (ww hw 22 rfl)) Via.refl e4 F_bytes_a0 rfl fun T5 X5 e5 => ?_
  refine Gz.iloadN 40 X5 hx (dd d9_39) rfl rfl ?_
  obtain ⟨c6, A6, q6, S6, N6, H6, G6⟩ := id V_ba
  have hin6 : ¬ ((3 : Int32) < 0 ∨ c6.slots.size ≤ ((3 : Int32)).toNatClampNeg) := inb_of S6 ⟨by decide, by decide⟩
  refine Gz.ldB 41 X5 hx hZ (dd d9_40) e5 A6 hin6 (Has.at H6 hin6 (rfl : _ = ((.int (50 : Int32)) : Value))) rfl ?_
  refine Gz.bipush 43 (48 : Int32) X5 hx (dd d9_41) rfl rfl ?_
  refine Gz.icmpYes 57 X5 hx (dd d9_43) (feq (by decide : ¬ ((50 : Int32) = (48 : Int32)))).2 (by decide) (by decide) ?_
  refine Gz.iconst 58 (1 : Int32) X5 hx (dd d9_57) rfl rfl ?_
  refine Gz.istore 60 #[.val (.ref a0), .val (.int (3 : Int32)), .val (.int (3 : Int32)), .val (.int (4 : Int32)), .val (.int (1 : Int32))] X5 hx (dd d9_58) rfl rfl ?_
  refine Gz.iloadN 61 X5 hx (dd d9_60) rfl rfl ?_
  refine Gz.aloadN 62 X5 hx (dd d9_61) rfl rfl rfl ?_
  refine Gz.getF 65 X5 hx hZ hown (dd d9_62) (host := "") (Or.inl (ww hw 22 rfl)) Via.refl e5 F_bytes_a0 rfl fun T7 X7 e7 => ?_
  obtain ⟨c8, A8, -, S8, N8, -, -⟩ := id V_ba
  refine Gz.alen 66 X7 hx hZ (dd d9_65) e7 A8 S8 N8 rfl ?_
  refine Gz.icmpNo 69 X7 hx (dd d9_66) (tlt (by decide : (4 : Int32) < (10 : Int32))).2.1 rfl ?_
  refine Gz.aloadN 70 X7 hx (dd d9_69) rfl rfl rfl ?_
  refine Gz.getF 73 X7 hx hZ hown (dd d9_70) (host := "") (Or.inl (ww hw 22 rfl)) Via.refl e7 F_bytes_a0 rfl fun T9 X9 e9 => ?_
  refine Gz.iloadN 74 X9 hx (dd d9_73) rfl rfl ?_
  obtain ⟨c10, A10, q10, S10, N10, H10, G10⟩ := id V_ba
  have hin10 : ¬ ((4 : Int32) < 0 ∨ c10.slots.size ≤ ((4 : Int32)).toNatClampNeg) := inb_of S10 ⟨by decide, by decide⟩
  refine Gz.ldB 75 X9 hx hZ (dd d9_74) e9 A10 hin10 (Has.at H10 hin10 (rfl : _ = ((.int (44 : Int32)) : Value))) rfl ?_
  refine Gz.bipush 77 (46 : Int32) X9 hx (dd d9_75) rfl rfl ?_
  refine Gz.icmpYes 102 X9 hx (dd d9_77) (feq (by decide : ¬ ((44 : Int32) = (46 : Int32)))).2 (by decide) (by decide) ?_
  refine Gz.iloadN 103 X9 hx (dd d9_102) rfl rfl ?_
  refine Gz.aloadN 104 X9 hx (dd d9_103) rfl rfl rfl ?_
  refine Gz.getF 107 X9 hx hZ hown (dd d9_104) (host := "") (Or.inl (ww hw 22 rfl)) Via.refl e9 F_bytes_a0 rfl fun T11 X11 e11 => ?_
  obtain ⟨c12, A12, -, S12, N12, -, -⟩ := id V_ba
  refine Gz.alen 108 X11 hx hZ (dd d9_107) e11 A12 S12 N12 rfl ?_
  refine Gz.icmpNo 111 X11 hx (dd d9_108) (tlt (by decide : (4 : Int32) < (10 : Int32))).2.1 rfl ?_
  refine Gz.aloadN 112 X11 hx (dd d9_111) rfl rfl rfl ?_
  refine Gz.getF 115 X11 hx hZ hown (dd d9_112) (host := "") (Or.inl (ww hw 22 rfl)) Via.refl e11 F_bytes_a0 rfl fun T13 X13 e13 => ?_
  refine Gz.iloadN 116 X13 hx (dd d9_115) rfl rfl ?_
  obtain ⟨c14, A14, q14, S14, N14, H14, G14⟩ := id V_ba
  have hin14 : ¬ ((4 : Int32) < 0 ∨ c14.slots.size ≤ ((4 : Int32)).toNatClampNeg) := inb_of S14 ⟨by decide, by decide⟩
  refine Gz.ldB 117 X13 hx hZ (dd d9_116) e13 A14 hin14 (Has.at H14 hin14 (rfl : _ = ((.int (44 : Int32)) : Value))) rfl ?_
  refine Gz.bipush 119 (101 : Int32) X13 hx (dd d9_117) rfl rfl ?_
  refine Gz.icmpNo 122 X13 hx (dd d9_119) (feq (by decide : ¬ ((44 : Int32) = (101 : Int32)))).1 rfl ?_
  refine Gz.aloadN 123 X13 hx (dd d9_122) rfl rfl rfl ?_
  refine Gz.getF 126 X13 hx hZ hown (dd d9_123) (host := "") (Or.inl (ww hw 22 rfl)) Via.refl e13 F_bytes_a0 rfl fun T15 X15 e15 => ?_
  refine Gz.iloadN 127 X15 hx (dd d9_126) rfl rfl ?_
  obtain ⟨c16, A16, q16, S16, N16, H16, G16⟩ := id V_ba
  have hin16 : ¬ ((4 : Int32) < 0 ∨ c16.slots.size ≤ ((4 : Int32)).toNatClampNeg) := inb_of S16 ⟨by decide, by decide⟩
  refine Gz.ldB 128 X15 hx hZ (dd d9_127) e15 A16 hin16 (Has.at H16 hin16 (rfl : _ = ((.int (44 : Int32)) : Value))) rfl ?_
  refine Gz.bipush 130 (69 : Int32) X15 hx (dd d9_128) rfl rfl ?_
  refine Gz.icmpYes 189 X15 hx (dd d9_130) (feq (by decide : ¬ ((44 : Int32) = (69 : Int32)))).2 (by decide) (by decide) ?_
  refine Gz.aloadN 190 X15 hx (dd d9_189) rfl rfl rfl ?_
  refine Gz.iloadN 191 X15 hx (dd d9_190) rfl rfl ?_
  refine Gz.putF 194 X15 hx hZ hown .int (dd d9_191) (host := "") (Or.inl (ww hw 70 rfl)) Via.refl e15 F_textStart_a0 E_a0 (Or.inl (ww hw 71 rfl)) (ww hw 14 rfl) (by decide) rfl rfl rfl fun T17 h17 X17 e17 W17 => ?_
  have f17_E_a0 := Exa.wr W17 E_a0
  have f17_F_bytes_a0 := Fld.other W17 F_bytes_a0 (Or.inr (Ne.symm <| sn6 hw))
  have f17_F_maxDepth_a0 := Fld.other W17 F_maxDepth_a0 (Or.inr (Ne.symm <| sn25 hw))
  have f17_F_position_a0 := Fld.other W17 F_position_a0 (Or.inr (Ne.symm <| sn16 hw))
  have f17_F_depth_a0 := Fld.other W17 F_depth_a0 (Or.inr (Ne.symm <| sn41 hw))
  have f17_F_first_a0 := Fld.other W17 F_first_a0 (Or.inr (Ne.symm <| sn47 hw))
  have f17_F_token_a0 := Fld.other W17 F_token_a0 (Or.inr (Ne.symm <| sn52 hw))
  have f17_F_tokenStart_a0 := Fld.other W17 F_tokenStart_a0 (Or.inr (Ne.symm <| sn34 hw))
  have f17_F_textEnd_a0 := Fld.other W17 F_textEnd_a0 (Or.inr (sn57 hw))
  have f17_F_escaped_a0 := Fld.other W17 F_escaped_a0 (Or.inr (sn58 hw))
  have f17_F_ascii_a0 := Fld.other W17 F_ascii_a0 (Or.inr (sn59 hw))
  have f17_F_integral_a0 := Fld.other W17 F_integral_a0 (Or.inr (sn60 hw))
  have f17_V_ba := Arv.other V_ba W17 ne_ba_a0
  have f17_F_textStart_a0 := Fld.same W17 F_textStart_a0
  have N17 := Fr.snoc X17 N4 g_a0
  have SZ17 : n0 ≤ h17.size := Nat.le_trans Z0 (Keep.of_wr W17).1
  have K17 := Keep.wr (Keep.refl h0 [a0]) W17 (Or.inl (List.mem_of_getElem? (i := 0) rfl))
  refine Gz.aloadN 195 X17 hx (dd d9_194) rfl rfl rfl ?_
  refine Gz.iloadN 196 X17 hx (dd d9_195) rfl rfl ?_
  refine Gz.putF 199 X17 hx hZ hown .int (dd d9_196) (host := "") (Or.inl (ww hw 72 rfl)) Via.refl e17 f17_F_textEnd_a0 f17_E_a0 (Or.inl (ww hw 73 rfl)) (ww hw 14 rfl) (by decide) rfl rfl rfl fun T18 h18 X18 e18 W18 => ?_
  have f18_E_a0 := Exa.wr W18 f17_E_a0
  have f18_F_bytes_a0 := Fld.other W18 f17_F_bytes_a0 (Or.inr (Ne.symm <| sn7 hw))
  have f18_F_maxDepth_a0 := Fld.other W18 f17_F_maxDepth_a0 (Or.inr (Ne.symm <| sn26 hw))
  have f18_F_position_a0 := Fld.other W18 f17_F_position_a0 (Or.inr (Ne.symm <| sn17 hw))
  have f18_F_depth_a0 := Fld.other W18 f17_F_depth_a0 (Or.inr (Ne.symm <| sn42 hw))
  have f18_F_first_a0 := Fld.other W18 f17_F_first_a0 (Or.inr (Ne.symm <| sn48 hw))
  have f18_F_token_a0 := Fld.other W18 f17_F_token_a0 (Or.inr (Ne.symm <| sn53 hw))
  have f18_F_tokenStart_a0 := Fld.other W18 f17_F_tokenStart_a0 (Or.inr (Ne.symm <| sn35 hw))
  have f18_F_textStart_a0 := Fld.other W18 f17_F_textStart_a0 (Or.inr (Ne.symm <| sn57 hw))
  have f18_F_escaped_a0 := Fld.other W18 f17_F_escaped_a0 (Or.inr (sn61 hw))
  have f18_F_ascii_a0 := Fld.other W18 f17_F_ascii_a0 (Or.inr (sn62 hw))
  have f18_F_integral_a0 := Fld.other W18 f17_F_integral_a0 (Or.inr (sn63 hw))
  have f18_V_ba := Arv.other f17_V_ba W18 ne_ba_a0
  have f18_F_textEnd_a0 := Fld.same W18 f17_F_textEnd_a0
  have N18 := Fr.snoc X18 N17 g_a0
  have SZ18 : n0 ≤ h18.size := Nat.le_trans SZ17 (Keep.of_wr W18).1
  have K18 := Keep.wr K17 W18 (Or.inl (List.mem_of_getElem? (i := 0) rfl))
  refine Gz.aloadN 200 X18 hx (dd d9_199) rfl rfl rfl ?_
  refine Gz.iconst 201 (0 : Int32) X18 hx (dd d9_200) rfl rfl ?_
  refine Gz.putF 204 X18 hx hZ hown .boolean (dd d9_201) (host := "") (Or.inl (ww hw 74 rfl)) Via.refl e18 f18_F_escaped_a0 f18_E_a0 (Or.inl (ww hw 75 rfl)) (ww hw 14 rfl) (by decide) rfl rfl rfl fun T19 h19 X19 e19 W19 => ?_
  have f19_E_a0 := Exa.wr W19 f18_E_a0
  have f19_F_bytes_a0 := Fld.other W19 f18_F_bytes_a0 (Or.inr (Ne.symm <| sn8 hw))
  have f19_F_maxDepth_a0 := Fld.other W19 f18_F_maxDepth_a0 (Or.inr (Ne.symm <| sn27 hw))
  have f19_F_position_a0 := Fld.other W19 f18_F_position_a0 (Or.inr (Ne.symm <| sn18 hw))
  have f19_F_depth_a0 := Fld.other W19 f18_F_depth_a0 (Or.inr (Ne.symm <| sn43 hw))
  have f19_F_first_a0 := Fld.other W19 f18_F_first_a0 (Or.inr (Ne.symm <| sn49 hw))
  have f19_F_token_a0 := Fld.other W19 f18_F_token_a0 (Or.inr (Ne.symm <| sn54 hw))
  have f19_F_tokenStart_a0 := Fld.other W19 f18_F_tokenStart_a0 (Or.inr (Ne.symm <| sn36 hw))
  have f19_F_textStart_a0 := Fld.other W19 f18_F_textStart_a0 (Or.inr (Ne.symm <| sn58 hw))
  have f19_F_textEnd_a0 := Fld.other W19 f18_F_textEnd_a0 (Or.inr (Ne.symm <| sn61 hw))
  have f19_F_ascii_a0 := Fld.other W19 f18_F_ascii_a0 (Or.inr (sn64 hw))
  have f19_F_integral_a0 := Fld.other W19 f18_F_integral_a0 (Or.inr (sn65 hw))
  have f19_V_ba := Arv.other f18_V_ba W19 ne_ba_a0
  have f19_F_escaped_a0 := Fld.same W19 f18_F_escaped_a0
  have N19 := Fr.snoc X19 N18 g_a0
  have SZ19 : n0 ≤ h19.size := Nat.le_trans SZ18 (Keep.of_wr W19).1
  have K19 := Keep.wr K18 W19 (Or.inl (List.mem_of_getElem? (i := 0) rfl))
  refine Gz.aloadN 205 X19 hx (dd d9_204) rfl rfl rfl ?_
  refine Gz.iconst 206 (1 : Int32) X19 hx (dd d9_205) rfl rfl ?_
  refine Gz.putF 209 X19 hx hZ hown .boolean (dd d9_206) (host := "") (Or.inl (ww hw 76 rfl)) Via.refl e19 f19_F_ascii_a0 f19_E_a0 (Or.inl (ww hw 77 rfl)) (ww hw 14 rfl) (by decide) rfl rfl rfl fun T20 h20 X20 e20 W20 => ?_
  have f20_E_a0 := Exa.wr W20 f19_E_a0
  have f20_F_bytes_a0 := Fld.other W20 f19_F_bytes_a0 (Or.inr (Ne.symm <| sn9 hw))
  have f20_F_maxDepth_a0 := Fld.other W20 f19_F_maxDepth_a0 (Or.inr (Ne.symm <| sn28 hw))
  have f20_F_position_a0 := Fld.other W20 f19_F_position_a0 (Or.inr (Ne.symm <| sn19 hw))
  have f20_F_depth_a0 := Fld.other W20 f19_F_depth_a0 (Or.inr (Ne.symm <| sn44 hw))
  have f20_F_first_a0 := Fld.other W20 f19_F_first_a0 (Or.inr (Ne.symm <| sn50 hw))
  have f20_F_token_a0 := Fld.other W20 f19_F_token_a0 (Or.inr (Ne.symm <| sn55 hw))
  have f20_F_tokenStart_a0 := Fld.other W20 f19_F_tokenStart_a0 (Or.inr (Ne.symm <| sn37 hw))
  have f20_F_textStart_a0 := Fld.other W20 f19_F_textStart_a0 (Or.inr (Ne.symm <| sn59 hw))
  have f20_F_textEnd_a0 := Fld.other W20 f19_F_textEnd_a0 (Or.inr (Ne.symm <| sn62 hw))
  have f20_F_escaped_a0 := Fld.other W20 f19_F_escaped_a0 (Or.inr (Ne.symm <| sn64 hw))
  have f20_F_integral_a0 := Fld.other W20 f19_F_integral_a0 (Or.inr (sn66 hw))
  have f20_V_ba := Arv.other f19_V_ba W20 ne_ba_a0
  have f20_F_ascii_a0 := Fld.same W20 f19_F_ascii_a0
  have N20 := Fr.snoc X20 N19 g_a0
  have SZ20 : n0 ≤ h20.size := Nat.le_trans SZ19 (Keep.of_wr W20).1
  have K20 := Keep.wr K19 W20 (Or.inl (List.mem_of_getElem? (i := 0) rfl))
  refine Gz.aloadN 210 X20 hx (dd d9_209) rfl rfl rfl ?_
  refine Gz.iload 212 X20 hx (dd d9_210) rfl rfl ?_
  refine Gz.putF 215 X20 hx hZ hown .boolean (dd d9_212) (host := "") (Or.inl (ww hw 78 rfl)) Via.refl e20 f20_F_integral_a0 f20_E_a0 (Or.inl (ww hw 79 rfl)) (ww hw 14 rfl) (by decide) rfl rfl rfl fun T21 h21 X21 e21 W21 => ?_
  have f21_E_a0 := Exa.wr W21 f20_E_a0
  have f21_F_bytes_a0 := Fld.other W21 f20_F_bytes_a0 (Or.inr (Ne.symm <| sn10 hw))
  have f21_F_maxDepth_a0 := Fld.other W21 f20_F_maxDepth_a0 (Or.inr (Ne.symm <| sn29 hw))
  have f21_F_position_a0 := Fld.other W21 f20_F_position_a0 (Or.inr (Ne.symm <| sn20 hw))
  have f21_F_depth_a0 := Fld.other W21 f20_F_depth_a0 (Or.inr (Ne.symm <| sn45 hw))
  have f21_F_first_a0 := Fld.other W21 f20_F_first_a0 (Or.inr (Ne.symm <| sn51 hw))
  have f21_F_token_a0 := Fld.other W21 f20_F_token_a0 (Or.inr (Ne.symm <| sn56 hw))
  have f21_F_tokenStart_a0 := Fld.other W21 f20_F_tokenStart_a0 (Or.inr (Ne.symm <| sn38 hw))
  have f21_F_textStart_a0 := Fld.other W21 f20_F_textStart_a0 (Or.inr (Ne.symm <| sn60 hw))
  have f21_F_textEnd_a0 := Fld.other W21 f20_F_textEnd_a0 (Or.inr (Ne.symm <| sn63 hw))
  have f21_F_escaped_a0 := Fld.other W21 f20_F_escaped_a0 (Or.inr (Ne.symm <| sn65 hw))
  have f21_F_ascii_a0 := Fld.other W21 f20_F_ascii_a0 (Or.inr (Ne.symm <| sn66 hw))
  have f21_V_ba := Arv.other f20_V_ba W21 ne_ba_a0
  have f21_F_integral_a0 := Fld.same W21 f20_F_integral_a0
  have N21 := Fr.snoc X21 N20 g_a0
  have SZ21 : n0 ≤ h21.size := Nat.le_trans SZ20 (Keep.of_wr W21).1
  have K21 := Keep.wr K20 W21 (Or.inl (List.mem_of_getElem? (i := 0) rfl))
  refine Gz.aloadN 216 X21 hx (dd d9_215) rfl rfl rfl ?_
  refine Gz.iloadN 217 X21 hx (dd d9_216) rfl rfl ?_
  refine Gz.putF 220 X21 hx hZ hown .int (dd d9_217) (host := "") (Or.inl (ww hw 24 rfl)) Via.refl e21 f21_F_position_a0 f21_E_a0 (Or.inl (ww hw 25 rfl)) (ww hw 14 rfl) (by decide) rfl rfl rfl fun T22 h22 X22 e22 W22 => ?_
  have f22_E_a0 := Exa.wr W22 f21_E_a0
  have f22_F_bytes_a0 := Fld.other W22 f21_F_bytes_a0 (Or.inr (Ne.symm <| sn1 hw))
  have f22_F_maxDepth_a0 := Fld.other W22 f21_F_maxDepth_a0 (Or.inr (sn11 hw))
  have f22_F_depth_a0 := Fld.other W22 f21_F_depth_a0 (Or.inr (sn12 hw))
  have f22_F_first_a0 := Fld.other W22 f21_F_first_a0 (Or.inr (sn13 hw))
  have f22_F_token_a0 := Fld.other W22 f21_F_token_a0 (Or.inr (sn14 hw))
  have f22_F_tokenStart_a0 := Fld.other W22 f21_F_tokenStart_a0 (Or.inr (sn15 hw))
  have f22_F_textStart_a0 := Fld.other W22 f21_F_textStart_a0 (Or.inr (sn16 hw))
  have f22_F_textEnd_a0 := Fld.other W22 f21_F_textEnd_a0 (Or.inr (sn17 hw))
  have f22_F_escaped_a0 := Fld.other W22 f21_F_escaped_a0 (Or.inr (sn18 hw))
  have f22_F_ascii_a0 := Fld.other W22 f21_F_ascii_a0 (Or.inr (sn19 hw))
  have f22_F_integral_a0 := Fld.other W22 f21_F_integral_a0 (Or.inr (sn20 hw))
  have f22_V_ba := Arv.other f21_V_ba W22 ne_ba_a0
  have f22_F_position_a0 := Fld.same W22 f21_F_position_a0
  have N22 := Fr.snoc X22 N21 g_a0
  have SZ22 : n0 ≤ h22.size := Nat.le_trans SZ21 (Keep.of_wr W22).1
  have K22 := Keep.wr K21 W22 (Or.inl (List.mem_of_getElem? (i := 0) rfl))
  refine Gz.aloadN 221 X22 hx (dd d9_220) rfl rfl rfl ?_
  refine Gz.iconst 222 (0 : Int32) X22 hx (dd d9_221) rfl rfl ?_
  refine Gz.putF 225 X22 hx hZ hown .boolean (dd d9_222) (host := "") (Or.inl (ww hw 49 rfl)) Via.refl e22 f22_F_first_a0 f22_E_a0 (Or.inl (ww hw 50 rfl)) (ww hw 14 rfl) (by decide) rfl rfl rfl fun T23 h23 X23 e23 W23 => ?_
  have f23_E_a0 := Exa.wr W23 f22_E_a0
  have f23_F_bytes_a0 := Fld.other W23 f22_F_bytes_a0 (Or.inr (Ne.symm <| sn3 hw))
  have f23_F_maxDepth_a0 := Fld.other W23 f22_F_maxDepth_a0 (Or.inr (Ne.symm <| sn22 hw))
  have f23_F_position_a0 := Fld.other W23 f22_F_position_a0 (Or.inr (Ne.symm <| sn13 hw))
  have f23_F_depth_a0 := Fld.other W23 f22_F_depth_a0 (Or.inr (Ne.symm <| sn39 hw))
  have f23_F_token_a0 := Fld.other W23 f22_F_token_a0 (Or.inr (sn46 hw))
  have f23_F_tokenStart_a0 := Fld.other W23 f22_F_tokenStart_a0 (Or.inr (Ne.symm <| sn32 hw))
  have f23_F_textStart_a0 := Fld.other W23 f22_F_textStart_a0 (Or.inr (sn47 hw))
  have f23_F_textEnd_a0 := Fld.other W23 f22_F_textEnd_a0 (Or.inr (sn48 hw))
  have f23_F_escaped_a0 := Fld.other W23 f22_F_escaped_a0 (Or.inr (sn49 hw))
  have f23_F_ascii_a0 := Fld.other W23 f22_F_ascii_a0 (Or.inr (sn50 hw))
  have f23_F_integral_a0 := Fld.other W23 f22_F_integral_a0 (Or.inr (sn51 hw))
  have f23_V_ba := Arv.other f22_V_ba W23 ne_ba_a0
  have f23_F_first_a0 := Fld.same W23 f22_F_first_a0
  have N23 := Fr.snoc X23 N22 g_a0
  have SZ23 : n0 ≤ h23.size := Nat.le_trans SZ22 (Keep.of_wr W23).1
  have K23 := Keep.wr K22 W23 (Or.inl (List.mem_of_getElem? (i := 0) rfl))
  refine Gz.fin X23 (v := none) (fun _ => rfl) hlk (by decide) (by decide) (fun fs hr => X23.returnOut hx hret (dd d9_225) hr) ?_
  rw [e23]
  exact ⟨rfl, N23, K23, f23_E_a0, f23_F_bytes_a0, f23_F_maxDepth_a0, f23_F_position_a0, f23_F_depth_a0, f23_F_first_a0, f23_F_token_a0, f23_F_tokenStart_a0, f23_F_textStart_a0, f23_F_textEnd_a0, f23_F_escaped_a0, f23_F_ascii_a0, f23_F_integral_a0⟩
theorem ef_rmNx_3_n (m : MethodId) (a0 : Addr) : entryFrame m #[(.ref a0)] 3 = mkF m 0 #[.val (.ref a0), .unset, .unset] [] := by first | (simp [entryFrame, mkF, argsToLocals, Value.category]; done) | rfl
def Q_rmNx_3_n (Z : State) (a0 : Addr) (ba : Addr) (md : Int32) (dp : Int32) (fi : Int32) (ts : Int32) (xs : Int32) (xe : Int32) (es : Int32) (as_ : Int32) (ig : Int32) (k_ba : ClassId) (s_NUMBER : Addr) (h0 : Heap) (n0 : Nat) (v : Option Value) (h : Heap) (L : List Loc) : Prop := v = some (.ref s_NUMBER) ∧ Fr n0 L ∧ Keep h0 h [a0] ∧ Exa Z h a0 cs0 ∧ Fld Z h a0 cs0 "bytes" "[B" (.ref ba) ∧ Fld Z h a0 cs0 "maxDepth" "I" (.int md) ∧ Fld Z h a0 cs0 "position" "I" (.int (4 : Int32)) ∧ Fld Z h a0 cs0 "depth" "I" (.int dp) ∧ Fld Z h a0 cs0 "first" "Z" (.int (0 : Int32)) ∧ Fld Z h a0 cs0 "token" "Lcom/example/bad_status/badstatus/model/JsonReader$Token;" (.ref s_NUMBER) ∧ Fld Z h a0 cs0 "tokenStart" "I" (.int (3 : Int32)) ∧ Fld Z h a0 cs0 "textStart" "I" (.int (3 : Int32)) ∧ Fld Z h a0 cs0 "textEnd" "I" (.int (4 : Int32)) ∧ Fld Z h a0 cs0 "escaped" "Z" (.int (0 : Int32)) ∧ Fld Z h a0 cs0 "ascii" "Z" (.int (1 : Int32)) ∧ Fld Z h a0 cs0 "integral" "Z" (.int (1 : Int32))
set_option maxRecDepth 65536 in
set_option maxHeartbeats 40000000 in
theorem rmNx_3_n (l : Launch) (Z : State) (av0 : Array Value) (hw : ∀ d ∈ tables_1, d.before av0 Z = true) (ws : List Jvm.Cond) (a0 : Addr) (ba : Addr) (md : Int32) (dp : Int32) (fi : Int32) (ts : Int32) (xs : Int32) (xe : Int32) (es : Int32) (as_ : Int32) (ig : Int32) (k_ba : ClassId) (s_NUMBER : Addr) (h0 : Heap) (n0 : Nat) (Z0 : n0 ≤ h0.size) (E_a0 : Exa Z h0 a0 cs0) (F_bytes_a0 : Fld Z h0 a0 cs0 "bytes" "[B" (.ref ba)) (F_maxDepth_a0 : Fld Z h0 a0 cs0 "maxDepth" "I" (.int md)) (F_position_a0 : Fld Z h0 a0 cs0 "position" "I" (.int (3 : Int32))) (F_depth_a0 : Fld Z h0 a0 cs0 "depth" "I" (.int dp)) (F_first_a0 : Fld Z h0 a0 cs0 "first" "Z" (.int fi)) (F_token_a0 : Fld Z h0 a0 cs0 "token" "Lcom/example/bad_status/badstatus/model/JsonReader$Token;" .null) (F_tokenStart_a0 : Fld Z h0 a0 cs0 "tokenStart" "I" (.int ts)) (F_textStart_a0 : Fld Z h0 a0 cs0 "textStart" "I" (.int xs)) (F_textEnd_a0 : Fld Z h0 a0 cs0 "textEnd" "I" (.int xe)) (F_escaped_a0 : Fld Z h0 a0 cs0 "escaped" "Z" (.int es)) (F_ascii_a0 : Fld Z h0 a0 cs0 "ascii" "Z" (.int as_)) (F_integral_a0 : Fld Z h0 a0 cs0 "integral" "Z" (.int ig)) (g_a0 : n0 ≤ a0) (V_ba : Arv Z h0 ba k_ba .byte (10 : Int32) [(.int (91 : Int32)), (.int (32 : Int32)), (.int (52 : Int32)), (.int (50 : Int32)), (.int (44 : Int32)), (.int (91 : Int32)), (.int (116 : Int32)), (.int (114 : Int32)), (.int (117 : Int32)), (.int (101 : Int32))] (.int (0 : Int32))) (ne_ba_a0 : ba ≠ a0) (S_s_NUMBER : Sta Z h0 cs1 "NUMBER" "Lcom/example/bad_status/badstatus/model/JsonReader$Token;" (.ref s_NUMBER)) :
    MetFree l (⟨cs0, "next", "()Lcom/example/bad_status/badstatus/model/JsonReader$Token;"⟩ : MethodName) (head1 (Jvm.Cond.code (⟨cs0, "next", "()Lcom/example/bad_status/badstatus/model/JsonReader$Token;"⟩ : MethodName) prog_11_method_2_code 3 (some (.object cs1)) :: ws) ({ frames := 3, cells := 0, slots := 0, locals := 42 } : Room)) (fun a U => a = #[(.ref a0)] ∧ Z.Warmed39 U.vm ∧ U.heap = h0) (fun _ _ _ _ _ => True) (fun _ U o U' => ∃ v L, o = .returned v ∧ Q_rmNx_3_n Z a0 ba md dp fi ts xs xe es as_ ig k_ba s_NUMBER h0 n0 v U'.heap L ∧ FrameEnd U o U' L ({ frames := 3, cells := 0, slots := 0, locals := 42 } : Room).cells ({ frames := 3, cells := 0, slots := 0, locals := 42 } : Room).slots) := by
  refine MetFree.of_bodySF (plainFor_of_name pn_0) hisR ?_
  intro p e s m args below meth c s₁ Bd hml0 hP hK
  obtain ⟨rfl, hZ, hh⟩ := hP
  have hx := Bd.exec
  have hby := Bd.bytes
  have hml : c.maxLocals = 3 := hml0
  have dd : ∀ {pc : Nat} {r : Except DecodeError (Instr × Nat)}, decode prog_11_method_2_code pc = r → decode c.code pc = r := fun q => hb hby q
  have hown : s.vm.findClass cs0 = some m.cls := findClass_of_methodNamed Bd.named
  have hnm := (name_of_methodNamed Bd.named Bd.method).1
  have X0 : Stand p l e ({ frames := 3, cells := 0, slots := 0, locals := 42 } : Room) s m #[(.ref a0)] below meth c s₁ [] 0 0 := Stand.of_body Bd
  have e0 : s₁.heap = h0 := by rw [← hh, Bd.state]; rfl
  have N0 := Fr.nil n0
  have hret := Bd.returns
  have hlk := Bd.notSynchronized
  show Gz p e below s ({ frames := 3, cells := 0, slots := 0, locals := 42 } : Room).cells ({ frames := 3, cells := 0, slots := 0, locals := 42 } : Room).slots (Q_rmNx_3_n Z a0 ba md dp fi ts xs xe es as_ ig k_ba s_NUMBER h0 n0) (s₁.setTop (entryFrame m #[(.ref a0)] 3))
  refine Gz.enter (ef_rmNx_3_n m a0) ?_
  refine Gz.aloadN 1 X0 hx (dd d3_0) rfl rfl rfl ?_
  obtain ⟨cq1, q1, q1'⟩ := E_a0.cell
  obtain ⟨_, _, ⟨T1, L1, k1, n1⟩, -, X1, ⟨Lc1, hQ1, l1, y1, z1⟩, st1⟩ := X0.privateBack hx (y := ym7) hown (mvT hZ (ww hw 33 rfl)) (mvT hZ (ww hw 34 rfl)) (own_selp (y := ym7) (y' := ym8) rfl (mvT hZ (ww hw 31 rfl)) (mvT hZ (ww hw 30 rfl)) (mvT hZ (ww hw 34 rfl)) (Cond.privateMethod_at (mvP hZ (ww hw 35 rfl) (args := #[]))) (by decide)) (Cond.privateMethod_at (mvP hZ (ww hw 35 rfl) (args := #[]))) (mvT hZ (ww hw 36 rfl)) (by decide) (backOf (W := 0) (rmSw_3_n l Z av0 hw [] a0 ba md dp fi ts xs xe es as_ ig k_ba h0 n0 Z0 E_a0 F_bytes_a0 F_maxDepth_a0 F_position_a0 F_depth_a0 F_first_a0 F_token_a0 F_tokenStart_a0 F_textStart_a0 F_textEnd_a0 F_escaped_a0 F_ascii_a0 F_integral_a0 g_a0 V_ba ne_ba_a0) hZ (ww hw 36 rfl) (ww hw 15 rfl) (by decide) (by decide)) (g := (mkF m 1 #[.val (.ref a0), .unset, .unset] [(.ref a0)])) rfl (by rw [hml]; rfl) (Steps.refl _) (a := a0) (by rw [e0]; exact q1) q1' (argsL := []) (rest := []) (lenOf pd_5 rfl) rfl (Nat.le_refl _) (dd d3_1) (fun _ _ => ⟨rfl, e0, (by decide : 0 + 0 ≤ _), (by decide : 0 + 0 ≤ _)⟩)
  dsimp only [Pt.U, Pt.locs, Pt.cells, Pt.slots, Q_rmSw_3_n] at X1 l1 y1 z1 st1 hQ1
  subst l1 y1 z1
  obtain ⟨rfl, N1q, K1q, QE1_0, QF1_0, QF1_1, QF1_2, QF1_3, QF1_4, QF1_5, QF1_6, QF1_7, QF1_8, QF1_9, QF1_10, QF1_11⟩ := hQ1
  have N1 := Fr.app N0 N1q
  have f1_E_a0 := Exa.keep E_a0 K1q
  have f1_V_ba := Arv.keep V_ba K1q (ninS ne_ba_a0 nin0)
  have f1_S_s_NUMBER := own_staK S_s_NUMBER K1q (allS (nst_of E_a0) all0)
  have SZ1 := Nat.le_trans Z0 K1q.1
  have K1 := Keep.trans (Keep.refl h0 [a0]) K1q (allS (Or.inl (List.mem_of_getElem? (i := 0) rfl)) all0)
  refine Gz.tr st1 ?_
  refine Gz.istoreN 5 #[.val (.ref a0), .val (.int (50 : Int32)), .unset] X1 hx (dd d3_4) rfl rfl ?_
  refine Gz.aloadN 6 X1 hx (dd d3_5) rfl rfl rfl ?_
  refine Gz.aloadN 7 X1 hx (dd d3_6) rfl rfl rfl ?_
  refine Gz.getF 10 X1 hx hZ hown (dd d3_7) (host := "") (Or.inl (ww hw 24 rfl)) Via.refl rfl QF1_2 rfl fun T2 X2 e2 => ?_
  refine Gz.putF 13 X2 hx hZ hown .int (dd d3_10) (host := "") (Or.inl (ww hw 40 rfl)) Via.refl e2 QF1_6 QE1_0 (Or.inl (ww hw 41 rfl)) (ww hw 14 rfl) (by decide) rfl rfl rfl fun T3 h3 X3 e3 W3 => ?_
  have f3_E_a0 := Exa.wr W3 QE1_0
  have f3_V_ba := Arv.other f1_V_ba W3 ne_ba_a0
  have f3_S_s_NUMBER := Sta.wr W3 f1_S_s_NUMBER
  have f3_F_bytes_a0 := Fld.other W3 QF1_0 (Or.inr (Ne.symm <| sn5 hw))
  have f3_F_maxDepth_a0 := Fld.other W3 QF1_1 (Or.inr (Ne.symm <| sn24 hw))
  have f3_F_position_a0 := Fld.other W3 QF1_2 (Or.inr (Ne.symm <| sn15 hw))
  have f3_F_depth_a0 := Fld.other W3 QF1_3 (Or.inr (sn31 hw))
  have f3_F_first_a0 := Fld.other W3 QF1_4 (Or.inr (sn32 hw))
  have f3_F_token_a0 := Fld.other W3 QF1_5 (Or.inr (sn33 hw))
  have f3_F_textStart_a0 := Fld.other W3 QF1_7 (Or.inr (sn34 hw))
  have f3_F_textEnd_a0 := Fld.other W3 QF1_8 (Or.inr (sn35 hw))
  have f3_F_escaped_a0 := Fld.other W3 QF1_9 (Or.inr (sn36 hw))
  have f3_F_ascii_a0 := Fld.other W3 QF1_10 (Or.inr (sn37 hw))
  have f3_F_integral_a0 := Fld.other W3 QF1_11 (Or.inr (sn38 hw))
  have f3_F_tokenStart_a0 := Fld.same W3 QF1_6
  have N3 := Fr.snoc X3 N1 g_a0
  have SZ3 : n0 ≤ h3.size := Nat.le_trans SZ1 (Keep.of_wr W3).1
  have K3 := Keep.wr K1 W3 (Or.inl (List.mem_of_getElem? (i := 0) rfl))
  refine Gz.iloadN 14 X3 hx (dd d3_13) rfl rfl ?_
  refine Gz.st (fun t k => X3.lookupswitchMiss hx (g := (mkF m 14 #[.val (.ref a0), .val (.int (50 : Int32)), .unset] [(.int (50 : Int32))])) rfl (k := (50 : Int32)) (rest := []) rfl (dd d3_14) (by decide) (by decide) (by show (0 : Int) ≤ ((14 : Nat) : Int) + 133; decide) t k) ?_
  show Gz p e below s _ _ _ (T3.setTop (mkF m 147 #[.val (.ref a0), .val (.int (50 : Int32)), .unset] []))
  refine Gz.iloadN 148 X3 hx (dd d3_147) rfl rfl ?_
  refine Gz.bipush 150 (45 : Int32) X3 hx (dd d3_148) rfl rfl ?_
  refine Gz.icmpNo 153 X3 hx (dd d3_150) (feq (by decide : ¬ ((50 : Int32) = (45 : Int32)))).1 rfl ?_
  refine Gz.iloadN 154 X3 hx (dd d3_153) rfl rfl ?_
  obtain ⟨_, _, ⟨T4, L4, k4, n4⟩, -, X4, ⟨Lc4, hQ4, l4, y4, z4⟩, st4⟩ := Jvm.LawKit.callS X3 hx (y := ym11) hown (mvT hZ (ww hw 59 rfl)) (mvT hZ (ww hw 60 rfl)) (mvT hZ (ww hw 15 rfl)) (mvT hZ (ww hw 61 rfl)) (by decide) (backOf (W := 0) (rm8 l Z av0 hw [] (50 : Int32)  h3 n0 SZ3 ) hZ (ww hw 61 rfl) (ww hw 15 rfl) (by decide) (by decide)) (g := (mkF m 154 #[.val (.ref a0), .val (.int (50 : Int32)), .unset] [(.int (50 : Int32))])) rfl (by rw [hml]; rfl) (argsL := [(.int (50 : Int32))]) (rest := []) (lenOf pd_9 rfl) rfl (Nat.le_refl _) (dd d3_154) (fun _ _ => ⟨rfl, e3, (by decide : 0 + 0 ≤ _), (by decide : 0 + 0 ≤ _)⟩)
  dsimp only [Pt.U, Pt.locs, Pt.cells, Pt.slots, Q_rm8] at X4 l4 y4 z4 st4 hQ4
  subst l4 y4 z4
  rw [show (fDg (50 : Int32)) = (1 : Int32) from (by unfold fDg; rw [if_neg (by decide : ¬ ((50 : Int32) < (48 : Int32))), if_neg (by decide : ¬ ((57 : Int32) < (50 : Int32)))]; try decide)] at hQ4
  obtain ⟨rfl, N4q, e4⟩ := hQ4
  have N4 := Fr.app N3 N4q
  refine Gz.st st4 ?_
  refine Gz.ifYes 165 X4 hx (dd d3_157) ((if0 _ _).trans (feq (by decide : ¬ ((1 : Int32) = (0 : Int32)))).2) (by decide) (by decide) ?_
  refine Gz.aloadN 166 X4 hx (dd d3_165) rfl rfl rfl ?_
  obtain ⟨cq5, q5, q5'⟩ := f3_E_a0.cell
  obtain ⟨_, _, ⟨T5, L5, k5, n5⟩, -, X5, ⟨Lc5, hQ5, l5, y5, z5⟩, st5⟩ := X4.privateBack hx (y := ym13) hown (mvT hZ (ww hw 62 rfl)) (mvT hZ (ww hw 63 rfl)) (own_selp (y := ym13) (y' := ym8) rfl (mvT hZ (ww hw 31 rfl)) (mvT hZ (ww hw 30 rfl)) (mvT hZ (ww hw 63 rfl)) (Cond.privateMethod_at (mvP hZ (ww hw 64 rfl) (args := #[]))) (by decide)) (Cond.privateMethod_at (mvP hZ (ww hw 64 rfl) (args := #[]))) (mvT hZ (ww hw 65 rfl)) (by decide) (backOf (W := 0) (rmRn_3_n l Z av0 hw [] a0 ba md dp fi (3 : Int32) xs xe es as_ ig k_ba h3 n0 SZ3 f3_E_a0 f3_F_bytes_a0 f3_F_maxDepth_a0 f3_F_position_a0 f3_F_depth_a0 f3_F_first_a0 f3_F_token_a0 f3_F_tokenStart_a0 f3_F_textStart_a0 f3_F_textEnd_a0 f3_F_escaped_a0 f3_F_ascii_a0 f3_F_integral_a0 g_a0 f3_V_ba ne_ba_a0) hZ (ww hw 65 rfl) (ww hw 15 rfl) (by decide) (by decide)) (g := (mkF m 166 #[.val (.ref a0), .val (.int (50 : Int32)), .unset] [(.ref a0)])) rfl (by rw [hml]; rfl) (Steps.refl _) (a := a0) (by rw [e4]; exact q5) q5' (argsL := []) (rest := []) (lenOf pd_2 rfl) rfl (Nat.le_refl _) (dd d3_166) (fun _ _ => ⟨rfl, e4, (by decide : 0 + 0 ≤ _), (by decide : 0 + 0 ≤ _)⟩)
  dsimp only [Pt.U, Pt.locs, Pt.cells, Pt.slots, Q_rmRn_3_n] at X5 l5 y5 z5 st5 hQ5
  subst l5 y5 z5
  obtain ⟨rfl, N5q, K5q, QE5_0, QF5_0, QF5_1, QF5_2, QF5_3, QF5_4, QF5_5, QF5_6, QF5_7, QF5_8, QF5_9, QF5_10, QF5_11⟩ := hQ5
  have N5 := Fr.app N4 N5q
  have f5_E_a0 := Exa.keep f3_E_a0 K5q
  have f5_V_ba := Arv.keep f3_V_ba K5q (ninS ne_ba_a0 nin0)
  have f5_S_s_NUMBER := own_staK f3_S_s_NUMBER K5q (allS (nst_of f3_E_a0) all0)
  have SZ5 := Nat.le_trans SZ3 K5q.1
  have K5 := Keep.trans K3 K5q (allS (Or.inl (List.mem_of_getElem? (i := 0) rfl)) all0)
  refine Gz.tr st5 ?_
  refine Gz.getS 172 X5 hx hZ hown (dd d3_169) (host := "") (Or.inl (ww hw 80 rfl)) Via.refl rfl f5_S_s_NUMBER rfl fun T6 X6 e6 => ?_
  refine Gz.astoreN 173 #[.val (.ref a0), .val (.int (50 : Int32)), .val (.ref s_NUMBER)] X6 hx (dd d3_172) rfl rfl rfl ?_
  refine Gz.aloadN 174 X6 hx (dd d3_173) rfl rfl rfl ?_
  refine Gz.aloadN 175 X6 hx (dd d3_174) rfl rfl rfl ?_
  refine Gz.putF 178 X6 hx hZ hown (.object cs1) (dd d3_175) (host := "") (Or.inl (ww hw 51 rfl)) Via.refl e6 QF5_5 QE5_0 (Or.inl (ww hw 52 rfl)) (ww hw 14 rfl) (by decide) rfl rfl rfl fun T7 h7 X7 e7 W7 => ?_
  have f7_E_a0 := Exa.wr W7 QE5_0
  have f7_V_ba := Arv.other f5_V_ba W7 ne_ba_a0
  have f7_S_s_NUMBER := Sta.wr W7 f5_S_s_NUMBER
  have f7_F_bytes_a0 := Fld.other W7 QF5_0 (Or.inr (Ne.symm <| sn4 hw))
  have f7_F_maxDepth_a0 := Fld.other W7 QF5_1 (Or.inr (Ne.symm <| sn23 hw))
  have f7_F_position_a0 := Fld.other W7 QF5_2 (Or.inr (Ne.symm <| sn14 hw))
  have f7_F_depth_a0 := Fld.other W7 QF5_3 (Or.inr (Ne.symm <| sn40 hw))
  have f7_F_first_a0 := Fld.other W7 QF5_4 (Or.inr (Ne.symm <| sn46 hw))
  have f7_F_tokenStart_a0 := Fld.other W7 QF5_6 (Or.inr (Ne.symm <| sn33 hw))
  have f7_F_textStart_a0 := Fld.other W7 QF5_7 (Or.inr (sn52 hw))
  have f7_F_textEnd_a0 := Fld.other W7 QF5_8 (Or.inr (sn53 hw))
  have f7_F_escaped_a0 := Fld.other W7 QF5_9 (Or.inr (sn54 hw))
  have f7_F_ascii_a0 := Fld.other W7 QF5_10 (Or.inr (sn55 hw))
  have f7_F_integral_a0 := Fld.other W7 QF5_11 (Or.inr (sn56 hw))
  have f7_F_token_a0 := Fld.same W7 QF5_5
  have N7 := Fr.snoc X7 N5 g_a0
  have SZ7 : n0 ≤ h7.size := Nat.le_trans SZ5 (Keep.of_wr W7).1
  have K7 := Keep.wr K5 W7 (Or.inl (List.mem_of_getElem? (i := 0) rfl))
  refine Gz.aloadN 179 X7 hx (dd d3_178) rfl rfl rfl ?_
  refine Gz.fin X7 (v := some (.ref s_NUMBER)) (fun h => by rw [hret] at h; cases h) hlk (by decide) (by decide) (fun fs hr => retA X7 hx hret (dd d3_179) hr rfl rfl) ?_
  rw [e7]
  exact ⟨rfl, N7, K7, f7_E_a0, f7_F_bytes_a0, f7_F_maxDepth_a0, f7_F_position_a0, f7_F_depth_a0, f7_F_first_a0, f7_F_token_a0, f7_F_tokenStart_a0, f7_F_textStart_a0, f7_F_textEnd_a0, f7_F_escaped_a0, f7_F_ascii_a0, f7_F_integral_a0⟩
set_option maxRecDepth 65536 in
set_option maxHeartbeats 40000000 in
theorem sgC3 {p : Program} {l : Launch} {e : Env} {s : State} {m : MethodId} {args : Array Value} {below : List Frame} {meth : Method} {c : Code} {T0 : State} {locs : List Loc} {Z : State} {av0 : Array Value} {hS : Heap} (s0 : Slot) (dq : Int32) (s2 : Slot) (s3 : Slot) (s4 : Slot) (ast : Addr) (aks : Addr) (s8 : Slot) (s9 : Slot) (rd : Addr) (st_OBJECT : Addr) (st_ARRAY : Addr) (st_NUMBER : Addr) (st_TRUE : Addr) (tb : Addr) (k_tb : ClassId) (ba : Addr) (md : Int32) (fi : Int32) (ts : Int32) (xs : Int32) (xe : Int32) (es : Int32) (as_ : Int32) (ig : Int32) (k_ba : ClassId) (k_ast : ClassId) (k_aks : ClassId) (n0 : Nat)
    (X0 : Stand p l e room_1 s m args below meth c T0 locs 6 42) (hx : p.tables.exec = Jvm.exec) (hZ : Z.Warmed39 s.vm) (hw : ∀ d ∈ tables_1, d.before av0 Z = true) (hby : c.code = code) (hml : c.maxLocals = 15) (hown : s.vm.findClass "com/example/bad_status/badstatus/model/JsonReaderResetPinLaw" = some m.cls) (hret : meth.sig.returnType = some .boolean) (hlk : meth.locks = false) (e0 : T0.heap = hS) (N0 : Fr n0 locs) (Z0 : n0 ≤ hS.size) (S_st_OBJECT : Sta Z hS cs1 "OBJECT" "Lcom/example/bad_status/badstatus/model/JsonReader$Token;" (.ref st_OBJECT)) (S_st_ARRAY : Sta Z hS cs1 "ARRAY" "Lcom/example/bad_status/badstatus/model/JsonReader$Token;" (.ref st_ARRAY)) (S_st_NUMBER : Sta Z hS cs1 "NUMBER" "Lcom/example/bad_status/badstatus/model/JsonReader$Token;" (.ref st_NUMBER)) (S_st_TRUE : Sta Z hS cs1 "TRUE" "Lcom/example/bad_status/badstatus/model/JsonReader$Token;" (.ref st_TRUE)) (ne_st_OBJECT_st_ARRAY : st_OBJECT ≠ st_ARRAY) (ne_st_OBJECT_st_NUMBER : st_OBJECT ≠ st_NUMBER) (ne_st_OBJECT_st_TRUE : st_OBJECT ≠ st_TRUE) (ne_st_ARRAY_st_NUMBER : st_ARRAY ≠ st_NUMBER) (ne_st_ARRAY_st_TRUE : st_ARRAY ≠ st_TRUE) (S_tb : Sta Z hS cs0 "TRUE" "[B" (.ref tb)) (V_tb : Arv Z hS tb k_tb .byte (4 : Int32) [(.int (116 : Int32)), (.int (114 : Int32)), (.int (117 : Int32)), (.int (101 : Int32))] (.int (0 : Int32))) (E_rd : Exa Z hS rd cs0) (F_bytes_rd : Fld Z hS rd cs0 "bytes" "[B" (.ref ba)) (F_maxDepth_rd : Fld Z hS rd cs0 "maxDepth" "I" (.int md)) (F_position_rd : Fld Z hS rd cs0 "position" "I" (.int (3 : Int32))) (F_depth_rd : Fld Z hS rd cs0 "depth" "I" (.int dq)) (F_first_rd : Fld Z hS rd cs0 "first" "Z" (.int fi)) (F_token_rd : Fld Z hS rd cs0 "token" "Lcom/example/bad_status/badstatus/model/JsonReader$Token;" .null) (F_tokenStart_rd : Fld Z hS rd cs0 "tokenStart" "I" (.int ts)) (F_textStart_rd : Fld Z hS rd cs0 "textStart" "I" (.int xs)) (F_textEnd_rd : Fld Z hS rd cs0 "textEnd" "I" (.int xe)) (F_escaped_rd : Fld Z hS rd cs0 "escaped" "Z" (.int es)) (F_ascii_rd : Fld Z hS rd cs0 "ascii" "Z" (.int as_)) (F_integral_rd : Fld Z hS rd cs0 "integral" "Z" (.int ig)) (g_rd : n0 ≤ rd) (V_ba : Arv Z hS ba k_ba .byte (10 : Int32) [(.int (91 : Int32)), (.int (32 : Int32)), (.int (52 : Int32)), (.int (50 : Int32)), (.int (44 : Int32)), (.int (91 : Int32)), (.int (116 : Int32)), (.int (114 : Int32)), (.int (117 : Int32)), (.int (101 : Int32))] (.int (0 : Int32))) (ne_ba_rd : ba ≠ rd) (V_ast : Arv Z hS ast k_ast .int (6 : Int32) [(.int (0 : Int32)), (.int (2 : Int32)), (.int (2 : Int32)), (.int (3 : Int32)), (.int (5 : Int32)), (.int (6 : Int32))] (.int (0 : Int32))) (V_aks : Arv Z hS aks k_aks (.object cs1) (6 : Int32) [(.ref st_ARRAY), (.ref st_NUMBER), (.ref st_NUMBER), (.ref st_NUMBER), (.ref st_ARRAY), (.ref st_TRUE)] .null) (ne_ast_rd : ast ≠ rd) (ne_aks_rd : aks ≠ rd) (ne_tb_rd : tb ≠ rd) (hdm : ¬ (dq = md)) :
    Gz p e below s 24 192 (Q_law n0) (T0.setTop (mkF m 261 #[s0, .val (.int dq), s2, s3, s4, .val (.ref ast), .val (.ref aks), .val (.int (3 : Int32)), s8, s9, .val (.ref rd), .unset, .unset, .unset, .unset] [])) := by
  have dd : ∀ {pc : Nat} {r : Except DecodeError (Instr × Nat)}, decode code pc = r → decode c.code pc = r := fun q => hb hby q
  refine Gz.aload 263 X0 hx (dd at_261) rfl rfl rfl ?_
  obtain ⟨cq1, kq1, q1a, q1b, q1c⟩ := isOf hZ e0 E_rd
  obtain ⟨_, _, ⟨T1, L1, k1, n1⟩, -, X1, ⟨Lc1, hQ1, l1, y1, z1⟩, st1⟩ := X0.virtualBack hx (y := ym4) (z := ym4) hown (mvT hZ (ww hw 112 rfl)) (mvT hZ (ww hw 113 rfl)) (notFace_of_selects (args := #[]) (mvT hZ (ww hw 115 rfl))) (mvT hZ (ww hw 115 rfl)) (mvT hZ (ww hw 114 rfl)) (by decide) (backOf (W := 0) (rmMk_n l Z av0 hw [] rd st_OBJECT st_ARRAY dq ts hS n0 Z0 S_st_OBJECT S_st_ARRAY E_rd F_depth_rd F_token_rd F_tokenStart_rd) hZ (ww hw 116 rfl) (ww hw 15 rfl) (by decide) (by decide)) q1a q1c (g := (mkF m 263 #[s0, .val (.int dq), s2, s3, s4, .val (.ref ast), .val (.ref aks), .val (.int (3 : Int32)), s8, s9, .val (.ref rd), .unset, .unset, .unset, .unset] [(.ref rd)])) rfl (by rw [hml]; rfl) (Steps.refl _) (argsL := []) (rest := []) (lenOf pd_4 rfl) rfl (Nat.le_refl _) (dd at_263) (fun _ _ => ⟨rfl, e0, (by decide : 6 + 1 ≤ _), (by decide : 42 + 2 ≤ _)⟩)
  dsimp only [Pt.U, Pt.locs, Pt.cells, Pt.slots, Q_rmMk_n] at X1 l1 y1 z1 st1 hQ1
  subst l1 y1 z1
  obtain ⟨rd1, rfl, N1q, K1q, gr1, szr1, RE1, RP1, RD1⟩ := hQ1
  have N1 := Fr.app N0 N1q
  have ne_tb_rd1 : tb ≠ rd1 := Nat.ne_of_lt (Nat.lt_of_lt_of_le (V_tb).lt szr1)
  have ne_rd_rd1 : rd ≠ rd1 := Nat.ne_of_lt (Nat.lt_of_lt_of_le (F_integral_rd).lt szr1)
  have ne_ba_rd1 : ba ≠ rd1 := Nat.ne_of_lt (Nat.lt_of_lt_of_le (V_ba).lt szr1)
  have ne_ast_rd1 : ast ≠ rd1 := Nat.ne_of_lt (Nat.lt_of_lt_of_le (V_ast).lt szr1)
  have ne_aks_rd1 : aks ≠ rd1 := Nat.ne_of_lt (Nat.lt_of_lt_of_le (V_aks).lt szr1)
  have f1_S_st_OBJECT := own_staK S_st_OBJECT K1q all0
  have f1_S_st_ARRAY := own_staK S_st_ARRAY K1q all0
  have f1_S_st_NUMBER := own_staK S_st_NUMBER K1q all0
  have f1_S_st_TRUE := own_staK S_st_TRUE K1q all0
  have f1_S_tb := own_staK S_tb K1q all0
  have f1_V_tb := Arv.keep V_tb K1q nin0
  have f1_E_rd := Exa.keep E_rd K1q
  have f1_F_bytes_rd := Fld.keep F_bytes_rd K1q nin0
  have f1_F_maxDepth_rd := Fld.keep F_maxDepth_rd K1q nin0
  have f1_F_position_rd := Fld.keep F_position_rd K1q nin0
  have f1_F_depth_rd := Fld.keep F_depth_rd K1q nin0
  have f1_F_first_rd := Fld.keep F_first_rd K1q nin0
  have f1_F_token_rd := Fld.keep F_token_rd K1q nin0
  have f1_F_tokenStart_rd := Fld.keep F_tokenStart_rd K1q nin0
  have f1_F_textStart_rd := Fld.keep F_textStart_rd K1q nin0
  have f1_F_textEnd_rd := Fld.keep F_textEnd_rd K1q nin0
  have f1_F_escaped_rd := Fld.keep F_escaped_rd K1q nin0
  have f1_F_ascii_rd := Fld.keep F_ascii_rd K1q nin0
  have f1_F_integral_rd := Fld.keep F_integral_rd K1q nin0
  have f1_V_ba := Arv.keep V_ba K1q nin0
  have f1_V_ast := Arv.keep V_ast K1q nin0
  have f1_V_aks := Arv.keep V_aks K1q nin0
  have SZ1 := Nat.le_trans Z0 K1q.1
  refine Gz.tr st1 ?_
  refine Gz.astore 268 #[s0, .val (.int dq), s2, s3, s4, .val (.ref ast), .val (.ref aks), .val (.int (3 : Int32)), s8, s9, .val (.ref rd), .val (.ref rd1), .unset, .unset, .unset] X1 hx (dd at_266) rfl rfl rfl ?_
  refine Gz.aload 270 X1 hx (dd at_268) rfl rfl rfl ?_
  obtain ⟨cq2, kq2, q2a, q2b, q2c⟩ := isOf hZ rfl RE1
  obtain ⟨_, _, ⟨T2, L2, k2, n2⟩, -, X2, ⟨Lc2, hQ2, l2, y2, z2⟩, st2⟩ := X1.virtualBack hx (y := ym5) (z := ym5) hown (mvT hZ (ww hw 121 rfl)) (mvT hZ (ww hw 108 rfl)) (notFace_of_selects (args := #[]) (mvT hZ (ww hw 110 rfl))) (mvT hZ (ww hw 110 rfl)) (mvT hZ (ww hw 109 rfl)) (by decide) (backOf (W := 0) (rm15 l Z av0 hw [] rd1 dq T1.heap n0 SZ1 RD1) hZ (ww hw 111 rfl) (ww hw 83 rfl) (by decide) (by decide)) q2a q2c (g := (mkF m 270 #[s0, .val (.int dq), s2, s3, s4, .val (.ref ast), .val (.ref aks), .val (.int (3 : Int32)), s8, s9, .val (.ref rd), .val (.ref rd1), .unset, .unset, .unset] [(.ref rd1)])) rfl (by rw [hml]; rfl) (Steps.refl _) (argsL := []) (rest := []) (lenOf pd_5 rfl) rfl (Nat.le_refl _) (dd at_270) (fun _ _ => ⟨rfl, rfl, (by decide : 7 + 0 ≤ _), (by decide : 44 + 0 ≤ _)⟩)
  dsimp only [Pt.U, Pt.locs, Pt.cells, Pt.slots, Q_rm15] at X2 l2 y2 z2 st2 hQ2
  subst l2 y2 z2
  rw [show (fMd rd1 dq) = dq from (by unfold fMd; rfl)] at hQ2
  obtain ⟨rfl, N2q, e2⟩ := hQ2
  have N2 := Fr.app N1 N2q
  refine Gz.tr st2 ?_
  refine Gz.iloadN 274 X2 hx (dd at_273) rfl rfl ?_
  refine Gz.icmpNo 277 X2 hx (dd at_274) (teq (rfl : dq = dq)).2 rfl ?_
  refine Gz.iconst 278 (1 : Int32) X2 hx (dd at_277) rfl rfl ?_
  refine Gz.goto 282 X2 hx (dd at_278) (by decide) (by decide) ?_
  refine Gz.istore 284 #[s0, .val (.int dq), s2, s3, s4, .val (.ref ast), .val (.ref aks), .val (.int (3 : Int32)), s8, s9, .val (.ref rd), .val (.ref rd1), .val (.int (1 : Int32)), .unset, .unset] X2 hx (dd at_282) rfl rfl ?_
  refine Gz.aload 286 X2 hx (dd at_284) rfl rfl rfl ?_
  obtain ⟨cq3, kq3, q3a, q3b, q3c⟩ := isOf hZ e2 f1_E_rd
  obtain ⟨_, _, ⟨T3, L3, k3, n3⟩, -, X3, ⟨Lc3, hQ3, l3, y3, z3⟩, st3⟩ := X2.virtualBack hx (y := ym8) (z := ym8) hown (mvT hZ (ww hw 28 rfl)) (mvT hZ (ww hw 29 rfl)) (notFace_of_selects (args := #[]) (mvT hZ (ww hw 31 rfl))) (mvT hZ (ww hw 31 rfl)) (mvT hZ (ww hw 30 rfl)) (by decide) (backOf (W := 0) (rmNx_3_n l Z av0 hw [] rd ba md dq fi ts xs xe es as_ ig k_ba st_NUMBER T1.heap n0 SZ1 f1_E_rd f1_F_bytes_rd f1_F_maxDepth_rd f1_F_position_rd f1_F_depth_rd f1_F_first_rd f1_F_token_rd f1_F_tokenStart_rd f1_F_textStart_rd f1_F_textEnd_rd f1_F_escaped_rd f1_F_ascii_rd f1_F_integral_rd g_rd f1_V_ba ne_ba_rd f1_S_st_NUMBER) hZ (ww hw 32 rfl) (ww hw 15 rfl) (by decide) (by decide)) q3a q3c (g := (mkF m 286 #[s0, .val (.int dq), s2, s3, s4, .val (.ref ast), .val (.ref aks), .val (.int (3 : Int32)), s8, s9, .val (.ref rd), .val (.ref rd1), .val (.int (1 : Int32)), .unset, .unset] [(.ref rd)])) rfl (by rw [hml]; rfl) (Steps.refl _) (argsL := []) (rest := []) (lenOf pd_8 rfl) rfl (Nat.le_refl _) (dd at_286) (fun _ _ => ⟨rfl, e2, (by decide : 7 + 0 ≤ _), (by decide : 44 + 0 ≤ _)⟩)
  dsimp only [Pt.U, Pt.locs, Pt.cells, Pt.slots, Q_rmNx_3_n] at X3 l3 y3 z3 st3 hQ3
  subst l3 y3 z3
  obtain ⟨rfl, N3q, K3q, QE3_0, QF3_0, QF3_1, QF3_2, QF3_3, QF3_4, QF3_5, QF3_6, QF3_7, QF3_8, QF3_9, QF3_10, QF3_11⟩ := hQ3
  have N3 := Fr.app N2 N3q
  have f3_S_st_OBJECT := own_staK f1_S_st_OBJECT K3q (allS (nst_of f1_E_rd) all0)
  have f3_S_st_ARRAY := own_staK f1_S_st_ARRAY K3q (allS (nst_of f1_E_rd) all0)
  have f3_S_st_NUMBER := own_staK f1_S_st_NUMBER K3q (allS (nst_of f1_E_rd) all0)
  have f3_S_st_TRUE := own_staK f1_S_st_TRUE K3q (allS (nst_of f1_E_rd) all0)
  have f3_S_tb := own_staK f1_S_tb K3q (allS (nst_of f1_E_rd) all0)
  have f3_V_tb := Arv.keep f1_V_tb K3q (ninS ne_tb_rd nin0)
  have f3_E_rd := Exa.keep f1_E_rd K3q
  have f3_V_ba := Arv.keep f1_V_ba K3q (ninS ne_ba_rd nin0)
  have f3_V_ast := Arv.keep f1_V_ast K3q (ninS ne_ast_rd nin0)
  have f3_V_aks := Arv.keep f1_V_aks K3q (ninS ne_aks_rd nin0)
  have f3_E_rd1 := Exa.keep RE1 K3q
  have f3_F_position_rd1 := Fld.keep RP1 K3q (ninS (Ne.symm ne_rd_rd1) nin0)
  have f3_F_depth_rd1 := Fld.keep RD1 K3q (ninS (Ne.symm ne_rd_rd1) nin0)
  have SZ3 := Nat.le_trans SZ1 K3q.1
  refine Gz.tr st3 ?_
  refine Gz.astore 291 #[s0, .val (.int dq), s2, s3, s4, .val (.ref ast), .val (.ref aks), .val (.int (3 : Int32)), s8, s9, .val (.ref rd), .val (.ref rd1), .val (.int (1 : Int32)), .val (.ref st_NUMBER), .unset] X3 hx (dd at_289) rfl rfl rfl ?_
  refine Gz.aload 293 X3 hx (dd at_291) rfl rfl rfl ?_
  obtain ⟨cq4, kq4, q4a, q4b, q4c⟩ := isOf hZ rfl QE3_0
  obtain ⟨_, _, ⟨T4, L4, k4, n4⟩, -, X4, ⟨Lc4, hQ4, l4, y4, z4⟩, st4⟩ := X3.virtualBack hx (y := ym4) (z := ym4) hown (mvT hZ (ww hw 112 rfl)) (mvT hZ (ww hw 113 rfl)) (notFace_of_selects (args := #[]) (mvT hZ (ww hw 115 rfl))) (mvT hZ (ww hw 115 rfl)) (mvT hZ (ww hw 114 rfl)) (by decide) (backOf (W := 0) (rmMk_o l Z av0 hw [] rd st_OBJECT st_ARRAY dq st_NUMBER (3 : Int32) T3.heap n0 SZ3 f3_S_st_OBJECT f3_S_st_ARRAY QE3_0 QF3_3 QF3_5 QF3_6 (Ne.symm ne_st_OBJECT_st_NUMBER) (Ne.symm ne_st_ARRAY_st_NUMBER)) hZ (ww hw 116 rfl) (ww hw 15 rfl) (by decide) (by decide)) q4a q4c (g := (mkF m 293 #[s0, .val (.int dq), s2, s3, s4, .val (.ref ast), .val (.ref aks), .val (.int (3 : Int32)), s8, s9, .val (.ref rd), .val (.ref rd1), .val (.int (1 : Int32)), .val (.ref st_NUMBER), .unset] [(.ref rd)])) rfl (by rw [hml]; rfl) (Steps.refl _) (argsL := []) (rest := []) (lenOf pd_4 rfl) rfl (Nat.le_refl _) (dd at_293) (fun _ _ => ⟨rfl, rfl, (by decide : 7 + 1 ≤ _), (by decide : 44 + 2 ≤ _)⟩)
  dsimp only [Pt.U, Pt.locs, Pt.cells, Pt.slots, Q_rmMk_o] at X4 l4 y4 z4 st4 hQ4
  subst l4 y4 z4
  obtain ⟨rd4, rfl, N4q, K4q, gr4, szr4, RE4, RP4, RD4⟩ := hQ4
  have N4 := Fr.app N3 N4q
  have ne_tb_rd4 : tb ≠ rd4 := Nat.ne_of_lt (Nat.lt_of_lt_of_le (f3_V_tb).lt szr4)
  have ne_rd_rd4 : rd ≠ rd4 := Nat.ne_of_lt (Nat.lt_of_lt_of_le (QF3_11).lt szr4)
  have ne_ba_rd4 : ba ≠ rd4 := Nat.ne_of_lt (Nat.lt_of_lt_of_le (f3_V_ba).lt szr4)
  have ne_ast_rd4 : ast ≠ rd4 := Nat.ne_of_lt (Nat.lt_of_lt_of_le (f3_V_ast).lt szr4)
  have ne_aks_rd4 : aks ≠ rd4 := Nat.ne_of_lt (Nat.lt_of_lt_of_le (f3_V_aks).lt szr4)
  have ne_rd1_rd4 : rd1 ≠ rd4 := Nat.ne_of_lt (Nat.lt_of_lt_of_le (f3_F_depth_rd1).lt szr4)
  have f4_S_st_OBJECT := own_staK f3_S_st_OBJECT K4q all0
  have f4_S_st_ARRAY := own_staK f3_S_st_ARRAY K4q all0
  have f4_S_st_NUMBER := own_staK f3_S_st_NUMBER K4q all0
  have f4_S_st_TRUE := own_staK f3_S_st_TRUE K4q all0
  have f4_S_tb := own_staK f3_S_tb K4q all0
  have f4_V_tb := Arv.keep f3_V_tb K4q nin0
  have f4_E_rd := Exa.keep QE3_0 K4q
  have f4_V_ba := Arv.keep f3_V_ba K4q nin0
  have f4_V_ast := Arv.keep f3_V_ast K4q nin0
  have f4_V_aks := Arv.keep f3_V_aks K4q nin0
  have f4_E_rd1 := Exa.keep f3_E_rd1 K4q
  have f4_F_position_rd1 := Fld.keep f3_F_position_rd1 K4q nin0
  have f4_F_depth_rd1 := Fld.keep f3_F_depth_rd1 K4q nin0
  have f4_F_bytes_rd := Fld.keep QF3_0 K4q nin0
  have f4_F_maxDepth_rd := Fld.keep QF3_1 K4q nin0
  have f4_F_position_rd := Fld.keep QF3_2 K4q nin0
  have f4_F_depth_rd := Fld.keep QF3_3 K4q nin0
  have f4_F_first_rd := Fld.keep QF3_4 K4q nin0
  have f4_F_token_rd := Fld.keep QF3_5 K4q nin0
  have f4_F_tokenStart_rd := Fld.keep QF3_6 K4q nin0
  have f4_F_textStart_rd := Fld.keep QF3_7 K4q nin0
  have f4_F_textEnd_rd := Fld.keep QF3_8 K4q nin0
  have f4_F_escaped_rd := Fld.keep QF3_9 K4q nin0
  have f4_F_ascii_rd := Fld.keep QF3_10 K4q nin0
  have f4_F_integral_rd := Fld.keep QF3_11 K4q nin0
  have SZ4 := Nat.le_trans SZ3 K4q.1
  refine Gz.tr st4 ?_
  refine Gz.astore 298 #[s0, .val (.int dq), s2, s3, s4, .val (.ref ast), .val (.ref aks), .val (.int (3 : Int32)), s8, s9, .val (.ref rd), .val (.ref rd1), .val (.int (1 : Int32)), .val (.ref st_NUMBER), .val (.ref rd4)] X4 hx (dd at_296) rfl rfl rfl ?_
  refine Gz.iload 300 X4 hx (dd at_298) rfl rfl ?_
  refine Gz.ifNo 303 X4 hx (dd at_300) ((if0 _ _).trans (feq (by decide : ¬ ((1 : Int32) = (0 : Int32)))).1) rfl ?_
  refine Gz.aload 305 X4 hx (dd at_303) rfl rfl rfl ?_
  refine Gz.aload 307 X4 hx (dd at_305) rfl rfl rfl ?_
  refine Gz.iload 309 X4 hx (dd at_307) rfl rfl ?_
  obtain ⟨c5, A5, q5, S5, N5, H5, G5⟩ := id f4_V_aks
  have hin5 : ¬ ((3 : Int32) < 0 ∨ c5.slots.size ≤ ((3 : Int32)).toNatClampNeg) := inb_of S5 ⟨by decide, by decide⟩
  refine Gz.ldA 310 X4 hx hZ rfl (dd at_309) rfl A5 hin5 (Has.at H5 hin5 (rfl : _ = ((.ref st_NUMBER) : Value))) rfl ?_
  refine Gz.acmp 313 true X4 hx (dd at_310) rfl rfl (decide_eq_true rfl) (by decide) (by decide) ?_
  refine Gz.aload 315 X4 hx (dd at_313) rfl rfl rfl ?_
  obtain ⟨cq6, kq6, q6a, q6b, q6c⟩ := isOf hZ rfl RE4
  obtain ⟨_, _, ⟨T6, L6, k6, n6⟩, -, X6, ⟨Lc6, hQ6, l6, y6, z6⟩, st6⟩ := X4.virtualBack hx (y := ym10) (z := ym10) hown (mvT hZ (ww hw 122 rfl)) (mvT hZ (ww hw 103 rfl)) (notFace_of_selects (args := #[]) (mvT hZ (ww hw 105 rfl))) (mvT hZ (ww hw 105 rfl)) (mvT hZ (ww hw 104 rfl)) (by decide) (backOf (W := 0) (rm14 l Z av0 hw [] rd4 (3 : Int32) T4.heap n0 SZ4 RP4) hZ (ww hw 106 rfl) (ww hw 83 rfl) (by decide) (by decide)) q6a q6c (g := (mkF m 315 #[s0, .val (.int dq), s2, s3, s4, .val (.ref ast), .val (.ref aks), .val (.int (3 : Int32)), s8, s9, .val (.ref rd), .val (.ref rd1), .val (.int (1 : Int32)), .val (.ref st_NUMBER), .val (.ref rd4)] [(.ref rd4)])) rfl (by rw [hml]; rfl) (Steps.refl _) (argsL := []) (rest := []) (lenOf pd_5 rfl) rfl (Nat.le_refl _) (dd at_315) (fun _ _ => ⟨rfl, rfl, (by decide : 8 + 0 ≤ _), (by decide : 46 + 0 ≤ _)⟩)
  dsimp only [Pt.U, Pt.locs, Pt.cells, Pt.slots, Q_rm14] at X6 l6 y6 z6 st6 hQ6
  subst l6 y6 z6
  rw [show (fMp rd4 (3 : Int32)) = (3 : Int32) from (by unfold fMp; rfl)] at hQ6
  obtain ⟨rfl, N6q, e6⟩ := hQ6
  have N6 := Fr.app N4 N6q
  refine Gz.tr st6 ?_
  refine Gz.aload 320 X6 hx (dd at_318) rfl rfl rfl ?_
  refine Gz.iload 322 X6 hx (dd at_320) rfl rfl ?_
  obtain ⟨c7, A7, q7, S7, N7, H7, G7⟩ := id f4_V_ast
  have hin7 : ¬ ((3 : Int32) < 0 ∨ c7.slots.size ≤ ((3 : Int32)).toNatClampNeg) := inb_of S7 ⟨by decide, by decide⟩
  refine Gz.ldI 323 X6 hx hZ (dd at_322) e6 A7 hin7 (Has.at H7 hin7 (rfl : _ = ((.int (3 : Int32)) : Value))) rfl ?_
  refine Gz.icmpNo 326 X6 hx (dd at_323) (teq (by decide : (3 : Int32) = (3 : Int32))).2 rfl ?_
  refine Gz.aload 328 X6 hx (dd at_326) rfl rfl rfl ?_
  obtain ⟨cq8, kq8, q8a, q8b, q8c⟩ := isOf hZ e6 RE4
  obtain ⟨_, _, ⟨T8, L8, k8, n8⟩, -, X8, ⟨Lc8, hQ8, l8, y8, z8⟩, st8⟩ := X6.virtualBack hx (y := ym5) (z := ym5) hown (mvT hZ (ww hw 121 rfl)) (mvT hZ (ww hw 108 rfl)) (notFace_of_selects (args := #[]) (mvT hZ (ww hw 110 rfl))) (mvT hZ (ww hw 110 rfl)) (mvT hZ (ww hw 109 rfl)) (by decide) (backOf (W := 0) (rm15 l Z av0 hw [] rd4 dq T4.heap n0 SZ4 RD4) hZ (ww hw 111 rfl) (ww hw 83 rfl) (by decide) (by decide)) q8a q8c (g := (mkF m 328 #[s0, .val (.int dq), s2, s3, s4, .val (.ref ast), .val (.ref aks), .val (.int (3 : Int32)), s8, s9, .val (.ref rd), .val (.ref rd1), .val (.int (1 : Int32)), .val (.ref st_NUMBER), .val (.ref rd4)] [(.ref rd4)])) rfl (by rw [hml]; rfl) (Steps.refl _) (argsL := []) (rest := []) (lenOf pd_5 rfl) rfl (Nat.le_refl _) (dd at_328) (fun _ _ => ⟨rfl, e6, (by decide : 8 + 0 ≤ _), (by decide : 46 + 0 ≤ _)⟩)
  dsimp only [Pt.U, Pt.locs, Pt.cells, Pt.slots, Q_rm15] at X8 l8 y8 z8 st8 hQ8
  subst l8 y8 z8
  rw [show (fMd rd4 dq) = dq from (by unfold fMd; rfl)] at hQ8
  obtain ⟨rfl, N8q, e8⟩ := hQ8
  have N8 := Fr.app N6 N8q
  refine Gz.tr st8 ?_
  refine Gz.iloadN 332 X8 hx (dd at_331) rfl rfl ?_
  refine Gz.icmpNo 335 X8 hx (dd at_332) (teq (rfl : dq = dq)).2 rfl ?_
  refine Gz.iconst 336 (1 : Int32) X8 hx (dd at_335) rfl rfl ?_
  refine Gz.goto 340 X8 hx (dd at_336) (by decide) (by decide) ?_
  refine Gz.fin X8 (v := some (.int (1 : Int32))) (fun h => by rw [hret] at h; cases h) hlk (by decide) (by decide) (fun fs hr => retN X8 hx (t := .boolean) hret (by simp) (dd at_340) hr) ?_
  exact ⟨rfl, N8⟩
theorem ef_rmSw_5_n (m : MethodId) (a0 : Addr) : entryFrame m #[(.ref a0)] 2 = mkF m 0 #[.val (.ref a0), .unset] [] := by first | (simp [entryFrame, mkF, argsToLocals, Value.category]; done) | rfl
def Q_rmSw_5_n (Z : State) (a0 : Addr) (ba : Addr) (md : Int32) (dp : Int32) (fi : Int32) (ts : Int32) (xs : Int32) (xe : Int32) (es : Int32) (as_ : Int32) (ig : Int32) (k_ba : ClassId) (h0 : Heap) (n0 : Nat) (v : Option Value) (h : Heap) (L : List Loc) : Prop := v = some (.int (91 : Int32)) ∧ Fr n0 L ∧ Keep h0 h [a0] ∧ Exa Z h a0 cs0 ∧ Fld Z h a0 cs0 "bytes" "[B" (.ref ba) ∧ Fld Z h a0 cs0 "maxDepth" "I" (.int md) ∧ Fld Z h a0 cs0 "position" "I" (.int (5 : Int32)) ∧ Fld Z h a0 cs0 "depth" "I" (.int dp) ∧ Fld Z h a0 cs0 "first" "Z" (.int fi) ∧ Fld Z h a0 cs0 "token" "Lcom/example/bad_status/badstatus/model/JsonReader$Token;" .null ∧ Fld Z h a0 cs0 "tokenStart" "I" (.int ts) ∧ Fld Z h a0 cs0 "textStart" "I" (.int xs) ∧ Fld Z h a0 cs0 "textEnd" "I" (.int xe) ∧ Fld Z h a0 cs0 "escaped" "Z" (.int es) ∧ Fld Z h a0 cs0 "ascii" "Z" (.int as_) ∧ Fld Z h a0 cs0 "integral" "Z" (.int ig)
set_option maxRecDepth 65536 in
set_option maxHeartbeats 40000000 in
theorem rmSw_5_n (l : Launch) (Z : State) (av0 : Array Value) (hw : ∀ d ∈ tables_1, d.before av0 Z = true) (ws : List Jvm.Cond) (a0 : Addr) (ba : Addr) (md : Int32) (dp : Int32) (fi : Int32) (ts : Int32) (xs : Int32) (xe : Int32) (es : Int32) (as_ : Int32) (ig : Int32) (k_ba : ClassId) (h0 : Heap) (n0 : Nat) (Z0 : n0 ≤ h0.size) (E_a0 : Exa Z h0 a0 cs0) (F_bytes_a0 : Fld Z h0 a0 cs0 "bytes" "[B" (.ref ba)) (F_maxDepth_a0 : Fld Z h0 a0 cs0 "maxDepth" "I" (.int md)) (F_position_a0 : Fld Z h0 a0 cs0 "position" "I" (.int (5 : Int32))) (F_depth_a0 : Fld Z h0 a0 cs0 "depth" "I" (.int dp)) (F_first_a0 : Fld Z h0 a0 cs0 "first" "Z" (.int fi)) (F_token_a0 : Fld Z h0 a0 cs0 "token" "Lcom/example/bad_status/badstatus/model/JsonReader$Token;" .null) (F_tokenStart_a0 : Fld Z h0 a0 cs0 "tokenStart" "I" (.int ts)) (F_textStart_a0 : Fld Z h0 a0 cs0 "textStart" "I" (.int xs)) (F_textEnd_a0 : Fld Z h0 a0 cs0 "textEnd" "I" (.int xe)) (F_escaped_a0 : Fld Z h0 a0 cs0 "escaped" "Z" (.int es)) (F_ascii_a0 : Fld Z h0 a0 cs0 "ascii" "Z" (.int as_)) (F_integral_a0 : Fld Z h0 a0 cs0 "integral" "Z" (.int ig)) (g_a0 : n0 ≤ a0) (V_ba : Arv Z h0 ba k_ba .byte (10 : Int32) [(.int (91 : Int32)), (.int (32 : Int32)), (.int (52 : Int32)), (.int (50 : Int32)), (.int (44 : Int32)), (.int (91 : Int32)), (.int (116 : Int32)), (.int (114 : Int32)), (.int (117 : Int32)), (.int (101 : Int32))] (.int (0 : Int32))) (ne_ba_a0 : ba ≠ a0) :
    MetFree l (⟨cs0, "skipWhitespace", "()I"⟩ : MethodName) (head1 (Jvm.Cond.code (⟨cs0, "skipWhitespace", "()I"⟩ : MethodName) prog_11_method_14_code 2 (some .int) :: ws) ({ frames := 1, cells := 0, slots := 0, locals := 12 } : Room)) (fun a U => a = #[(.ref a0)] ∧ Z.Warmed39 U.vm ∧ U.heap = h0) (fun _ _ _ _ _ => True) (fun _ U o U' => ∃ v L, o = .returned v ∧ Q_rmSw_5_n Z a0 ba md dp fi ts xs xe es as_ ig k_ba h0 n0 v U'.heap L ∧ FrameEnd U o U' L ({ frames := 1, cells := 0, slots := 0, locals := 12 } : Room).cells ({ frames := 1, cells := 0, slots := 0, locals := 12 } : Room).slots) := by
  refine MetFree.of_bodySF (plainFor_of_name pn_0) hisR ?_
  intro p e s m args below meth c s₁ Bd hml0 hP hK
  obtain ⟨rfl, hZ, hh⟩ := hP
  have hx := Bd.exec
  have hby := Bd.bytes
  have hml : c.maxLocals = 2 := hml0
  have dd : ∀ {pc : Nat} {r : Except DecodeError (Instr × Nat)}, decode prog_11_method_14_code pc = r → decode c.code pc = r := fun q => hb hby q
  have hown : s.vm.findClass cs0 = some m.cls := findClass_of_methodNamed Bd.named
  have hnm := (name_of_methodNamed Bd.named Bd.method).1
  have X0 : Stand p l e ({ frames := 1, cells := 0, slots := 0, locals := 12 } : Room) s m #[(.ref a0)] below meth c s₁ [] 0 0 := Stand.of_body Bd
  have e0 : s₁.heap = h0 := by rw [← hh, Bd.state]; rfl
  have N0 := Fr.nil n0
  have hret := Bd.returns
  have hlk := Bd.notSynchronized
  show Gz p e below s ({ frames := 1, cells := 0, slots := 0, locals := 12 } : Room).cells ({ frames := 1, cells := 0, slots := 0, locals := 12 } : Room).slots (Q_rmSw_5_n Z a0 ba md dp fi ts xs xe es as_ ig k_ba h0 n0) (s₁.setTop (entryFrame m #[(.ref a0)] 2))
  refine Gz.enter (ef_rmSw_5_n m a0) ?_
  refine Gz.aloadN 1 X0 hx (dd d4_0) rfl rfl rfl ?_
  refine Gz.getF 4 X0 hx hZ hown (dd d4_1) (host := "") (Or.inl (ww hw 24 rfl)) Via.refl e0 F_position_a0 rfl fun T1 X1 e1 => ?_
  refine Gz.istoreN 5 #[.val (.ref a0), .val (.int (5 : Int32))] X1 hx (dd d4_4) rfl rfl ?_
  refine Gz.iloadN 6 X1 hx (dd d4_5) rfl rfl ?_
  refine Gz.aloadN 7 X1 hx (dd d4_6) rfl rfl rfl ?_
  refine Gz.getF 10 X1 hx hZ hown (dd d4_7) (host := "") (Or.inl (ww hw 22 rfl)) Via.refl e1 F_bytes_a0 rfl fun T2 X2 e2 => ?_
  obtain ⟨c3, A3, -, S3, N3, -, -⟩ := id V_ba
  refine Gz.alen 11 X2 hx hZ (dd d4_10) e2 A3 S3 N3 rfl ?_
  refine Gz.icmpNo 14 X2 hx (dd d4_11) (tlt (by decide : (5 : Int32) < (10 : Int32))).2.1 rfl ?_
  refine Gz.aloadN 15 X2 hx (dd d4_14) rfl rfl rfl ?_
  refine Gz.getF 18 X2 hx hZ hown (dd d4_15) (host := "") (Or.inl (ww hw 22 rfl)) Via.refl e2 F_bytes_a0 rfl fun T4 X4 e4 => ?_
  refine Gz.iloadN 19 X4 hx (dd d4_18) rfl rfl ?_
  obtain ⟨c5, A5, q5, S5, N5, H5, G5⟩ := id V_ba
  have hin5 : ¬ ((5 : Int32) < 0 ∨ c5.slots.size ≤ ((5 : Int32)).toNatClampNeg) := inb_of S5 ⟨by decide, by decide⟩
  refine Gz.ldB 20 X4 hx hZ (dd d4_19) e4 A5 hin5 (Has.at H5 hin5 (rfl : _ = ((.int (91 : Int32)) : Value))) rfl ?_
  obtain ⟨_, _, ⟨T6, L6, k6, n6⟩, -, X6, ⟨Lc6, hQ6, l6, y6, z6⟩, st6⟩ := Jvm.LawKit.callS X4 hx (y := ym6) hown (mvT hZ (ww hw 37 rfl)) (mvT hZ (ww hw 38 rfl)) (mvT hZ (ww hw 15 rfl)) (mvT hZ (ww hw 39 rfl)) (by decide) (backOf (W := 0) (rm5 l Z av0 hw [] (91 : Int32)  h0 n0 Z0 ) hZ (ww hw 39 rfl) (ww hw 15 rfl) (by decide) (by decide)) (g := (mkF m 20 #[.val (.ref a0), .val (.int (5 : Int32))] [(.int (91 : Int32))])) rfl (by rw [hml]; rfl) (argsL := [(.int (91 : Int32))]) (rest := []) (lenOf pd_6 rfl) rfl (Nat.le_refl _) (dd d4_20) (fun _ _ => ⟨rfl, e4, (by decide : 0 + 0 ≤ _), (by decide : 0 + 0 ≤ _)⟩)
  dsimp only [Pt.U, Pt.locs, Pt.cells, Pt.slots, Q_rm5] at X6 l6 y6 z6 st6 hQ6
  subst l6 y6 z6
  rw [show (fWs (91 : Int32)) = (0 : Int32) from (by unfold fWs; rw [if_pos (by decide : (32 : Int32) < (91 : Int32))]; try decide)] at hQ6
  obtain ⟨rfl, N6q, e6⟩ := hQ6
  have N6 := Fr.app N0 N6q
  refine Gz.st st6 ?_
  refine Gz.ifYes 32 X6 hx (dd d4_23) ((if0 _ _).trans (teq (by decide : (0 : Int32) = (0 : Int32))).1) (by decide) (by decide) ?_
  refine Gz.aloadN 33 X6 hx (dd d4_32) rfl rfl rfl ?_
  refine Gz.iloadN 34 X6 hx (dd d4_33) rfl rfl ?_
  refine Gz.putF 37 X6 hx hZ hown .int (dd d4_34) (host := "") (Or.inl (ww hw 24 rfl)) Via.refl e6 F_position_a0 E_a0 (Or.inl (ww hw 25 rfl)) (ww hw 14 rfl) (by decide) rfl rfl rfl fun T7 h7 X7 e7 W7 => ?_
  have f7_E_a0 := Exa.wr W7 E_a0
  have f7_F_bytes_a0 := Fld.other W7 F_bytes_a0 (Or.inr (Ne.symm <| sn1 hw))
  have f7_F_maxDepth_a0 := Fld.other W7 F_maxDepth_a0 (Or.inr (sn11 hw))
  have f7_F_depth_a0 := Fld.other W7 F_depth_a0 (Or.inr (sn12 hw))
  have f7_F_first_a0 := Fld.other W7 F_first_a0 (Or.inr (sn13 hw))
  have f7_F_token_a0 := Fld.other W7 F_token_a0 (Or.inr (sn14 hw))
  have f7_F_tokenStart_a0 := Fld.other W7 F_tokenStart_a0 (Or.inr (sn15 hw))
  have f7_F_textStart_a0 := Fld.other W7 F_textStart_a0 (Or.inr (sn16 hw))
  have f7_F_textEnd_a0 := Fld.other W7 F_textEnd_a0 (Or.inr (sn17 hw))
  have f7_F_escaped_a0 := Fld.other W7 F_escaped_a0 (Or.inr (sn18 hw))
  have f7_F_ascii_a0 := Fld.other W7 F_ascii_a0 (Or.inr (sn19 hw))
  have f7_F_integral_a0 := Fld.other W7 F_integral_a0 (Or.inr (sn20 hw))
  have f7_V_ba := Arv.other V_ba W7 ne_ba_a0
  have f7_F_position_a0 := Fld.same W7 F_position_a0
  have N7 := Fr.snoc X7 N6 g_a0
  have SZ7 : n0 ≤ h7.size := Nat.le_trans Z0 (Keep.of_wr W7).1
  have K7 := Keep.wr (Keep.refl h0 [a0]) W7 (Or.inl (List.mem_of_getElem? (i := 0) rfl))
  refine Gz.iloadN 38 X7 hx (dd d4_37) rfl rfl ?_
  refine Gz.aloadN 39 X7 hx (dd d4_38) rfl rfl rfl ?_
  refine Gz.getF 42 X7 hx hZ hown (dd d4_39) (host := "") (Or.inl (ww hw 22 rfl)) Via.refl e7 f7_F_bytes_a0 rfl fun T8 X8 e8 => ?_
  obtain ⟨c9, A9, -, S9, N9, -, -⟩ := id f7_V_ba
  refine Gz.alen 43 X8 hx hZ (dd d4_42) e8 A9 S9 N9 rfl ?_
  refine Gz.icmpNo 46 X8 hx (dd d4_43) (tlt (by decide : (5 : Int32) < (10 : Int32))).2.1 rfl ?_
  refine Gz.aloadN 47 X8 hx (dd d4_46) rfl rfl rfl ?_
  refine Gz.getF 50 X8 hx hZ hown (dd d4_47) (host := "") (Or.inl (ww hw 22 rfl)) Via.refl e8 f7_F_bytes_a0 rfl fun T10 X10 e10 => ?_
  refine Gz.iloadN 51 X10 hx (dd d4_50) rfl rfl ?_
  obtain ⟨c11, A11, q11, S11, N11, H11, G11⟩ := id f7_V_ba
  have hin11 : ¬ ((5 : Int32) < 0 ∨ c11.slots.size ≤ ((5 : Int32)).toNatClampNeg) := inb_of S11 ⟨by decide, by decide⟩
  refine Gz.ldB 52 X10 hx hZ (dd d4_51) e10 A11 hin11 (Has.at H11 hin11 (rfl : _ = ((.int (91 : Int32)) : Value))) rfl ?_
  refine Gz.sipush 55 (255 : Int32) X10 hx (dd d4_52) rfl rfl ?_
  refine Gz.iandV 56 (91 : Int32) X10 hx (dd d4_55) rfl rfl ?_
  refine Gz.goto 60 X10 hx (dd d4_56) (by decide) (by decide) ?_
  refine Gz.fin X10 (v := some (.int (91 : Int32))) (fun h => by rw [hret] at h; cases h) hlk (by decide) (by decide) (fun fs hr => retI X10 hx hret (dd d4_60) hr) ?_
  rw [e10]
  exact ⟨rfl, N7, K7, f7_E_a0, f7_F_bytes_a0, f7_F_maxDepth_a0, f7_F_position_a0, f7_F_depth_a0, f7_F_first_a0, f7_F_token_a0, f7_F_tokenStart_a0, f7_F_textStart_a0, f7_F_textEnd_a0, f7_F_escaped_a0, f7_F_ascii_a0, f7_F_integral_a0⟩
theorem ef_rmNx_5_n (m : MethodId) (a0 : Addr) : entryFrame m #[(.ref a0)] 3 = mkF m 0 #[.val (.ref a0), .unset, .unset] [] := by first | (simp [entryFrame, mkF, argsToLocals, Value.category]; done) | rfl
def Q_rmNx_5_n (Z : State) (a0 : Addr) (ba : Addr) (md : Int32) (dp : Int32) (fi : Int32) (ts : Int32) (xs : Int32) (xe : Int32) (es : Int32) (as_ : Int32) (ig : Int32) (k_ba : ClassId) (s_ARRAY : Addr) (h0 : Heap) (n0 : Nat) (v : Option Value) (h : Heap) (L : List Loc) : Prop := v = some (.ref s_ARRAY) ∧ Fr n0 L ∧ Keep h0 h [a0] ∧ Exa Z h a0 cs0 ∧ Fld Z h a0 cs0 "bytes" "[B" (.ref ba) ∧ Fld Z h a0 cs0 "maxDepth" "I" (.int md) ∧ Fld Z h a0 cs0 "position" "I" (.int (6 : Int32)) ∧ Fld Z h a0 cs0 "depth" "I" (.int (dp + (1 : Int32))) ∧ Fld Z h a0 cs0 "first" "Z" (.int (1 : Int32)) ∧ Fld Z h a0 cs0 "token" "Lcom/example/bad_status/badstatus/model/JsonReader$Token;" (.ref s_ARRAY) ∧ Fld Z h a0 cs0 "tokenStart" "I" (.int (5 : Int32)) ∧ Fld Z h a0 cs0 "textStart" "I" (.int xs) ∧ Fld Z h a0 cs0 "textEnd" "I" (.int xe) ∧ Fld Z h a0 cs0 "escaped" "Z" (.int es) ∧ Fld Z h a0 cs0 "ascii" "Z" (.int as_) ∧ Fld Z h a0 cs0 "integral" "Z" (.int ig)
set_option maxRecDepth 65536 in
set_option maxHeartbeats 40000000 in
theorem rmNx_5_n (l : Launch) (Z : State) (av0 : Array Value) (hw : ∀ d ∈ tables_1, d.before av0 Z = true) (ws : List Jvm.Cond) (a0 : Addr) (ba : Addr) (md : Int32) (dp : Int32) (fi : Int32) (ts : Int32) (xs : Int32) (xe : Int32) (es : Int32) (as_ : Int32) (ig : Int32) (k_ba : ClassId) (s_ARRAY : Addr) (h0 : Heap) (n0 : Nat) (Z0 : n0 ≤ h0.size) (E_a0 : Exa Z h0 a0 cs0) (F_bytes_a0 : Fld Z h0 a0 cs0 "bytes" "[B" (.ref ba)) (F_maxDepth_a0 : Fld Z h0 a0 cs0 "maxDepth" "I" (.int md)) (F_position_a0 : Fld Z h0 a0 cs0 "position" "I" (.int (5 : Int32))) (F_depth_a0 : Fld Z h0 a0 cs0 "depth" "I" (.int dp)) (F_first_a0 : Fld Z h0 a0 cs0 "first" "Z" (.int fi)) (F_token_a0 : Fld Z h0 a0 cs0 "token" "Lcom/example/bad_status/badstatus/model/JsonReader$Token;" .null) (F_tokenStart_a0 : Fld Z h0 a0 cs0 "tokenStart" "I" (.int ts)) (F_textStart_a0 : Fld Z h0 a0 cs0 "textStart" "I" (.int xs)) (F_textEnd_a0 : Fld Z h0 a0 cs0 "textEnd" "I" (.int xe)) (F_escaped_a0 : Fld Z h0 a0 cs0 "escaped" "Z" (.int es)) (F_ascii_a0 : Fld Z h0 a0 cs0 "ascii" "Z" (.int as_)) (F_integral_a0 : Fld Z h0 a0 cs0 "integral" "Z" (.int ig)) (g_a0 : n0 ≤ a0) (V_ba : Arv Z h0 ba k_ba .byte (10 : Int32) [(.int (91 : Int32)), (.int (32 : Int32)), (.int (52 : Int32)), (.int (50 : Int32)), (.int (44 : Int32)), (.int (91 : Int32)), (.int (116 : Int32)), (.int (114 : Int32)), (.int (117 : Int32)), (.int (101 : Int32))] (.int (0 : Int32))) (ne_ba_a0 : ba ≠ a0) (S_s_ARRAY : Sta Z h0 cs1 "ARRAY" "Lcom/example/bad_status/badstatus/model/JsonReader$Token;" (.ref s_ARRAY)) (hdm : ¬ (dp = md)) :
    MetFree l (⟨cs0, "next", "()Lcom/example/bad_status/badstatus/model/JsonReader$Token;"⟩ : MethodName) (head1 (Jvm.Cond.code (⟨cs0, "next", "()Lcom/example/bad_status/badstatus/model/JsonReader$Token;"⟩ : MethodName) prog_11_method_2_code 3 (some (.object cs1)) :: ws) ({ frames := 2, cells := 0, slots := 0, locals := 25 } : Room)) (fun a U => a = #[(.ref a0)] ∧ Z.Warmed39 U.vm ∧ U.heap = h0) (fun _ _ _ _ _ => True) (fun _ U o U' => ∃ v L, o = .returned v ∧ Q_rmNx_5_n Z a0 ba md dp fi ts xs xe es as_ ig k_ba s_ARRAY h0 n0 v U'.heap L ∧ FrameEnd U o U' L ({ frames := 2, cells := 0, slots := 0, locals := 25 } : Room).cells ({ frames := 2, cells := 0, slots := 0, locals := 25 } : Room).slots) := by
  refine MetFree.of_bodySF (plainFor_of_name pn_0) hisR ?_
  intro p e s m args below meth c s₁ Bd hml0 hP hK
  obtain ⟨rfl, hZ, hh⟩ := hP
  have hx := Bd.exec
  have hby := Bd.bytes
  have hml : c.maxLocals = 3 := hml0
  have dd : ∀ {pc : Nat} {r : Except DecodeError (Instr × Nat)}, decode prog_11_method_2_code pc = r → decode c.code pc = r := fun q => hb hby q
  have hown : s.vm.findClass cs0 = some m.cls := findClass_of_methodNamed Bd.named
  have hnm := (name_of_methodNamed Bd.named Bd.method).1
  have X0 : Stand p l e ({ frames := 2, cells := 0, slots := 0, locals := 25 } : Room) s m #[(.ref a0)] below meth c s₁ [] 0 0 := Stand.of_body Bd
  have e0 : s₁.heap = h0 := by rw [← hh, Bd.state]; rfl
  have N0 := Fr.nil n0
  have hret := Bd.returns
  have hlk := Bd.notSynchronized
  show Gz p e below s ({ frames := 2, cells := 0, slots := 0, locals := 25 } : Room).cells ({ frames := 2, cells := 0, slots := 0, locals := 25 } : Room).slots (Q_rmNx_5_n Z a0 ba md dp fi ts xs xe es as_ ig k_ba s_ARRAY h0 n0) (s₁.setTop (entryFrame m #[(.ref a0)] 3))
  refine Gz.enter (ef_rmNx_5_n m a0) ?_
  refine Gz.aloadN 1 X0 hx (dd d3_0) rfl rfl rfl ?_
  obtain ⟨cq1, q1, q1'⟩ := E_a0.cell
  obtain ⟨_, _, ⟨T1, L1, k1, n1⟩, -, X1, ⟨Lc1, hQ1, l1, y1, z1⟩, st1⟩ := X0.privateBack hx (y := ym7) hown (mvT hZ (ww hw 33 rfl)) (mvT hZ (ww hw 34 rfl)) (own_selp (y := ym7) (y' := ym8) rfl (mvT hZ (ww hw 31 rfl)) (mvT hZ (ww hw 30 rfl)) (mvT hZ (ww hw 34 rfl)) (Cond.privateMethod_at (mvP hZ (ww hw 35 rfl) (args := #[]))) (by decide)) (Cond.privateMethod_at (mvP hZ (ww hw 35 rfl) (args := #[]))) (mvT hZ (ww hw 36 rfl)) (by decide) (backOf (W := 0) (rmSw_5_n l Z av0 hw [] a0 ba md dp fi ts xs xe es as_ ig k_ba h0 n0 Z0 E_a0 F_bytes_a0 F_maxDepth_a0 F_position_a0 F_depth_a0 F_first_a0 F_token_a0 F_tokenStart_a0 F_textStart_a0 F_textEnd_a0 F_escaped_a0 F_ascii_a0 F_integral_a0 g_a0 V_ba ne_ba_a0) hZ (ww hw 36 rfl) (ww hw 15 rfl) (by decide) (by decide)) (g := (mkF m 1 #[.val (.ref a0), .unset, .unset] [(.ref a0)])) rfl (by rw [hml]; rfl) (Steps.refl _) (a := a0) (by rw [e0]; exact q1) q1' (argsL := []) (rest := []) (lenOf pd_5 rfl) rfl (Nat.le_refl _) (dd d3_1) (fun _ _ => ⟨rfl, e0, (by decide : 0 + 0 ≤ _), (by decide : 0 + 0 ≤ _)⟩)
  dsimp only [Pt.U, Pt.locs, Pt.cells, Pt.slots, Q_rmSw_5_n] at X1 l1 y1 z1 st1 hQ1
  subst l1 y1 z1
  obtain ⟨rfl, N1q, K1q, QE1_0, QF1_0, QF1_1, QF1_2, QF1_3, QF1_4, QF1_5, QF1_6, QF1_7, QF1_8, QF1_9, QF1_10, QF1_11⟩ := hQ1
  have N1 := Fr.app N0 N1q
  have f1_E_a0 := Exa.keep E_a0 K1q
  have f1_V_ba := Arv.keep V_ba K1q (ninS ne_ba_a0 nin0)
  have f1_S_s_ARRAY := own_staK S_s_ARRAY K1q (allS (nst_of E_a0) all0)
  have SZ1 := Nat.le_trans Z0 K1q.1
  have K1 := Keep.trans (Keep.refl h0 [a0]) K1q (allS (Or.inl (List.mem_of_getElem? (i := 0) rfl)) all0)
  refine Gz.tr st1 ?_
  refine Gz.istoreN 5 #[.val (.ref a0), .val (.int (91 : Int32)), .unset] X1 hx (dd d3_4) rfl rfl ?_
  refine Gz.aloadN 6 X1 hx (dd d3_5) rfl rfl rfl ?_
  refine Gz.aloadN 7 X1 hx (dd d3_6) rfl rfl rfl ?_
  refine Gz.getF 10 X1 hx hZ hown (dd d3_7) (host := "") (Or.inl (ww hw 24 rfl)) Via.refl rfl QF1_2 rfl fun T2 X2 e2 => ?_
  refine Gz.putF 13 X2 hx hZ hown .int (dd d3_10) (host := "") (Or.inl (ww hw 40 rfl)) Via.refl e2 QF1_6 QE1_0 (Or.inl (ww hw 41 rfl)) (ww hw 14 rfl) (by decide) rfl rfl rfl fun T3 h3 X3 e3 W3 => ?_
  have f3_E_a0 := Exa.wr W3 QE1_0
  have f3_V_ba := Arv.other f1_V_ba W3 ne_ba_a0
  have f3_S_s_ARRAY := Sta.wr W3 f1_S_s_ARRAY
  have f3_F_bytes_a0 := Fld.other W3 QF1_0 (Or.inr (Ne.symm <| sn5 hw))
  have f3_F_maxDepth_a0 := Fld.other W3 QF1_1 (Or.inr (Ne.symm <| sn24 hw))
  have f3_F_position_a0 := Fld.other W3 QF1_2 (Or.inr (Ne.symm <| sn15 hw))
  have f3_F_depth_a0 := Fld.other W3 QF1_3 (Or.inr (sn31 hw))
  have f3_F_first_a0 := Fld.other W3 QF1_4 (Or.inr (sn32 hw))
  have f3_F_token_a0 := Fld.other W3 QF1_5 (Or.inr (sn33 hw))
  have f3_F_textStart_a0 := Fld.other W3 QF1_7 (Or.inr (sn34 hw))
  have f3_F_textEnd_a0 := Fld.other W3 QF1_8 (Or.inr (sn35 hw))
  have f3_F_escaped_a0 := Fld.other W3 QF1_9 (Or.inr (sn36 hw))
  have f3_F_ascii_a0 := Fld.other W3 QF1_10 (Or.inr (sn37 hw))
  have f3_F_integral_a0 := Fld.other W3 QF1_11 (Or.inr (sn38 hw))
  have f3_F_tokenStart_a0 := Fld.same W3 QF1_6
  have N3 := Fr.snoc X3 N1 g_a0
  have SZ3 : n0 ≤ h3.size := Nat.le_trans SZ1 (Keep.of_wr W3).1
  have K3 := Keep.wr K1 W3 (Or.inl (List.mem_of_getElem? (i := 0) rfl))
  refine Gz.iloadN 14 X3 hx (dd d3_13) rfl rfl ?_
  refine Gz.st (fun t k => X3.lookupswitchHit hx (g := (mkF m 14 #[.val (.ref a0), .val (.int (91 : Int32)), .unset] [(.int (91 : Int32))])) rfl (k := (91 : Int32)) (rest := []) rfl (dd d3_14) (by decide) (a := 91) (off := 69) (by decide) (by show (0 : Int) ≤ ((14 : Nat) : Int) + 69; decide) t k) ?_
  show Gz p e below s _ _ _ (T3.setTop (mkF m 83 #[.val (.ref a0), .val (.int (91 : Int32)), .unset] []))
  refine Gz.aloadN 84 X3 hx (dd d3_83) rfl rfl rfl ?_
  refine Gz.getS 87 X3 hx hZ hown (dd d3_84) (host := "") (Or.inl (ww hw 42 rfl)) Via.refl e3 f3_S_s_ARRAY rfl fun T4 X4 e4 => ?_
  obtain ⟨cq5, q5, q5'⟩ := f3_E_a0.cell
  obtain ⟨_, _, ⟨T5, L5, k5, n5⟩, -, X5, ⟨Lc5, hQ5, l5, y5, z5⟩, st5⟩ := X4.privateBack hx (y := ym9) hown (mvT hZ (ww hw 43 rfl)) (mvT hZ (ww hw 44 rfl)) (own_selp (y := ym9) (y' := ym8) rfl (mvT hZ (ww hw 31 rfl)) (mvT hZ (ww hw 30 rfl)) (mvT hZ (ww hw 44 rfl)) (Cond.privateMethod_at (mvP hZ (ww hw 45 rfl) (args := #[]))) (by decide)) (Cond.privateMethod_at (mvP hZ (ww hw 45 rfl) (args := #[]))) (mvT hZ (ww hw 46 rfl)) (by decide) (backOf (W := 0) (rmOp_n l Z av0 hw [] a0 s_ARRAY ba md (5 : Int32) dp fi (5 : Int32) xs xe es as_ ig k_ba h3 n0 SZ3 f3_E_a0 f3_F_bytes_a0 f3_F_maxDepth_a0 f3_F_position_a0 f3_F_depth_a0 f3_F_first_a0 f3_F_token_a0 f3_F_tokenStart_a0 f3_F_textStart_a0 f3_F_textEnd_a0 f3_F_escaped_a0 f3_F_ascii_a0 f3_F_integral_a0 g_a0 f3_V_ba ne_ba_a0 (hdm : ¬ (dp = md))) hZ (ww hw 46 rfl) (ww hw 15 rfl) (by decide) (by decide)) (g := (mkF m 87 #[.val (.ref a0), .val (.int (91 : Int32)), .unset] [(.ref s_ARRAY), (.ref a0)])) rfl (by rw [hml]; rfl) (Steps.refl _) (a := a0) (by rw [e4]; exact q5) q5' (argsL := [(.ref s_ARRAY)]) (rest := []) (lenOf pd_7 rfl) rfl (Nat.le_refl _) (dd d3_87) (fun _ _ => ⟨rfl, e4, (by decide : 0 + 0 ≤ _), (by decide : 0 + 0 ≤ _)⟩)
  dsimp only [Pt.U, Pt.locs, Pt.cells, Pt.slots, Q_rmOp_n] at X5 l5 y5 z5 st5 hQ5
  subst l5 y5 z5
  obtain ⟨rfl, N5q, K5q, QE5_0, QF5_0, QF5_1, QF5_2, QF5_3, QF5_4, QF5_5, QF5_6, QF5_7, QF5_8, QF5_9, QF5_10, QF5_11⟩ := hQ5
  have N5 := Fr.app N3 N5q
  have f5_E_a0 := Exa.keep f3_E_a0 K5q
  have f5_V_ba := Arv.keep f3_V_ba K5q (ninS ne_ba_a0 nin0)
  have f5_S_s_ARRAY := own_staK f3_S_s_ARRAY K5q (allS (nst_of f3_E_a0) all0)
  have SZ5 := Nat.le_trans SZ3 K5q.1
  have K5 := Keep.trans K3 K5q (allS (Or.inl (List.mem_of_getElem? (i := 0) rfl)) all0)
  replace QF5_2 : Fld Z T5.heap a0 cs0 "position" "I" (.int (6 : Int32)) := QF5_2
  refine Gz.tr st5 ?_
  refine Gz.astoreN 91 #[.val (.ref a0), .val (.int (91 : Int32)), .val (.ref s_ARRAY)] X5 hx (dd d3_90) rfl rfl rfl ?_
  refine Gz.goto 173 X5 hx (dd d3_91) (by decide) (by decide) ?_
  refine Gz.aloadN 174 X5 hx (dd d3_173) rfl rfl rfl ?_
  refine Gz.aloadN 175 X5 hx (dd d3_174) rfl rfl rfl ?_
  refine Gz.putF 178 X5 hx hZ hown (.object cs1) (dd d3_175) (host := "") (Or.inl (ww hw 51 rfl)) Via.refl rfl QF5_5 QE5_0 (Or.inl (ww hw 52 rfl)) (ww hw 14 rfl) (by decide) rfl rfl rfl fun T6 h6 X6 e6 W6 => ?_
  have f6_E_a0 := Exa.wr W6 QE5_0
  have f6_V_ba := Arv.other f5_V_ba W6 ne_ba_a0
  have f6_S_s_ARRAY := Sta.wr W6 f5_S_s_ARRAY
  have f6_F_bytes_a0 := Fld.other W6 QF5_0 (Or.inr (Ne.symm <| sn4 hw))
  have f6_F_maxDepth_a0 := Fld.other W6 QF5_1 (Or.inr (Ne.symm <| sn23 hw))
  have f6_F_position_a0 := Fld.other W6 QF5_2 (Or.inr (Ne.symm <| sn14 hw))
  have f6_F_depth_a0 := Fld.other W6 QF5_3 (Or.inr (Ne.symm <| sn40 hw))
  have f6_F_first_a0 := Fld.other W6 QF5_4 (Or.inr (Ne.symm <| sn46 hw))
  have f6_F_tokenStart_a0 := Fld.other W6 QF5_6 (Or.inr (Ne.symm <| sn33 hw))
  have f6_F_textStart_a0 := Fld.other W6 QF5_7 (Or.inr (sn52 hw))
  have f6_F_textEnd_a0 := Fld.other W6 QF5_8 (Or.inr (sn53 hw))
  have f6_F_escaped_a0 := Fld.other W6 QF5_9 (Or.inr (sn54 hw))
  have f6_F_ascii_a0 := Fld.other W6 QF5_10 (Or.inr (sn55 hw))
  have f6_F_integral_a0 := Fld.other W6 QF5_11 (Or.inr (sn56 hw))
  have f6_F_token_a0 := Fld.same W6 QF5_5
  have N6 := Fr.snoc X6 N5 g_a0
  have SZ6 : n0 ≤ h6.size := Nat.le_trans SZ5 (Keep.of_wr W6).1
  have K6 := Keep.wr K5 W6 (Or.inl (List.mem_of_getElem? (i := 0) rfl))
  refine Gz.aloadN 179 X6 hx (dd d3_178) rfl rfl rfl ?_
  refine Gz.fin X6 (v := some (.ref s_ARRAY)) (fun h => by rw [hret] at h; cases h) hlk (by decide) (by decide) (fun fs hr => retA X6 hx hret (dd d3_179) hr rfl rfl) ?_
  rw [e6]
  exact ⟨rfl, N6, K6, f6_E_a0, f6_F_bytes_a0, f6_F_maxDepth_a0, f6_F_position_a0, f6_F_depth_a0, f6_F_first_a0, f6_F_token_a0, f6_F_tokenStart_a0, f6_F_textStart_a0, f6_F_textEnd_a0, f6_F_escaped_a0, f6_F_ascii_a0, f6_F_integral_a0⟩
set_option maxRecDepth 65536 in
set_option maxHeartbeats 40000000 in
theorem sgC4 {p : Program} {l : Launch} {e : Env} {s : State} {m : MethodId} {args : Array Value} {below : List Frame} {meth : Method} {c : Code} {T0 : State} {locs : List Loc} {Z : State} {av0 : Array Value} {hS : Heap} (s0 : Slot) (dq : Int32) (s2 : Slot) (s3 : Slot) (s4 : Slot) (ast : Addr) (aks : Addr) (s8 : Slot) (s9 : Slot) (rd : Addr) (st_OBJECT : Addr) (st_ARRAY : Addr) (st_NUMBER : Addr) (st_TRUE : Addr) (tb : Addr) (k_tb : ClassId) (ba : Addr) (md : Int32) (fi : Int32) (ts : Int32) (xs : Int32) (xe : Int32) (es : Int32) (as_ : Int32) (ig : Int32) (k_ba : ClassId) (k_ast : ClassId) (k_aks : ClassId) (n0 : Nat)
    (X0 : Stand p l e room_1 s m args below meth c T0 locs 6 42) (hx : p.tables.exec = Jvm.exec) (hZ : Z.Warmed39 s.vm) (hw : ∀ d ∈ tables_1, d.before av0 Z = true) (hby : c.code = code) (hml : c.maxLocals = 15) (hown : s.vm.findClass "com/example/bad_status/badstatus/model/JsonReaderResetPinLaw" = some m.cls) (hret : meth.sig.returnType = some .boolean) (hlk : meth.locks = false) (e0 : T0.heap = hS) (N0 : Fr n0 locs) (Z0 : n0 ≤ hS.size) (S_st_OBJECT : Sta Z hS cs1 "OBJECT" "Lcom/example/bad_status/badstatus/model/JsonReader$Token;" (.ref st_OBJECT)) (S_st_ARRAY : Sta Z hS cs1 "ARRAY" "Lcom/example/bad_status/badstatus/model/JsonReader$Token;" (.ref st_ARRAY)) (S_st_NUMBER : Sta Z hS cs1 "NUMBER" "Lcom/example/bad_status/badstatus/model/JsonReader$Token;" (.ref st_NUMBER)) (S_st_TRUE : Sta Z hS cs1 "TRUE" "Lcom/example/bad_status/badstatus/model/JsonReader$Token;" (.ref st_TRUE)) (ne_st_OBJECT_st_ARRAY : st_OBJECT ≠ st_ARRAY) (ne_st_OBJECT_st_NUMBER : st_OBJECT ≠ st_NUMBER) (ne_st_OBJECT_st_TRUE : st_OBJECT ≠ st_TRUE) (ne_st_ARRAY_st_NUMBER : st_ARRAY ≠ st_NUMBER) (ne_st_ARRAY_st_TRUE : st_ARRAY ≠ st_TRUE) (S_tb : Sta Z hS cs0 "TRUE" "[B" (.ref tb)) (V_tb : Arv Z hS tb k_tb .byte (4 : Int32) [(.int (116 : Int32)), (.int (114 : Int32)), (.int (117 : Int32)), (.int (101 : Int32))] (.int (0 : Int32))) (E_rd : Exa Z hS rd cs0) (F_bytes_rd : Fld Z hS rd cs0 "bytes" "[B" (.ref ba)) (F_maxDepth_rd : Fld Z hS rd cs0 "maxDepth" "I" (.int md)) (F_position_rd : Fld Z hS rd cs0 "position" "I" (.int (5 : Int32))) (F_depth_rd : Fld Z hS rd cs0 "depth" "I" (.int dq)) (F_first_rd : Fld Z hS rd cs0 "first" "Z" (.int fi)) (F_token_rd : Fld Z hS rd cs0 "token" "Lcom/example/bad_status/badstatus/model/JsonReader$Token;" .null) (F_tokenStart_rd : Fld Z hS rd cs0 "tokenStart" "I" (.int ts)) (F_textStart_rd : Fld Z hS rd cs0 "textStart" "I" (.int xs)) (F_textEnd_rd : Fld Z hS rd cs0 "textEnd" "I" (.int xe)) (F_escaped_rd : Fld Z hS rd cs0 "escaped" "Z" (.int es)) (F_ascii_rd : Fld Z hS rd cs0 "ascii" "Z" (.int as_)) (F_integral_rd : Fld Z hS rd cs0 "integral" "Z" (.int ig)) (g_rd : n0 ≤ rd) (V_ba : Arv Z hS ba k_ba .byte (10 : Int32) [(.int (91 : Int32)), (.int (32 : Int32)), (.int (52 : Int32)), (.int (50 : Int32)), (.int (44 : Int32)), (.int (91 : Int32)), (.int (116 : Int32)), (.int (114 : Int32)), (.int (117 : Int32)), (.int (101 : Int32))] (.int (0 : Int32))) (ne_ba_rd : ba ≠ rd) (V_ast : Arv Z hS ast k_ast .int (6 : Int32) [(.int (0 : Int32)), (.int (2 : Int32)), (.int (2 : Int32)), (.int (3 : Int32)), (.int (5 : Int32)), (.int (6 : Int32))] (.int (0 : Int32))) (V_aks : Arv Z hS aks k_aks (.object cs1) (6 : Int32) [(.ref st_ARRAY), (.ref st_NUMBER), (.ref st_NUMBER), (.ref st_NUMBER), (.ref st_ARRAY), (.ref st_TRUE)] .null) (ne_ast_rd : ast ≠ rd) (ne_aks_rd : aks ≠ rd) (ne_tb_rd : tb ≠ rd) (hdm : ¬ (dq = md)) :
    Gz p e below s 24 192 (Q_law n0) (T0.setTop (mkF m 261 #[s0, .val (.int dq), s2, s3, s4, .val (.ref ast), .val (.ref aks), .val (.int (4 : Int32)), s8, s9, .val (.ref rd), .unset, .unset, .unset, .unset] [])) := by
  have dd : ∀ {pc : Nat} {r : Except DecodeError (Instr × Nat)}, decode code pc = r → decode c.code pc = r := fun q => hb hby q
  refine Gz.aload 263 X0 hx (dd at_261) rfl rfl rfl ?_
  obtain ⟨cq1, kq1, q1a, q1b, q1c⟩ := isOf hZ e0 E_rd
  obtain ⟨_, _, ⟨T1, L1, k1, n1⟩, -, X1, ⟨Lc1, hQ1, l1, y1, z1⟩, st1⟩ := X0.virtualBack hx (y := ym4) (z := ym4) hown (mvT hZ (ww hw 112 rfl)) (mvT hZ (ww hw 113 rfl)) (notFace_of_selects (args := #[]) (mvT hZ (ww hw 115 rfl))) (mvT hZ (ww hw 115 rfl)) (mvT hZ (ww hw 114 rfl)) (by decide) (backOf (W := 0) (rmMk_n l Z av0 hw [] rd st_OBJECT st_ARRAY dq ts hS n0 Z0 S_st_OBJECT S_st_ARRAY E_rd F_depth_rd F_token_rd F_tokenStart_rd) hZ (ww hw 116 rfl) (ww hw 15 rfl) (by decide) (by decide)) q1a q1c (g := (mkF m 263 #[s0, .val (.int dq), s2, s3, s4, .val (.ref ast), .val (.ref aks), .val (.int (4 : Int32)), s8, s9, .val (.ref rd), .unset, .unset, .unset, .unset] [(.ref rd)])) rfl (by rw [hml]; rfl) (Steps.refl _) (argsL := []) (rest := []) (lenOf pd_4 rfl) rfl (Nat.le_refl _) (dd at_263) (fun _ _ => ⟨rfl, e0, (by decide : 6 + 1 ≤ _), (by decide : 42 + 2 ≤ _)⟩)
  dsimp only [Pt.U, Pt.locs, Pt.cells, Pt.slots, Q_rmMk_n] at X1 l1 y1 z1 st1 hQ1
  subst l1 y1 z1
  obtain ⟨rd1, rfl, N1q, K1q, gr1, szr1, RE1, RP1, RD1⟩ := hQ1
  have N1 := Fr.app N0 N1q
  have ne_tb_rd1 : tb ≠ rd1 := Nat.ne_of_lt (Nat.lt_of_lt_of_le (V_tb).lt szr1)
  have ne_rd_rd1 : rd ≠ rd1 := Nat.ne_of_lt (Nat.lt_of_lt_of_le (F_integral_rd).lt szr1)
  have ne_ba_rd1 : ba ≠ rd1 := Nat.ne_of_lt (Nat.lt_of_lt_of_le (V_ba).lt szr1)
  have ne_ast_rd1 : ast ≠ rd1 := Nat.ne_of_lt (Nat.lt_of_lt_of_le (V_ast).lt szr1)
  have ne_aks_rd1 : aks ≠ rd1 := Nat.ne_of_lt (Nat.lt_of_lt_of_le (V_aks).lt szr1)
  have f1_S_st_OBJECT := own_staK S_st_OBJECT K1q all0
  have f1_S_st_ARRAY := own_staK S_st_ARRAY K1q all0
  have f1_S_st_NUMBER := own_staK S_st_NUMBER K1q all0
  have f1_S_st_TRUE := own_staK S_st_TRUE K1q all0
  have f1_S_tb := own_staK S_tb K1q all0
  have f1_V_tb := Arv.keep V_tb K1q nin0
  have f1_E_rd := Exa.keep E_rd K1q
  have f1_F_bytes_rd := Fld.keep F_bytes_rd K1q nin0
  have f1_F_maxDepth_rd := Fld.keep F_maxDepth_rd K1q nin0
  have f1_F_position_rd := Fld.keep F_position_rd K1q nin0
  have f1_F_depth_rd := Fld.keep F_depth_rd K1q nin0
  have f1_F_first_rd := Fld.keep F_first_rd K1q nin0
  have f1_F_token_rd := Fld.keep F_token_rd K1q nin0
  have f1_F_tokenStart_rd := Fld.keep F_tokenStart_rd K1q nin0
  have f1_F_textStart_rd := Fld.keep F_textStart_rd K1q nin0
  have f1_F_textEnd_rd := Fld.keep F_textEnd_rd K1q nin0
  have f1_F_escaped_rd := Fld.keep F_escaped_rd K1q nin0
  have f1_F_ascii_rd := Fld.keep F_ascii_rd K1q nin0
  have f1_F_integral_rd := Fld.keep F_integral_rd K1q nin0
  have f1_V_ba := Arv.keep V_ba K1q nin0
  have f1_V_ast := Arv.keep V_ast K1q nin0
  have f1_V_aks := Arv.keep V_aks K1q nin0
  have SZ1 := Nat.le_trans Z0 K1q.1
  refine Gz.tr st1 ?_
  refine Gz.astore 268 #[s0, .val (.int dq), s2, s3, s4, .val (.ref ast), .val (.ref aks), .val (.int (4 : Int32)), s8, s9, .val (.ref rd), .val (.ref rd1), .unset, .unset, .unset] X1 hx (dd at_266) rfl rfl rfl ?_
  refine Gz.aload 270 X1 hx (dd at_268) rfl rfl rfl ?_
  obtain ⟨cq2, kq2, q2a, q2b, q2c⟩ := isOf hZ rfl RE1
  obtain ⟨_, _, ⟨T2, L2, k2, n2⟩, -, X2, ⟨Lc2, hQ2, l2, y2, z2⟩, st2⟩ := X1.virtualBack hx (y := ym5) (z := ym5) hown (mvT hZ (ww hw 121 rfl)) (mvT hZ (ww hw 108 rfl)) (notFace_of_selects (args := #[]) (mvT hZ (ww hw 110 rfl))) (mvT hZ (ww hw 110 rfl)) (mvT hZ (ww hw 109 rfl)) (by decide) (backOf (W := 0) (rm15 l Z av0 hw [] rd1 dq T1.heap n0 SZ1 RD1) hZ (ww hw 111 rfl) (ww hw 83 rfl) (by decide) (by decide)) q2a q2c (g := (mkF m 270 #[s0, .val (.int dq), s2, s3, s4, .val (.ref ast), .val (.ref aks), .val (.int (4 : Int32)), s8, s9, .val (.ref rd), .val (.ref rd1), .unset, .unset, .unset] [(.ref rd1)])) rfl (by rw [hml]; rfl) (Steps.refl _) (argsL := []) (rest := []) (lenOf pd_5 rfl) rfl (Nat.le_refl _) (dd at_270) (fun _ _ => ⟨rfl, rfl, (by decide : 7 + 0 ≤ _), (by decide : 44 + 0 ≤ _)⟩)
  dsimp only [Pt.U, Pt.locs, Pt.cells, Pt.slots, Q_rm15] at X2 l2 y2 z2 st2 hQ2
  subst l2 y2 z2
  rw [show (fMd rd1 dq) = dq from (by unfold fMd; rfl)] at hQ2
  obtain ⟨rfl, N2q, e2⟩ := hQ2
  have N2 := Fr.app N1 N2q
  refine Gz.tr st2 ?_
  refine Gz.iloadN 274 X2 hx (dd at_273) rfl rfl ?_
  refine Gz.icmpNo 277 X2 hx (dd at_274) (teq (rfl : dq = dq)).2 rfl ?_
  refine Gz.iconst 278 (1 : Int32) X2 hx (dd at_277) rfl rfl ?_
  refine Gz.goto 282 X2 hx (dd at_278) (by decide) (by decide) ?_
  refine Gz.istore 284 #[s0, .val (.int dq), s2, s3, s4, .val (.ref ast), .val (.ref aks), .val (.int (4 : Int32)), s8, s9, .val (.ref rd), .val (.ref rd1), .val (.int (1 : Int32)), .unset, .unset] X2 hx (dd at_282) rfl rfl ?_
  refine Gz.aload 286 X2 hx (dd at_284) rfl rfl rfl ?_
  obtain ⟨cq3, kq3, q3a, q3b, q3c⟩ := isOf hZ e2 f1_E_rd
  obtain ⟨_, _, ⟨T3, L3, k3, n3⟩, -, X3, ⟨Lc3, hQ3, l3, y3, z3⟩, st3⟩ := X2.virtualBack hx (y := ym8) (z := ym8) hown (mvT hZ (ww hw 28 rfl)) (mvT hZ (ww hw 29 rfl)) (notFace_of_selects (args := #[]) (mvT hZ (ww hw 31 rfl))) (mvT hZ (ww hw 31 rfl)) (mvT hZ (ww hw 30 rfl)) (by decide) (backOf (W := 0) (rmNx_5_n l Z av0 hw [] rd ba md dq fi ts xs xe es as_ ig k_ba st_ARRAY T1.heap n0 SZ1 f1_E_rd f1_F_bytes_rd f1_F_maxDepth_rd f1_F_position_rd f1_F_depth_rd f1_F_first_rd f1_F_token_rd f1_F_tokenStart_rd f1_F_textStart_rd f1_F_textEnd_rd f1_F_escaped_rd f1_F_ascii_rd f1_F_integral_rd g_rd f1_V_ba ne_ba_rd f1_S_st_ARRAY hdm) hZ (ww hw 32 rfl) (ww hw 15 rfl) (by decide) (by decide)) q3a q3c (g := (mkF m 286 #[s0, .val (.int dq), s2, s3, s4, .val (.ref ast), .val (.ref aks), .val (.int (4 : Int32)), s8, s9, .val (.ref rd), .val (.ref rd1), .val (.int (1 : Int32)), .unset, .unset] [(.ref rd)])) rfl (by rw [hml]; rfl) (Steps.refl _) (argsL := []) (rest := []) (lenOf pd_8 rfl) rfl (Nat.le_refl _) (dd at_286) (fun _ _ => ⟨rfl, e2, (by decide : 7 + 0 ≤ _), (by decide : 44 + 0 ≤ _)⟩)
  dsimp only [Pt.U, Pt.locs, Pt.cells, Pt.slots, Q_rmNx_5_n] at X3 l3 y3 z3 st3 hQ3
  subst l3 y3 z3
  obtain ⟨rfl, N3q, K3q, QE3_0, QF3_0, QF3_1, QF3_2, QF3_3, QF3_4, QF3_5, QF3_6, QF3_7, QF3_8, QF3_9, QF3_10, QF3_11⟩ := hQ3
  have N3 := Fr.app N2 N3q
  have f3_S_st_OBJECT := own_staK f1_S_st_OBJECT K3q (allS (nst_of f1_E_rd) all0)
  have f3_S_st_ARRAY := own_staK f1_S_st_ARRAY K3q (allS (nst_of f1_E_rd) all0)
  have f3_S_st_NUMBER := own_staK f1_S_st_NUMBER K3q (allS (nst_of f1_E_rd) all0)
  have f3_S_st_TRUE := own_staK f1_S_st_TRUE K3q (allS (nst_of f1_E_rd) all0)
  have f3_S_tb := own_staK f1_S_tb K3q (allS (nst_of f1_E_rd) all0)
  have f3_V_tb := Arv.keep f1_V_tb K3q (ninS ne_tb_rd nin0)
  have f3_E_rd := Exa.keep f1_E_rd K3q
  have f3_V_ba := Arv.keep f1_V_ba K3q (ninS ne_ba_rd nin0)
  have f3_V_ast := Arv.keep f1_V_ast K3q (ninS ne_ast_rd nin0)
  have f3_V_aks := Arv.keep f1_V_aks K3q (ninS ne_aks_rd nin0)
  have f3_E_rd1 := Exa.keep RE1 K3q
  have f3_F_position_rd1 := Fld.keep RP1 K3q (ninS (Ne.symm ne_rd_rd1) nin0)
  have f3_F_depth_rd1 := Fld.keep RD1 K3q (ninS (Ne.symm ne_rd_rd1) nin0)
  have SZ3 := Nat.le_trans SZ1 K3q.1
  refine Gz.tr st3 ?_
  refine Gz.astore 291 #[s0, .val (.int dq), s2, s3, s4, .val (.ref ast), .val (.ref aks), .val (.int (4 : Int32)), s8, s9, .val (.ref rd), .val (.ref rd1), .val (.int (1 : Int32)), .val (.ref st_ARRAY), .unset] X3 hx (dd at_289) rfl rfl rfl ?_
  refine Gz.aload 293 X3 hx (dd at_291) rfl rfl rfl ?_
  obtain ⟨cq4, kq4, q4a, q4b, q4c⟩ := isOf hZ rfl QE3_0
  obtain ⟨_, _, ⟨T4, L4, k4, n4⟩, -, X4, ⟨Lc4, hQ4, l4, y4, z4⟩, st4⟩ := X3.virtualBack hx (y := ym4) (z := ym4) hown (mvT hZ (ww hw 112 rfl)) (mvT hZ (ww hw 113 rfl)) (notFace_of_selects (args := #[]) (mvT hZ (ww hw 115 rfl))) (mvT hZ (ww hw 115 rfl)) (mvT hZ (ww hw 114 rfl)) (by decide) (backOf (W := 0) (rmMk_a l Z av0 hw [] rd st_OBJECT st_ARRAY (dq + (1 : Int32)) (5 : Int32) T3.heap n0 SZ3 f3_S_st_OBJECT f3_S_st_ARRAY QE3_0 QF3_3 QF3_5 QF3_6 ne_st_OBJECT_st_ARRAY) hZ (ww hw 116 rfl) (ww hw 15 rfl) (by decide) (by decide)) q4a q4c (g := (mkF m 293 #[s0, .val (.int dq), s2, s3, s4, .val (.ref ast), .val (.ref aks), .val (.int (4 : Int32)), s8, s9, .val (.ref rd), .val (.ref rd1), .val (.int (1 : Int32)), .val (.ref st_ARRAY), .unset] [(.ref rd)])) rfl (by rw [hml]; rfl) (Steps.refl _) (argsL := []) (rest := []) (lenOf pd_4 rfl) rfl (Nat.le_refl _) (dd at_293) (fun _ _ => ⟨rfl, rfl, (by decide : 7 + 1 ≤ _), (by decide : 44 + 2 ≤ _)⟩)
  dsimp only [Pt.U, Pt.locs, Pt.cells, Pt.slots, Q_rmMk_a] at X4 l4 y4 z4 st4 hQ4
  subst l4 y4 z4
  obtain ⟨rd4, rfl, N4q, K4q, gr4, szr4, RE4, RP4, RD4⟩ := hQ4
  have N4 := Fr.app N3 N4q
  have ne_tb_rd4 : tb ≠ rd4 := Nat.ne_of_lt (Nat.lt_of_lt_of_le (f3_V_tb).lt szr4)
  have ne_rd_rd4 : rd ≠ rd4 := Nat.ne_of_lt (Nat.lt_of_lt_of_le (QF3_11).lt szr4)
  have ne_ba_rd4 : ba ≠ rd4 := Nat.ne_of_lt (Nat.lt_of_lt_of_le (f3_V_ba).lt szr4)
  have ne_ast_rd4 : ast ≠ rd4 := Nat.ne_of_lt (Nat.lt_of_lt_of_le (f3_V_ast).lt szr4)
  have ne_aks_rd4 : aks ≠ rd4 := Nat.ne_of_lt (Nat.lt_of_lt_of_le (f3_V_aks).lt szr4)
  have ne_rd1_rd4 : rd1 ≠ rd4 := Nat.ne_of_lt (Nat.lt_of_lt_of_le (f3_F_depth_rd1).lt szr4)
  have f4_S_st_OBJECT := own_staK f3_S_st_OBJECT K4q all0
  have f4_S_st_ARRAY := own_staK f3_S_st_ARRAY K4q all0
  have f4_S_st_NUMBER := own_staK f3_S_st_NUMBER K4q all0
  have f4_S_st_TRUE := own_staK f3_S_st_TRUE K4q all0
  have f4_S_tb := own_staK f3_S_tb K4q all0
  have f4_V_tb := Arv.keep f3_V_tb K4q nin0
  have f4_E_rd := Exa.keep QE3_0 K4q
  have f4_V_ba := Arv.keep f3_V_ba K4q nin0
  have f4_V_ast := Arv.keep f3_V_ast K4q nin0
  have f4_V_aks := Arv.keep f3_V_aks K4q nin0
  have f4_E_rd1 := Exa.keep f3_E_rd1 K4q
  have f4_F_position_rd1 := Fld.keep f3_F_position_rd1 K4q nin0
  have f4_F_depth_rd1 := Fld.keep f3_F_depth_rd1 K4q nin0
  have f4_F_bytes_rd := Fld.keep QF3_0 K4q nin0
  have f4_F_maxDepth_rd := Fld.keep QF3_1 K4q nin0
  have f4_F_position_rd := Fld.keep QF3_2 K4q nin0
  have f4_F_depth_rd := Fld.keep QF3_3 K4q nin0
  have f4_F_first_rd := Fld.keep QF3_4 K4q nin0
  have f4_F_token_rd := Fld.keep QF3_5 K4q nin0
  have f4_F_tokenStart_rd := Fld.keep QF3_6 K4q nin0
  have f4_F_textStart_rd := Fld.keep QF3_7 K4q nin0
  have f4_F_textEnd_rd := Fld.keep QF3_8 K4q nin0
  have f4_F_escaped_rd := Fld.keep QF3_9 K4q nin0
  have f4_F_ascii_rd := Fld.keep QF3_10 K4q nin0
  have f4_F_integral_rd := Fld.keep QF3_11 K4q nin0
  have SZ4 := Nat.le_trans SZ3 K4q.1
  refine Gz.tr st4 ?_
  refine Gz.astore 298 #[s0, .val (.int dq), s2, s3, s4, .val (.ref ast), .val (.ref aks), .val (.int (4 : Int32)), s8, s9, .val (.ref rd), .val (.ref rd1), .val (.int (1 : Int32)), .val (.ref st_ARRAY), .val (.ref rd4)] X4 hx (dd at_296) rfl rfl rfl ?_
  refine Gz.iload 300 X4 hx (dd at_298) rfl rfl ?_
  refine Gz.ifNo 303 X4 hx (dd at_300) ((if0 _ _).trans (feq (by decide : ¬ ((1 : Int32) = (0 : Int32)))).1) rfl ?_
  refine Gz.aload 305 X4 hx (dd at_303) rfl rfl rfl ?_
  refine Gz.aload 307 X4 hx (dd at_305) rfl rfl rfl ?_
  refine Gz.iload 309 X4 hx (dd at_307) rfl rfl ?_
  obtain ⟨c5, A5, q5, S5, N5, H5, G5⟩ := id f4_V_aks
  have hin5 : ¬ ((4 : Int32) < 0 ∨ c5.slots.size ≤ ((4 : Int32)).toNatClampNeg) := inb_of S5 ⟨by decide, by decide⟩
  refine Gz.ldA 310 X4 hx hZ rfl (dd at_309) rfl A5 hin5 (Has.at H5 hin5 (rfl : _ = ((.ref st_ARRAY) : Value))) rfl ?_
  refine Gz.acmp 313 true X4 hx (dd at_310) rfl rfl (decide_eq_true rfl) (by decide) (by decide) ?_
  refine Gz.aload 315 X4 hx (dd at_313) rfl rfl rfl ?_
  obtain ⟨cq6, kq6, q6a, q6b, q6c⟩ := isOf hZ rfl RE4
  obtain ⟨_, _, ⟨T6, L6, k6, n6⟩, -, X6, ⟨Lc6, hQ6, l6, y6, z6⟩, st6⟩ := X4.virtualBack hx (y := ym10) (z := ym10) hown (mvT hZ (ww hw 122 rfl)) (mvT hZ (ww hw 103 rfl)) (notFace_of_selects (args := #[]) (mvT hZ (ww hw 105 rfl))) (mvT hZ (ww hw 105 rfl)) (mvT hZ (ww hw 104 rfl)) (by decide) (backOf (W := 0) (rm14 l Z av0 hw [] rd4 (5 : Int32) T4.heap n0 SZ4 RP4) hZ (ww hw 106 rfl) (ww hw 83 rfl) (by decide) (by decide)) q6a q6c (g := (mkF m 315 #[s0, .val (.int dq), s2, s3, s4, .val (.ref ast), .val (.ref aks), .val (.int (4 : Int32)), s8, s9, .val (.ref rd), .val (.ref rd1), .val (.int (1 : Int32)), .val (.ref st_ARRAY), .val (.ref rd4)] [(.ref rd4)])) rfl (by rw [hml]; rfl) (Steps.refl _) (argsL := []) (rest := []) (lenOf pd_5 rfl) rfl (Nat.le_refl _) (dd at_315) (fun _ _ => ⟨rfl, rfl, (by decide : 8 + 0 ≤ _), (by decide : 46 + 0 ≤ _)⟩)
  dsimp only [Pt.U, Pt.locs, Pt.cells, Pt.slots, Q_rm14] at X6 l6 y6 z6 st6 hQ6
  subst l6 y6 z6
  rw [show (fMp rd4 (5 : Int32)) = (5 : Int32) from (by unfold fMp; rfl)] at hQ6
  obtain ⟨rfl, N6q, e6⟩ := hQ6
  have N6 := Fr.app N4 N6q
  refine Gz.tr st6 ?_
  refine Gz.aload 320 X6 hx (dd at_318) rfl rfl rfl ?_
  refine Gz.iload 322 X6 hx (dd at_320) rfl rfl ?_
  obtain ⟨c7, A7, q7, S7, N7, H7, G7⟩ := id f4_V_ast
  have hin7 : ¬ ((4 : Int32) < 0 ∨ c7.slots.size ≤ ((4 : Int32)).toNatClampNeg) := inb_of S7 ⟨by decide, by decide⟩
  refine Gz.ldI 323 X6 hx hZ (dd at_322) e6 A7 hin7 (Has.at H7 hin7 (rfl : _ = ((.int (5 : Int32)) : Value))) rfl ?_
  refine Gz.icmpNo 326 X6 hx (dd at_323) (teq (by decide : (5 : Int32) = (5 : Int32))).2 rfl ?_
  refine Gz.aload 328 X6 hx (dd at_326) rfl rfl rfl ?_
  obtain ⟨cq8, kq8, q8a, q8b, q8c⟩ := isOf hZ e6 RE4
  obtain ⟨_, _, ⟨T8, L8, k8, n8⟩, -, X8, ⟨Lc8, hQ8, l8, y8, z8⟩, st8⟩ := X6.virtualBack hx (y := ym5) (z := ym5) hown (mvT hZ (ww hw 121 rfl)) (mvT hZ (ww hw 108 rfl)) (notFace_of_selects (args := #[]) (mvT hZ (ww hw 110 rfl))) (mvT hZ (ww hw 110 rfl)) (mvT hZ (ww hw 109 rfl)) (by decide) (backOf (W := 0) (rm15 l Z av0 hw [] rd4 ((dq + (1 : Int32)) - (1 : Int32)) T4.heap n0 SZ4 RD4) hZ (ww hw 111 rfl) (ww hw 83 rfl) (by decide) (by decide)) q8a q8c (g := (mkF m 328 #[s0, .val (.int dq), s2, s3, s4, .val (.ref ast), .val (.ref aks), .val (.int (4 : Int32)), s8, s9, .val (.ref rd), .val (.ref rd1), .val (.int (1 : Int32)), .val (.ref st_ARRAY), .val (.ref rd4)] [(.ref rd4)])) rfl (by rw [hml]; rfl) (Steps.refl _) (argsL := []) (rest := []) (lenOf pd_5 rfl) rfl (Nat.le_refl _) (dd at_328) (fun _ _ => ⟨rfl, e6, (by decide : 8 + 0 ≤ _), (by decide : 46 + 0 ≤ _)⟩)
  dsimp only [Pt.U, Pt.locs, Pt.cells, Pt.slots, Q_rm15] at X8 l8 y8 z8 st8 hQ8
  subst l8 y8 z8
  rw [show (fMd rd4 ((dq + (1 : Int32)) - (1 : Int32))) = ((dq + (1 : Int32)) - (1 : Int32)) from (by unfold fMd; rfl)] at hQ8
  obtain ⟨rfl, N8q, e8⟩ := hQ8
  have N8 := Fr.app N6 N8q
  refine Gz.tr st8 ?_
  refine Gz.iloadN 332 X8 hx (dd at_331) rfl rfl ?_
  refine Gz.icmpNo 335 X8 hx (dd at_332) (teq (own_addsub _ : ((dq + (1 : Int32)) - (1 : Int32)) = dq)).2 rfl ?_
  refine Gz.iconst 336 (1 : Int32) X8 hx (dd at_335) rfl rfl ?_
  refine Gz.goto 340 X8 hx (dd at_336) (by decide) (by decide) ?_
  refine Gz.fin X8 (v := some (.int (1 : Int32))) (fun h => by rw [hret] at h; cases h) hlk (by decide) (by decide) (fun fs hr => retN X8 hx (t := .boolean) hret (by simp) (dd at_340) hr) ?_
  exact ⟨rfl, N8⟩
theorem ef_rmSw_6_n (m : MethodId) (a0 : Addr) : entryFrame m #[(.ref a0)] 2 = mkF m 0 #[.val (.ref a0), .unset] [] := by first | (simp [entryFrame, mkF, argsToLocals, Value.category]; done) | rfl
def Q_rmSw_6_n (Z : State) (a0 : Addr) (ba : Addr) (md : Int32) (dp : Int32) (fi : Int32) (ts : Int32) (xs : Int32) (xe : Int32) (es : Int32) (as_ : Int32) (ig : Int32) (k_ba : ClassId) (h0 : Heap) (n0 : Nat) (v : Option Value) (h : Heap) (L : List Loc) : Prop := v = some (.int (116 : Int32)) ∧ Fr n0 L ∧ Keep h0 h [a0] ∧ Exa Z h a0 cs0 ∧ Fld Z h a0 cs0 "bytes" "[B" (.ref ba) ∧ Fld Z h a0 cs0 "maxDepth" "I" (.int md) ∧ Fld Z h a0 cs0 "position" "I" (.int (6 : Int32)) ∧ Fld Z h a0 cs0 "depth" "I" (.int dp) ∧ Fld Z h a0 cs0 "first" "Z" (.int fi) ∧ Fld Z h a0 cs0 "token" "Lcom/example/bad_status/badstatus/model/JsonReader$Token;" .null ∧ Fld Z h a0 cs0 "tokenStart" "I" (.int ts) ∧ Fld Z h a0 cs0 "textStart" "I" (.int xs) ∧ Fld Z h a0 cs0 "textEnd" "I" (.int xe) ∧ Fld Z h a0 cs0 "escaped" "Z" (.int es) ∧ Fld Z h a0 cs0 "ascii" "Z" (.int as_) ∧ Fld Z h a0 cs0 "integral" "Z" (.int ig)
set_option maxRecDepth 65536 in
set_option maxHeartbeats 40000000 in
theorem rmSw_6_n (l : Launch) (Z : State) (av0 : Array Value) (hw : ∀ d ∈ tables_1, d.before av0 Z = true) (ws : List Jvm.Cond) (a0 : Addr) (ba : Addr) (md : Int32) (dp : Int32) (fi : Int32) (ts : Int32) (xs : Int32) (xe : Int32) (es : Int32) (as_ : Int32) (ig : Int32) (k_ba : ClassId) (h0 : Heap) (n0 : Nat) (Z0 : n0 ≤ h0.size) (E_a0 : Exa Z h0 a0 cs0) (F_bytes_a0 : Fld Z h0 a0 cs0 "bytes" "[B" (.ref ba)) (F_maxDepth_a0 : Fld Z h0 a0 cs0 "maxDepth" "I" (.int md)) (F_position_a0 : Fld Z h0 a0 cs0 "position" "I" (.int (6 : Int32))) (F_depth_a0 : Fld Z h0 a0 cs0 "depth" "I" (.int dp)) (F_first_a0 : Fld Z h0 a0 cs0 "first" "Z" (.int fi)) (F_token_a0 : Fld Z h0 a0 cs0 "token" "Lcom/example/bad_status/badstatus/model/JsonReader$Token;" .null) (F_tokenStart_a0 : Fld Z h0 a0 cs0 "tokenStart" "I" (.int ts)) (F_textStart_a0 : Fld Z h0 a0 cs0 "textStart" "I" (.int xs)) (F_textEnd_a0 : Fld Z h0 a0 cs0 "textEnd" "I" (.int xe)) (F_escaped_a0 : Fld Z h0 a0 cs0 "escaped" "Z" (.int es)) (F_ascii_a0 : Fld Z h0 a0 cs0 "ascii" "Z" (.int as_)) (F_integral_a0 : Fld Z h0 a0 cs0 "integral" "Z" (.int ig)) (g_a0 : n0 ≤ a0) (V_ba : Arv Z h0 ba k_ba .byte (10 : Int32) [(.int (91 : Int32)), (.int (32 : Int32)), (.int (52 : Int32)), (.int (50 : Int32)), (.int (44 : Int32)), (.int (91 : Int32)), (.int (116 : Int32)), (.int (114 : Int32)), (.int (117 : Int32)), (.int (101 : Int32))] (.int (0 : Int32))) (ne_ba_a0 : ba ≠ a0) :
    MetFree l (⟨cs0, "skipWhitespace", "()I"⟩ : MethodName) (head1 (Jvm.Cond.code (⟨cs0, "skipWhitespace", "()I"⟩ : MethodName) prog_11_method_14_code 2 (some .int) :: ws) ({ frames := 1, cells := 0, slots := 0, locals := 12 } : Room)) (fun a U => a = #[(.ref a0)] ∧ Z.Warmed39 U.vm ∧ U.heap = h0) (fun _ _ _ _ _ => True) (fun _ U o U' => ∃ v L, o = .returned v ∧ Q_rmSw_6_n Z a0 ba md dp fi ts xs xe es as_ ig k_ba h0 n0 v U'.heap L ∧ FrameEnd U o U' L ({ frames := 1, cells := 0, slots := 0, locals := 12 } : Room).cells ({ frames := 1, cells := 0, slots := 0, locals := 12 } : Room).slots) := by
  refine MetFree.of_bodySF (plainFor_of_name pn_0) hisR ?_
  intro p e s m args below meth c s₁ Bd hml0 hP hK
  obtain ⟨rfl, hZ, hh⟩ := hP
  have hx := Bd.exec
  have hby := Bd.bytes
  have hml : c.maxLocals = 2 := hml0
  have dd : ∀ {pc : Nat} {r : Except DecodeError (Instr × Nat)}, decode prog_11_method_14_code pc = r → decode c.code pc = r := fun q => hb hby q
  have hown : s.vm.findClass cs0 = some m.cls := findClass_of_methodNamed Bd.named
  have hnm := (name_of_methodNamed Bd.named Bd.method).1
  have X0 : Stand p l e ({ frames := 1, cells := 0, slots := 0, locals := 12 } : Room) s m #[(.ref a0)] below meth c s₁ [] 0 0 := Stand.of_body Bd
  have e0 : s₁.heap = h0 := by rw [← hh, Bd.state]; rfl
  have N0 := Fr.nil n0
  have hret := Bd.returns
  have hlk := Bd.notSynchronized
  show Gz p e below s ({ frames := 1, cells := 0, slots := 0, locals := 12 } : Room).cells ({ frames := 1, cells := 0, slots := 0, locals := 12 } : Room).slots (Q_rmSw_6_n Z a0 ba md dp fi ts xs xe es as_ ig k_ba h0 n0) (s₁.setTop (entryFrame m #[(.ref a0)] 2))
  refine Gz.enter (ef_rmSw_6_n m a0) ?_
  refine Gz.aloadN 1 X0 hx (dd d4_0) rfl rfl rfl ?_
  refine Gz.getF 4 X0 hx hZ hown (dd d4_1) (host := "") (Or.inl (ww hw 24 rfl)) Via.refl e0 F_position_a0 rfl fun T1 X1 e1 => ?_
  refine Gz.istoreN 5 #[.val (.ref a0), .val (.int (6 : Int32))] X1 hx (dd d4_4) rfl rfl ?_
  refine Gz.iloadN 6 X1 hx (dd d4_5) rfl rfl ?_
  refine Gz.aloadN 7 X1 hx (dd d4_6) rfl rfl rfl ?_
  refine Gz.getF 10 X1 hx hZ hown (dd d4_7) (host := "") (Or.inl (ww hw 22 rfl)) Via.refl e1 F_bytes_a0 rfl fun T2 X2 e2 => ?_
  obtain ⟨c3, A3, -, S3, N3, -, -⟩ := id V_ba
  refine Gz.alen 11 X2 hx hZ (dd d4_10) e2 A3 S3 N3 rfl ?_
  refine Gz.icmpNo 14 X2 hx (dd d4_11) (tlt (by decide : (6 : Int32) < (10 : Int32))).2.1 rfl ?_
  refine Gz.aloadN 15 X2 hx (dd d4_14) rfl rfl rfl ?_
  refine Gz.getF 18 X2 hx hZ hown (dd d4_15) (host := "") (Or.inl (ww hw 22 rfl)) Via.refl e2 F_bytes_a0 rfl fun T4 X4 e4 => ?_
  refine Gz.iloadN 19 X4 hx (dd d4_18) rfl rfl ?_
  obtain ⟨c5, A5, q5, S5, N5, H5, G5⟩ := id V_ba
  have hin5 : ¬ ((6 : Int32) < 0 ∨ c5.slots.size ≤ ((6 : Int32)).toNatClampNeg) := inb_of S5 ⟨by decide, by decide⟩
  refine Gz.ldB 20 X4 hx hZ (dd d4_19) e4 A5 hin5 (Has.at H5 hin5 (rfl : _ = ((.int (116 : Int32)) : Value))) rfl ?_
  obtain ⟨_, _, ⟨T6, L6, k6, n6⟩, -, X6, ⟨Lc6, hQ6, l6, y6, z6⟩, st6⟩ := Jvm.LawKit.callS X4 hx (y := ym6) hown (mvT hZ (ww hw 37 rfl)) (mvT hZ (ww hw 38 rfl)) (mvT hZ (ww hw 15 rfl)) (mvT hZ (ww hw 39 rfl)) (by decide) (backOf (W := 0) (rm5 l Z av0 hw [] (116 : Int32)  h0 n0 Z0 ) hZ (ww hw 39 rfl) (ww hw 15 rfl) (by decide) (by decide)) (g := (mkF m 20 #[.val (.ref a0), .val (.int (6 : Int32))] [(.int (116 : Int32))])) rfl (by rw [hml]; rfl) (argsL := [(.int (116 : Int32))]) (rest := []) (lenOf pd_6 rfl) rfl (Nat.le_refl _) (dd d4_20) (fun _ _ => ⟨rfl, e4, (by decide : 0 + 0 ≤ _), (by decide : 0 + 0 ≤ _)⟩)
  dsimp only [Pt.U, Pt.locs, Pt.cells, Pt.slots, Q_rm5] at X6 l6 y6 z6 st6 hQ6
  subst l6 y6 z6
  rw [show (fWs (116 : Int32)) = (0 : Int32) from (by unfold fWs; rw [if_pos (by decide : (32 : Int32) < (116 : Int32))]; try decide)] at hQ6
  obtain ⟨rfl, N6q, e6⟩ := hQ6
  have N6 := Fr.app N0 N6q
  refine Gz.st st6 ?_
  refine Gz.ifYes 32 X6 hx (dd d4_23) ((if0 _ _).trans (teq (by decide : (0 : Int32) = (0 : Int32))).1) (by decide) (by decide) ?_
  refine Gz.aloadN 33 X6 hx (dd d4_32) rfl rfl rfl ?_
  refine Gz.iloadN 34 X6 hx (dd d4_33) rfl rfl ?_
  refine Gz.putF 37 X6 hx hZ hown .int (dd d4_34) (host := "") (Or.inl (ww hw 24 rfl)) Via.refl e6 F_position_a0 E_a0 (Or.inl (ww hw 25 rfl)) (ww hw 14 rfl) (by decide) rfl rfl rfl fun T7 h7 X7 e7 W7 => ?_
  have f7_E_a0 := Exa.wr W7 E_a0
  have f7_F_bytes_a0 := Fld.other W7 F_bytes_a0 (Or.inr (Ne.symm <| sn1 hw))
  have f7_F_maxDepth_a0 := Fld.other W7 F_maxDepth_a0 (Or.inr (sn11 hw))
  have f7_F_depth_a0 := Fld.other W7 F_depth_a0 (Or.inr (sn12 hw))
  have f7_F_first_a0 := Fld.other W7 F_first_a0 (Or.inr (sn13 hw))
  have f7_F_token_a0 := Fld.other W7 F_token_a0 (Or.inr (sn14 hw))
  have f7_F_tokenStart_a0 := Fld.other W7 F_tokenStart_a0 (Or.inr (sn15 hw))
  have f7_F_textStart_a0 := Fld.other W7 F_textStart_a0 (Or.inr (sn16 hw))
  have f7_F_textEnd_a0 := Fld.other W7 F_textEnd_a0 (Or.inr (sn17 hw))
  have f7_F_escaped_a0 := Fld.other W7 F_escaped_a0 (Or.inr (sn18 hw))
  have f7_F_ascii_a0 := Fld.other W7 F_ascii_a0 (Or.inr (sn19 hw))
  have f7_F_integral_a0 := Fld.other W7 F_integral_a0 (Or.inr (sn20 hw))
  have f7_V_ba := Arv.other V_ba W7 ne_ba_a0
  have f7_F_position_a0 := Fld.same W7 F_position_a0
  have N7 := Fr.snoc X7 N6 g_a0
  have SZ7 : n0 ≤ h7.size := Nat.le_trans Z0 (Keep.of_wr W7).1
  have K7 := Keep.wr (Keep.refl h0 [a0]) W7 (Or.inl (List.mem_of_getElem? (i := 0) rfl))
  refine Gz.iloadN 38 X7 hx (dd d4_37) rfl rfl ?_
  refine Gz.aloadN 39 X7 hx (dd d4_38) rfl rfl rfl ?_
  refine Gz.getF 42 X7 hx hZ hown (dd d4_39) (host := "") (Or.inl (ww hw 22 rfl)) Via.refl e7 f7_F_bytes_a0 rfl fun T8 X8 e8 => ?_
  obtain ⟨c9, A9, -, S9, N9, -, -⟩ := id f7_V_ba
  refine Gz.alen 43 X8 hx hZ (dd d4_42) e8 A9 S9 N9 rfl ?_
  refine Gz.icmpNo 46 X8 hx (dd d4_43) (tlt (by decide : (6 : Int32) < (10 : Int32))).2.1 rfl ?_
  refine Gz.aloadN 47 X8 hx (dd d4_46) rfl rfl rfl ?_
  refine Gz.getF 50 X8 hx hZ hown (dd d4_47) (host := "") (Or.inl (ww hw 22 rfl)) Via.refl e8 f7_F_bytes_a0 rfl fun T10 X10 e10 => ?_
  refine Gz.iloadN 51 X10 hx (dd d4_50) rfl rfl ?_
  obtain ⟨c11, A11, q11, S11, N11, H11, G11⟩ := id f7_V_ba
  have hin11 : ¬ ((6 : Int32) < 0 ∨ c11.slots.size ≤ ((6 : Int32)).toNatClampNeg) := inb_of S11 ⟨by decide, by decide⟩
  refine Gz.ldB 52 X10 hx hZ (dd d4_51) e10 A11 hin11 (Has.at H11 hin11 (rfl : _ = ((.int (116 : Int32)) : Value))) rfl ?_
  refine Gz.sipush 55 (255 : Int32) X10 hx (dd d4_52) rfl rfl ?_
  refine Gz.iandV 56 (116 : Int32) X10 hx (dd d4_55) rfl rfl ?_
  refine Gz.goto 60 X10 hx (dd d4_56) (by decide) (by decide) ?_
  refine Gz.fin X10 (v := some (.int (116 : Int32))) (fun h => by rw [hret] at h; cases h) hlk (by decide) (by decide) (fun fs hr => retI X10 hx hret (dd d4_60) hr) ?_
  rw [e10]
  exact ⟨rfl, N7, K7, f7_E_a0, f7_F_bytes_a0, f7_F_maxDepth_a0, f7_F_position_a0, f7_F_depth_a0, f7_F_first_a0, f7_F_token_a0, f7_F_tokenStart_a0, f7_F_textStart_a0, f7_F_textEnd_a0, f7_F_escaped_a0, f7_F_ascii_a0, f7_F_integral_a0⟩
theorem pd_11 : parseMethodDescriptor "([BII[BII)Z" = some ⟨[(.array .byte), .int, .int, (.array .byte), .int, .int], some .boolean⟩ := by decide +kernel
abbrev ym14 : MethodName := ⟨"java/util/Arrays", "equals", "([BII[BII)Z"⟩
theorem d18_0 : decode prog_11_method_29_code 0 = .ok (.aload_n 0, 1) := by decide +kernel
theorem d18_1 : decode prog_11_method_29_code 1 = .ok (.getfield 15, 3) := by decide +kernel
theorem d18_4 : decode prog_11_method_29_code 4 = .ok (.aload_n 1, 1) := by decide +kernel
theorem d18_5 : decode prog_11_method_29_code 5 = .ok (.arraylength, 1) := by decide +kernel
theorem d18_6 : decode prog_11_method_29_code 6 = .ok (.iadd, 1) := by decide +kernel
theorem d18_7 : decode prog_11_method_29_code 7 = .ok (.istore_n 3, 1) := by decide +kernel
theorem d18_8 : decode prog_11_method_29_code 8 = .ok (.iload_n 3, 1) := by decide +kernel
theorem d18_9 : decode prog_11_method_29_code 9 = .ok (.aload_n 0, 1) := by decide +kernel
theorem d18_10 : decode prog_11_method_29_code 10 = .ok (.getfield 9, 3) := by decide +kernel
theorem d18_13 : decode prog_11_method_29_code 13 = .ok (.arraylength, 1) := by decide +kernel
theorem d18_14 : decode prog_11_method_29_code 14 = .ok (.if_icmp .gt 22, 3) := by decide +kernel
theorem d18_17 : decode prog_11_method_29_code 17 = .ok (.aload_n 0, 1) := by decide +kernel
theorem d18_18 : decode prog_11_method_29_code 18 = .ok (.getfield 9, 3) := by decide +kernel
theorem d18_21 : decode prog_11_method_29_code 21 = .ok (.aload_n 0, 1) := by decide +kernel
theorem d18_22 : decode prog_11_method_29_code 22 = .ok (.getfield 15, 3) := by decide +kernel
theorem d18_25 : decode prog_11_method_29_code 25 = .ok (.iload_n 3, 1) := by decide +kernel
theorem d18_26 : decode prog_11_method_29_code 26 = .ok (.aload_n 1, 1) := by decide +kernel
theorem d18_27 : decode prog_11_method_29_code 27 = .ok (.iconst 0, 1) := by decide +kernel
theorem d18_28 : decode prog_11_method_29_code 28 = .ok (.aload_n 1, 1) := by decide +kernel
theorem d18_29 : decode prog_11_method_29_code 29 = .ok (.arraylength, 1) := by decide +kernel
theorem d18_30 : decode prog_11_method_29_code 30 = .ok (.invokestatic 303, 3) := by decide +kernel
theorem d18_33 : decode prog_11_method_29_code 33 = .ok (.ifCond .ne 10, 3) := by decide +kernel
theorem d18_43 : decode prog_11_method_29_code 43 = .ok (.aload_n 0, 1) := by decide +kernel
theorem d18_44 : decode prog_11_method_29_code 44 = .ok (.iload_n 3, 1) := by decide +kernel
theorem d18_45 : decode prog_11_method_29_code 45 = .ok (.putfield 15, 3) := by decide +kernel
theorem d18_48 : decode prog_11_method_29_code 48 = .ok (.aload_n 0, 1) := by decide +kernel
theorem d18_49 : decode prog_11_method_29_code 49 = .ok (.iconst 0, 1) := by decide +kernel
theorem d18_50 : decode prog_11_method_29_code 50 = .ok (.putfield 84, 3) := by decide +kernel
theorem d18_53 : decode prog_11_method_29_code 53 = .ok (.aload_n 2, 1) := by decide +kernel
theorem d18_54 : decode prog_11_method_29_code 54 = .ok (.areturn, 1) := by decide +kernel
theorem ef_rmRl_6_n (m : MethodId) (a0 : Addr) (a1 : Addr) (a2 : Addr) : entryFrame m #[(.ref a0), (.ref a1), (.ref a2)] 4 = mkF m 0 #[.val (.ref a0), .val (.ref a1), .val (.ref a2), .unset] [] := by first | (simp [entryFrame, mkF, argsToLocals, Value.category]; done) | rfl
def Q_rmRl_6_n (Z : State) (a0 : Addr) (a1 : Addr) (a2 : Addr) (ba : Addr) (md : Int32) (dp : Int32) (fi : Int32) (ts : Int32) (xs : Int32) (xe : Int32) (es : Int32) (as_ : Int32) (ig : Int32) (k_ba : ClassId) (k_a1 : ClassId) (h0 : Heap) (n0 : Nat) (v : Option Value) (h : Heap) (L : List Loc) : Prop := v = some (.ref a2) ∧ Fr n0 L ∧ Keep h0 h [a0] ∧ Exa Z h a0 cs0 ∧ Fld Z h a0 cs0 "bytes" "[B" (.ref ba) ∧ Fld Z h a0 cs0 "maxDepth" "I" (.int md) ∧ Fld Z h a0 cs0 "position" "I" (.int (10 : Int32)) ∧ Fld Z h a0 cs0 "depth" "I" (.int dp) ∧ Fld Z h a0 cs0 "first" "Z" (.int (0 : Int32)) ∧ Fld Z h a0 cs0 "token" "Lcom/example/bad_status/badstatus/model/JsonReader$Token;" .null ∧ Fld Z h a0 cs0 "tokenStart" "I" (.int ts) ∧ Fld Z h a0 cs0 "textStart" "I" (.int xs) ∧ Fld Z h a0 cs0 "textEnd" "I" (.int xe) ∧ Fld Z h a0 cs0 "escaped" "Z" (.int es) ∧ Fld Z h a0 cs0 "ascii" "Z" (.int as_) ∧ Fld Z h a0 cs0 "integral" "Z" (.int ig)
set_option maxRecDepth 65536 in
set_option maxHeartbeats 40000000 in
theorem rmRl_6_n (l : Launch) (Z : State) (av0 : Array Value) (hw : ∀ d ∈ tables_1, d.before av0 Z = true) (ws : List Jvm.Cond) (a0 : Addr) (a1 : Addr) (a2 : Addr) (ba : Addr) (md : Int32) (dp : Int32) (fi : Int32) (ts : Int32) (xs : Int32) (xe : Int32) (es : Int32) (as_ : Int32) (ig : Int32) (k_ba : ClassId) (k_a1 : ClassId) (h0 : Heap) (n0 : Nat) (Z0 : n0 ≤ h0.size) (E_a0 : Exa Z h0 a0 cs0) (F_bytes_a0 : Fld Z h0 a0 cs0 "bytes" "[B" (.ref ba)) (F_maxDepth_a0 : Fld Z h0 a0 cs0 "maxDepth" "I" (.int md)) (F_position_a0 : Fld Z h0 a0 cs0 "position" "I" (.int (6 : Int32))) (F_depth_a0 : Fld Z h0 a0 cs0 "depth" "I" (.int dp)) (F_first_a0 : Fld Z h0 a0 cs0 "first" "Z" (.int fi)) (F_token_a0 : Fld Z h0 a0 cs0 "token" "Lcom/example/bad_status/badstatus/model/JsonReader$Token;" .null) (F_tokenStart_a0 : Fld Z h0 a0 cs0 "tokenStart" "I" (.int ts)) (F_textStart_a0 : Fld Z h0 a0 cs0 "textStart" "I" (.int xs)) (F_textEnd_a0 : Fld Z h0 a0 cs0 "textEnd" "I" (.int xe)) (F_escaped_a0 : Fld Z h0 a0 cs0 "escaped" "Z" (.int es)) (F_ascii_a0 : Fld Z h0 a0 cs0 "ascii" "Z" (.int as_)) (F_integral_a0 : Fld Z h0 a0 cs0 "integral" "Z" (.int ig)) (g_a0 : n0 ≤ a0) (V_ba : Arv Z h0 ba k_ba .byte (10 : Int32) [(.int (91 : Int32)), (.int (32 : Int32)), (.int (52 : Int32)), (.int (50 : Int32)), (.int (44 : Int32)), (.int (91 : Int32)), (.int (116 : Int32)), (.int (114 : Int32)), (.int (117 : Int32)), (.int (101 : Int32))] (.int (0 : Int32))) (ne_ba_a0 : ba ≠ a0) (V_a1 : Arv Z h0 a1 k_a1 .byte (4 : Int32) [(.int (116 : Int32)), (.int (114 : Int32)), (.int (117 : Int32)), (.int (101 : Int32))] (.int (0 : Int32))) (ne_a1_a0 : a1 ≠ a0) :
    MetFree l (⟨cs0, "readLiteral", "([BLcom/example/bad_status/badstatus/model/JsonReader$Token;)Lcom/example/bad_status/badstatus/model/JsonReader$Token;"⟩ : MethodName) (head1 (Jvm.Cond.code (⟨cs0, "readLiteral", "([BLcom/example/bad_status/badstatus/model/JsonReader$Token;)Lcom/example/bad_status/badstatus/model/JsonReader$Token;"⟩ : MethodName) prog_11_method_29_code 4 (some (.object cs1)) :: ws) ({ frames := 2, cells := 0, slots := 0, locals := 38 } : Room)) (fun a U => a = #[(.ref a0), (.ref a1), (.ref a2)] ∧ Z.Warmed39 U.vm ∧ U.heap = h0) (fun _ _ _ _ _ => True) (fun _ U o U' => ∃ v L, o = .returned v ∧ Q_rmRl_6_n Z a0 a1 a2 ba md dp fi ts xs xe es as_ ig k_ba k_a1 h0 n0 v U'.heap L ∧ FrameEnd U o U' L ({ frames := 2, cells := 0, slots := 0, locals := 38 } : Room).cells ({ frames := 2, cells := 0, slots := 0, locals := 38 } : Room).slots) := by
  refine MetFree.of_bodySF (plainFor_of_name pn_0) hisR ?_
  intro p e s m args below meth c s₁ Bd hml0 hP hK
  obtain ⟨rfl, hZ, hh⟩ := hP
  have hx := Bd.exec
  have hby := Bd.bytes
  have hml : c.maxLocals = 4 := hml0
  have dd : ∀ {pc : Nat} {r : Except DecodeError (Instr × Nat)}, decode prog_11_method_29_code pc = r → decode c.code pc = r := fun q => hb hby q
  have hown : s.vm.findClass cs0 = some m.cls := findClass_of_methodNamed Bd.named
  have hnm := (name_of_methodNamed Bd.named Bd.method).1
  have X0 : Stand p l e ({ frames := 2, cells := 0, slots := 0, locals := 38 } : Room) s m #[(.ref a0), (.ref a1), (.ref a2)] below meth c s₁ [] 0 0 := Stand.of_body Bd
  have e0 : s₁.heap = h0 := by rw [← hh, Bd.state]; rfl
  have N0 := Fr.nil n0
  have hret := Bd.returns
  have hlk := Bd.notSynchronized
  show Gz p e below s ({ frames := 2, cells := 0, slots := 0, locals := 38 } : Room).cells ({ frames := 2, cells := 0, slots := 0, locals := 38 } : Room).slots (Q_rmRl_6_n Z a0 a1 a2 ba md dp fi ts xs xe es as_ ig k_ba k_a1 h0 n0) (s₁.setTop (entryFrame m #[(.ref a0), (.ref a1), (.ref a2)] 4))
  refine Gz.enter (ef_rmRl_6_n m a0 a1 a2) ?_
  refine Gz.aloadN 1 X0 hx (dd d18_0) rfl rfl rfl ?_
  refine Gz.getF 4 X0 hx hZ hown (dd d18_1) (host := "") (Or.inl (ww hw 24 rfl)) Via.refl e0 F_position_a0 rfl fun T1 X1 e1 => ?_
  refine Gz.aloadN 5 X1 hx (dd d18_4) rfl rfl rfl ?_
  obtain ⟨c2, A2, -, S2, N2, -, -⟩ := id V_a1
  refine Gz.alen 6 X1 hx hZ (dd d18_5) e1 A2 S2 N2 rfl ?_
  refine Gz.iaddV 7 (10 : Int32) X1 hx (dd d18_6) rfl rfl ?_
  refine Gz.istoreN 8 #[.val (.ref a0), .val (.ref a1), .val (.ref a2), .val (.int (10 : Int32))] X1 hx (dd d18_7) rfl rfl ?_
  refine Gz.iloadN 9 X1 hx (dd d18_8) rfl rfl ?_
  refine Gz.aloadN 10 X1 hx (dd d18_9) rfl rfl rfl ?_
  refine Gz.getF 13 X1 hx hZ hown (dd d18_10) (host := "") (Or.inl (ww hw 22 rfl)) Via.refl e1 F_bytes_a0 rfl fun T3 X3 e3 => ?_
  obtain ⟨c4, A4, -, S4, N4, -, -⟩ := id V_ba
  refine Gz.alen 14 X3 hx hZ (dd d18_13) e3 A4 S4 N4 rfl ?_
  refine Gz.icmpNo 17 X3 hx (dd d18_14) (flt (by decide : ¬ ((10 : Int32) < (10 : Int32)))).2.2.1 rfl ?_
  refine Gz.aloadN 18 X3 hx (dd d18_17) rfl rfl rfl ?_
  refine Gz.getF 21 X3 hx hZ hown (dd d18_18) (host := "") (Or.inl (ww hw 22 rfl)) Via.refl e3 F_bytes_a0 rfl fun T5 X5 e5 => ?_
  refine Gz.aloadN 22 X5 hx (dd d18_21) rfl rfl rfl ?_
  refine Gz.getF 25 X5 hx hZ hown (dd d18_22) (host := "") (Or.inl (ww hw 24 rfl)) Via.refl e5 F_position_a0 rfl fun T6 X6 e6 => ?_
  refine Gz.iloadN 26 X6 hx (dd d18_25) rfl rfl ?_
  refine Gz.aloadN 27 X6 hx (dd d18_26) rfl rfl rfl ?_
  refine Gz.iconst 28 (0 : Int32) X6 hx (dd d18_27) rfl rfl ?_
  refine Gz.aloadN 29 X6 hx (dd d18_28) rfl rfl rfl ?_
  obtain ⟨c7, A7, -, S7, N7, -, -⟩ := id V_a1
  refine Gz.alen 30 X6 hx hZ (dd d18_29) e6 A7 S7 N7 rfl ?_
  obtain ⟨_, _, ⟨T8, L8, k8, n8⟩, -, X8, ⟨Lc8, hQ8, l8, y8, z8⟩, st8⟩ := Jvm.LawKit.callS X6 hx (y := ym14) hown (mvT hZ (ww hw 134 rfl)) (mvT hZ (ww hw 135 rfl)) (mvT hZ (ww hw 136 rfl)) (mvT hZ (ww hw 137 rfl)) (by decide) (backOf (W := 0) (rm19 l Z av0 hw [] ba a1 k_ba k_a1 h0 n0 Z0 V_ba V_a1) hZ (ww hw 137 rfl) (ww hw 136 rfl) (by decide) (by decide)) (g := (mkF m 30 #[.val (.ref a0), .val (.ref a1), .val (.ref a2), .val (.int (10 : Int32))] [(.int (4 : Int32)), (.int (0 : Int32)), (.ref a1), (.int (10 : Int32)), (.int (6 : Int32)), (.ref ba)])) rfl (by rw [hml]; rfl) (argsL := [(.ref ba), (.int (6 : Int32)), (.int (10 : Int32)), (.ref a1), (.int (0 : Int32)), (.int (4 : Int32))]) (rest := []) (lenOf pd_11 rfl) rfl (Nat.le_refl _) (dd d18_30) (fun _ _ => ⟨rfl, e6, (by decide : 0 + 0 ≤ _), (by decide : 0 + 0 ≤ _)⟩)
  dsimp only [Pt.U, Pt.locs, Pt.cells, Pt.slots, Q_rm19] at X8 l8 y8 z8 st8 hQ8
  subst l8 y8 z8
  rw [show (fAeq ba a1) = (1 : Int32) from (by unfold fAeq; rfl)] at hQ8
  obtain ⟨rfl, N8q, e8⟩ := hQ8
  have N8 := Fr.app N0 N8q
  refine Gz.st st8 ?_
  refine Gz.ifYes 43 X8 hx (dd d18_33) ((if0 _ _).trans (feq (by decide : ¬ ((1 : Int32) = (0 : Int32)))).2) (by decide) (by decide) ?_
  refine Gz.aloadN 44 X8 hx (dd d18_43) rfl rfl rfl ?_
  refine Gz.iloadN 45 X8 hx (dd d18_44) rfl rfl ?_
  refine Gz.putF 48 X8 hx hZ hown .int (dd d18_45) (host := "") (Or.inl (ww hw 24 rfl)) Via.refl e8 F_position_a0 E_a0 (Or.inl (ww hw 25 rfl)) (ww hw 14 rfl) (by decide) rfl rfl rfl fun T9 h9 X9 e9 W9 => ?_
  have f9_E_a0 := Exa.wr W9 E_a0
  have f9_F_bytes_a0 := Fld.other W9 F_bytes_a0 (Or.inr (Ne.symm <| sn1 hw))
  have f9_F_maxDepth_a0 := Fld.other W9 F_maxDepth_a0 (Or.inr (sn11 hw))
  have f9_F_depth_a0 := Fld.other W9 F_depth_a0 (Or.inr (sn12 hw))
  have f9_F_first_a0 := Fld.other W9 F_first_a0 (Or.inr (sn13 hw))
  have f9_F_token_a0 := Fld.other W9 F_token_a0 (Or.inr (sn14 hw))
  have f9_F_tokenStart_a0 := Fld.other W9 F_tokenStart_a0 (Or.inr (sn15 hw))
  have f9_F_textStart_a0 := Fld.other W9 F_textStart_a0 (Or.inr (sn16 hw))
  have f9_F_textEnd_a0 := Fld.other W9 F_textEnd_a0 (Or.inr (sn17 hw))
  have f9_F_escaped_a0 := Fld.other W9 F_escaped_a0 (Or.inr (sn18 hw))
  have f9_F_ascii_a0 := Fld.other W9 F_ascii_a0 (Or.inr (sn19 hw))
  have f9_F_integral_a0 := Fld.other W9 F_integral_a0 (Or.inr (sn20 hw))
  have f9_V_ba := Arv.other V_ba W9 ne_ba_a0
  have f9_V_a1 := Arv.other V_a1 W9 ne_a1_a0
  have f9_F_position_a0 := Fld.same W9 F_position_a0
  have N9 := Fr.snoc X9 N8 g_a0
  have SZ9 : n0 ≤ h9.size := Nat.le_trans Z0 (Keep.of_wr W9).1
  have K9 := Keep.wr (Keep.refl h0 [a0]) W9 (Or.inl (List.mem_of_getElem? (i := 0) rfl))
  refine Gz.aloadN 49 X9 hx (dd d18_48) rfl rfl rfl ?_
  refine Gz.iconst 50 (0 : Int32) X9 hx (dd d18_49) rfl rfl ?_
  refine Gz.putF 53 X9 hx hZ hown .boolean (dd d18_50) (host := "") (Or.inl (ww hw 49 rfl)) Via.refl e9 f9_F_first_a0 f9_E_a0 (Or.inl (ww hw 50 rfl)) (ww hw 14 rfl) (by decide) rfl rfl rfl fun T10 h10 X10 e10 W10 => ?_
  have f10_E_a0 := Exa.wr W10 f9_E_a0
  have f10_F_bytes_a0 := Fld.other W10 f9_F_bytes_a0 (Or.inr (Ne.symm <| sn3 hw))
  have f10_F_maxDepth_a0 := Fld.other W10 f9_F_maxDepth_a0 (Or.inr (Ne.symm <| sn22 hw))
  have f10_F_position_a0 := Fld.other W10 f9_F_position_a0 (Or.inr (Ne.symm <| sn13 hw))
  have f10_F_depth_a0 := Fld.other W10 f9_F_depth_a0 (Or.inr (Ne.symm <| sn39 hw))
  have f10_F_token_a0 := Fld.other W10 f9_F_token_a0 (Or.inr (sn46 hw))
  have f10_F_tokenStart_a0 := Fld.other W10 f9_F_tokenStart_a0 (Or.inr (Ne.symm <| sn32 hw))
  have f10_F_textStart_a0 := Fld.other W10 f9_F_textStart_a0 (Or.inr (sn47 hw))
  have f10_F_textEnd_a0 := Fld.other W10 f9_F_textEnd_a0 (Or.inr (sn48 hw))
  have f10_F_escaped_a0 := Fld.other W10 f9_F_escaped_a0 (Or.inr (sn49 hw))
  have f10_F_ascii_a0 := Fld.other W10 f9_F_ascii_a0 (Or.inr (sn50 hw))
  have f10_F_integral_a0 := Fld.other W10 f9_F_integral_a0 (Or.inr (sn51 hw))
  have f10_V_ba := Arv.other f9_V_ba W10 ne_ba_a0
  have f10_V_a1 := Arv.other f9_V_a1 W10 ne_a1_a0
  have f10_F_first_a0 := Fld.same W10 f9_F_first_a0
  have N10 := Fr.snoc X10 N9 g_a0
  have SZ10 : n0 ≤ h10.size := Nat.le_trans SZ9 (Keep.of_wr W10).1
  have K10 := Keep.wr K9 W10 (Or.inl (List.mem_of_getElem? (i := 0) rfl))
  refine Gz.aloadN 54 X10 hx (dd d18_53) rfl rfl rfl ?_
  refine Gz.fin X10 (v := some (.ref a2)) (fun h => by rw [hret] at h; cases h) hlk (by decide) (by decide) (fun fs hr => retA X10 hx hret (dd d18_54) hr rfl rfl) ?_
  rw [e10]
  exact ⟨rfl, N10, K10, f10_E_a0, f10_F_bytes_a0, f10_F_maxDepth_a0, f10_F_position_a0, f10_F_depth_a0, f10_F_first_a0, f10_F_token_a0, f10_F_tokenStart_a0, f10_F_textStart_a0, f10_F_textEnd_a0, f10_F_escaped_a0, f10_F_ascii_a0, f10_F_integral_a0⟩
theorem pd_12 : parseMethodDescriptor "([BLcom/example/bad_status/badstatus/model/JsonReader$Token;)Lcom/example/bad_status/badstatus/model/JsonReader$Token;" = some ⟨[(.array .byte), (.object cs1)], some (.object cs1)⟩ := by decide +kernel
abbrev ym15 : MethodName := ⟨cs0, "readLiteral", "([BLcom/example/bad_status/badstatus/model/JsonReader$Token;)Lcom/example/bad_status/badstatus/model/JsonReader$Token;"⟩
theorem d3_105 : decode prog_11_method_2_code 105 = .ok (.aload_n 0, 1) := by decide +kernel
theorem d3_106 : decode prog_11_method_2_code 106 = .ok (.getstatic 48, 3) := by decide +kernel
theorem d3_109 : decode prog_11_method_2_code 109 = .ok (.getstatic 51, 3) := by decide +kernel
theorem d3_112 : decode prog_11_method_2_code 112 = .ok (.invokevirtual 53, 3) := by decide +kernel
theorem d3_115 : decode prog_11_method_2_code 115 = .ok (.astore_n 2, 1) := by decide +kernel
theorem d3_116 : decode prog_11_method_2_code 116 = .ok (.goto 57, 3) := by decide +kernel
theorem ef_rmNx_6_n (m : MethodId) (a0 : Addr) : entryFrame m #[(.ref a0)] 3 = mkF m 0 #[.val (.ref a0), .unset, .unset] [] := by first | (simp [entryFrame, mkF, argsToLocals, Value.category]; done) | rfl
def Q_rmNx_6_n (Z : State) (a0 : Addr) (ba : Addr) (md : Int32) (dp : Int32) (fi : Int32) (ts : Int32) (xs : Int32) (xe : Int32) (es : Int32) (as_ : Int32) (ig : Int32) (k_ba : ClassId) (s_TRUE : Addr) (tb : Addr) (k_tb : ClassId) (h0 : Heap) (n0 : Nat) (v : Option Value) (h : Heap) (L : List Loc) : Prop := v = some (.ref s_TRUE) ∧ Fr n0 L ∧ Keep h0 h [a0] ∧ Exa Z h a0 cs0 ∧ Fld Z h a0 cs0 "bytes" "[B" (.ref ba) ∧ Fld Z h a0 cs0 "maxDepth" "I" (.int md) ∧ Fld Z h a0 cs0 "position" "I" (.int (10 : Int32)) ∧ Fld Z h a0 cs0 "depth" "I" (.int dp) ∧ Fld Z h a0 cs0 "first" "Z" (.int (0 : Int32)) ∧ Fld Z h a0 cs0 "token" "Lcom/example/bad_status/badstatus/model/JsonReader$Token;" (.ref s_TRUE) ∧ Fld Z h a0 cs0 "tokenStart" "I" (.int (6 : Int32)) ∧ Fld Z h a0 cs0 "textStart" "I" (.int xs) ∧ Fld Z h a0 cs0 "textEnd" "I" (.int xe) ∧ Fld Z h a0 cs0 "escaped" "Z" (.int es) ∧ Fld Z h a0 cs0 "ascii" "Z" (.int as_) ∧ Fld Z h a0 cs0 "integral" "Z" (.int ig)
set_option maxRecDepth 65536 in
set_option maxHeartbeats 40000000 in
theorem rmNx_6_n (l : Launch) (Z : State) (av0 : Array Value) (hw : ∀ d ∈ tables_1, d.before av0 Z = true) (ws : List Jvm.Cond) (a0 : Addr) (ba : Addr) (md : Int32) (dp : Int32) (fi : Int32) (ts : Int32) (xs : Int32) (xe : Int32) (es : Int32) (as_ : Int32) (ig : Int32) (k_ba : ClassId) (s_TRUE : Addr) (tb : Addr) (k_tb : ClassId) (h0 : Heap) (n0 : Nat) (Z0 : n0 ≤ h0.size) (E_a0 : Exa Z h0 a0 cs0) (F_bytes_a0 : Fld Z h0 a0 cs0 "bytes" "[B" (.ref ba)) (F_maxDepth_a0 : Fld Z h0 a0 cs0 "maxDepth" "I" (.int md)) (F_position_a0 : Fld Z h0 a0 cs0 "position" "I" (.int (6 : Int32))) (F_depth_a0 : Fld Z h0 a0 cs0 "depth" "I" (.int dp)) (F_first_a0 : Fld Z h0 a0 cs0 "first" "Z" (.int fi)) (F_token_a0 : Fld Z h0 a0 cs0 "token" "Lcom/example/bad_status/badstatus/model/JsonReader$Token;" .null) (F_tokenStart_a0 : Fld Z h0 a0 cs0 "tokenStart" "I" (.int ts)) (F_textStart_a0 : Fld Z h0 a0 cs0 "textStart" "I" (.int xs)) (F_textEnd_a0 : Fld Z h0 a0 cs0 "textEnd" "I" (.int xe)) (F_escaped_a0 : Fld Z h0 a0 cs0 "escaped" "Z" (.int es)) (F_ascii_a0 : Fld Z h0 a0 cs0 "ascii" "Z" (.int as_)) (F_integral_a0 : Fld Z h0 a0 cs0 "integral" "Z" (.int ig)) (g_a0 : n0 ≤ a0) (V_ba : Arv Z h0 ba k_ba .byte (10 : Int32) [(.int (91 : Int32)), (.int (32 : Int32)), (.int (52 : Int32)), (.int (50 : Int32)), (.int (44 : Int32)), (.int (91 : Int32)), (.int (116 : Int32)), (.int (114 : Int32)), (.int (117 : Int32)), (.int (101 : Int32))] (.int (0 : Int32))) (ne_ba_a0 : ba ≠ a0) (S_s_TRUE : Sta Z h0 cs1 "TRUE" "Lcom/example/bad_status/badstatus/model/JsonReader$Token;" (.ref s_TRUE)) (S_tb : Sta Z h0 cs0 "TRUE" "[B" (.ref tb)) (V_tb : Arv Z h0 tb k_tb .byte (4 : Int32) [(.int (116 : Int32)), (.int (114 : Int32)), (.int (117 : Int32)), (.int (101 : Int32))] (.int (0 : Int32))) (ne_tb_a0 : tb ≠ a0) :
    MetFree l (⟨cs0, "next", "()Lcom/example/bad_status/badstatus/model/JsonReader$Token;"⟩ : MethodName) (head1 (Jvm.Cond.code (⟨cs0, "next", "()Lcom/example/bad_status/badstatus/model/JsonReader$Token;"⟩ : MethodName) prog_11_method_2_code 3 (some (.object cs1)) :: ws) ({ frames := 3, cells := 0, slots := 0, locals := 53 } : Room)) (fun a U => a = #[(.ref a0)] ∧ Z.Warmed39 U.vm ∧ U.heap = h0) (fun _ _ _ _ _ => True) (fun _ U o U' => ∃ v L, o = .returned v ∧ Q_rmNx_6_n Z a0 ba md dp fi ts xs xe es as_ ig k_ba s_TRUE tb k_tb h0 n0 v U'.heap L ∧ FrameEnd U o U' L ({ frames := 3, cells := 0, slots := 0, locals := 53 } : Room).cells ({ frames := 3, cells := 0, slots := 0, locals := 53 } : Room).slots) := by
  refine MetFree.of_bodySF (plainFor_of_name pn_0) hisR ?_
  intro p e s m args below meth c s₁ Bd hml0 hP hK
  obtain ⟨rfl, hZ, hh⟩ := hP
  have hx := Bd.exec
  have hby := Bd.bytes
  have hml : c.maxLocals = 3 := hml0
  have dd : ∀ {pc : Nat} {r : Except DecodeError (Instr × Nat)}, decode prog_11_method_2_code pc = r → decode c.code pc = r := fun q => hb hby q
  have hown : s.vm.findClass cs0 = some m.cls := findClass_of_methodNamed Bd.named
  have hnm := (name_of_methodNamed Bd.named Bd.method).1
  have X0 : Stand p l e ({ frames := 3, cells := 0, slots := 0, locals := 53 } : Room) s m #[(.ref a0)] below meth c s₁ [] 0 0 := Stand.of_body Bd
  have e0 : s₁.heap = h0 := by rw [← hh, Bd.state]; rfl
  have N0 := Fr.nil n0
  have hret := Bd.returns
  have hlk := Bd.notSynchronized
  show Gz p e below s ({ frames := 3, cells := 0, slots := 0, locals := 53 } : Room).cells ({ frames := 3, cells := 0, slots := 0, locals := 53 } : Room).slots (Q_rmNx_6_n Z a0 ba md dp fi ts xs xe es as_ ig k_ba s_TRUE tb k_tb h0 n0) (s₁.setTop (entryFrame m #[(.ref a0)] 3))
  refine Gz.enter (ef_rmNx_6_n m a0) ?_
  refine Gz.aloadN 1 X0 hx (dd d3_0) rfl rfl rfl ?_
  obtain ⟨cq1, q1, q1'⟩ := E_a0.cell
  obtain ⟨_, _, ⟨T1, L1, k1, n1⟩, -, X1, ⟨Lc1, hQ1, l1, y1, z1⟩, st1⟩ := X0.privateBack hx (y := ym7) hown (mvT hZ (ww hw 33 rfl)) (mvT hZ (ww hw 34 rfl)) (own_selp (y := ym7) (y' := ym8) rfl (mvT hZ (ww hw 31 rfl)) (mvT hZ (ww hw 30 rfl)) (mvT hZ (ww hw 34 rfl)) (Cond.privateMethod_at (mvP hZ (ww hw 35 rfl) (args := #[]))) (by decide)) (Cond.privateMethod_at (mvP hZ (ww hw 35 rfl) (args := #[]))) (mvT hZ (ww hw 36 rfl)) (by decide) (backOf (W := 0) (rmSw_6_n l Z av0 hw [] a0 ba md dp fi ts xs xe es as_ ig k_ba h0 n0 Z0 E_a0 F_bytes_a0 F_maxDepth_a0 F_position_a0 F_depth_a0 F_first_a0 F_token_a0 F_tokenStart_a0 F_textStart_a0 F_textEnd_a0 F_escaped_a0 F_ascii_a0 F_integral_a0 g_a0 V_ba ne_ba_a0) hZ (ww hw 36 rfl) (ww hw 15 rfl) (by decide) (by decide)) (g := (mkF m 1 #[.val (.ref a0), .unset, .unset] [(.ref a0)])) rfl (by rw [hml]; rfl) (Steps.refl _) (a := a0) (by rw [e0]; exact q1) q1' (argsL := []) (rest := []) (lenOf pd_5 rfl) rfl (Nat.le_refl _) (dd d3_1) (fun _ _ => ⟨rfl, e0, (by decide : 0 + 0 ≤ _), (by decide : 0 + 0 ≤ _)⟩)
  dsimp only [Pt.U, Pt.locs, Pt.cells, Pt.slots, Q_rmSw_6_n] at X1 l1 y1 z1 st1 hQ1
  subst l1 y1 z1
  obtain ⟨rfl, N1q, K1q, QE1_0, QF1_0, QF1_1, QF1_2, QF1_3, QF1_4, QF1_5, QF1_6, QF1_7, QF1_8, QF1_9, QF1_10, QF1_11⟩ := hQ1
  have N1 := Fr.app N0 N1q
  have f1_E_a0 := Exa.keep E_a0 K1q
  have f1_V_ba := Arv.keep V_ba K1q (ninS ne_ba_a0 nin0)
  have f1_S_s_TRUE := own_staK S_s_TRUE K1q (allS (nst_of E_a0) all0)
  have f1_S_tb := own_staK S_tb K1q (allS (nst_of E_a0) all0)
  have f1_V_tb := Arv.keep V_tb K1q (ninS ne_tb_a0 nin0)
  have SZ1 := Nat.le_trans Z0 K1q.1
  have K1 := Keep.trans (Keep.refl h0 [a0]) K1q (allS (Or.inl (List.mem_of_getElem? (i := 0) rfl)) all0)
  refine Gz.tr st1 ?_
  refine Gz.istoreN 5 #[.val (.ref a0), .val (.int (116 : Int32)), .unset] X1 hx (dd d3_4) rfl rfl ?_
  refine Gz.aloadN 6 X1 hx (dd d3_5) rfl rfl rfl ?_
  refine Gz.aloadN 7 X1 hx (dd d3_6) rfl rfl rfl ?_
  refine Gz.getF 10 X1 hx hZ hown (dd d3_7) (host := "") (Or.inl (ww hw 24 rfl)) Via.refl rfl QF1_2 rfl fun T2 X2 e2 => ?_
  refine Gz.putF 13 X2 hx hZ hown .int (dd d3_10) (host := "") (Or.inl (ww hw 40 rfl)) Via.refl e2 QF1_6 QE1_0 (Or.inl (ww hw 41 rfl)) (ww hw 14 rfl) (by decide) rfl rfl rfl fun T3 h3 X3 e3 W3 => ?_
  have f3_E_a0 := Exa.wr W3 QE1_0
  have f3_V_ba := Arv.other f1_V_ba W3 ne_ba_a0
  have f3_S_s_TRUE := Sta.wr W3 f1_S_s_TRUE
  have f3_S_tb := Sta.wr W3 f1_S_tb
  have f3_V_tb := Arv.other f1_V_tb W3 ne_tb_a0
  have f3_F_bytes_a0 := Fld.other W3 QF1_0 (Or.inr (Ne.symm <| sn5 hw))
  have f3_F_maxDepth_a0 := Fld.other W3 QF1_1 (Or.inr (Ne.symm <| sn24 hw))
  have f3_F_position_a0 := Fld.other W3 QF1_2 (Or.inr (Ne.symm <| sn15 hw))
  have f3_F_depth_a0 := Fld.other W3 QF1_3 (Or.inr (sn31 hw))
  have f3_F_first_a0 := Fld.other W3 QF1_4 (Or.inr (sn32 hw))
  have f3_F_token_a0 := Fld.other W3 QF1_5 (Or.inr (sn33 hw))
  have f3_F_textStart_a0 := Fld.other W3 QF1_7 (Or.inr (sn34 hw))
  have f3_F_textEnd_a0 := Fld.other W3 QF1_8 (Or.inr (sn35 hw))
  have f3_F_escaped_a0 := Fld.other W3 QF1_9 (Or.inr (sn36 hw))
  have f3_F_ascii_a0 := Fld.other W3 QF1_10 (Or.inr (sn37 hw))
  have f3_F_integral_a0 := Fld.other W3 QF1_11 (Or.inr (sn38 hw))
  have f3_F_tokenStart_a0 := Fld.same W3 QF1_6
  have N3 := Fr.snoc X3 N1 g_a0
  have SZ3 : n0 ≤ h3.size := Nat.le_trans SZ1 (Keep.of_wr W3).1
  have K3 := Keep.wr K1 W3 (Or.inl (List.mem_of_getElem? (i := 0) rfl))
  refine Gz.iloadN 14 X3 hx (dd d3_13) rfl rfl ?_
  refine Gz.st (fun t k => X3.lookupswitchHit hx (g := (mkF m 14 #[.val (.ref a0), .val (.int (116 : Int32)), .unset] [(.int (116 : Int32))])) rfl (k := (116 : Int32)) (rest := []) rfl (dd d3_14) (by decide) (a := 116) (off := 91) (by decide) (by show (0 : Int) ≤ ((14 : Nat) : Int) + 91; decide) t k) ?_
  show Gz p e below s _ _ _ (T3.setTop (mkF m 105 #[.val (.ref a0), .val (.int (116 : Int32)), .unset] []))
  refine Gz.aloadN 106 X3 hx (dd d3_105) rfl rfl rfl ?_
  refine Gz.getS 109 X3 hx hZ hown (dd d3_106) (host := "") (Or.inl (ww hw 127 rfl)) Via.refl e3 f3_S_tb rfl fun T4 X4 e4 => ?_
  refine Gz.getS 112 X4 hx hZ hown (dd d3_109) (host := "") (Or.inl (ww hw 129 rfl)) Via.refl e4 f3_S_s_TRUE rfl fun T5 X5 e5 => ?_
  obtain ⟨cq6, q6, q6'⟩ := f3_E_a0.cell
  obtain ⟨_, _, ⟨T6, L6, k6, n6⟩, -, X6, ⟨Lc6, hQ6, l6, y6, z6⟩, st6⟩ := X5.privateBack hx (y := ym15) hown (mvT hZ (ww hw 130 rfl)) (mvT hZ (ww hw 131 rfl)) (own_selp (y := ym15) (y' := ym8) rfl (mvT hZ (ww hw 31 rfl)) (mvT hZ (ww hw 30 rfl)) (mvT hZ (ww hw 131 rfl)) (Cond.privateMethod_at (mvP hZ (ww hw 132 rfl) (args := #[]))) (by decide)) (Cond.privateMethod_at (mvP hZ (ww hw 132 rfl) (args := #[]))) (mvT hZ (ww hw 133 rfl)) (by decide) (backOf (W := 0) (rmRl_6_n l Z av0 hw [] a0 tb s_TRUE ba md dp fi (6 : Int32) xs xe es as_ ig k_ba k_tb h3 n0 SZ3 f3_E_a0 f3_F_bytes_a0 f3_F_maxDepth_a0 f3_F_position_a0 f3_F_depth_a0 f3_F_first_a0 f3_F_token_a0 f3_F_tokenStart_a0 f3_F_textStart_a0 f3_F_textEnd_a0 f3_F_escaped_a0 f3_F_ascii_a0 f3_F_integral_a0 g_a0 f3_V_ba ne_ba_a0 f3_V_tb ne_tb_a0) hZ (ww hw 133 rfl) (ww hw 15 rfl) (by decide) (by decide)) (g := (mkF m 112 #[.val (.ref a0), .val (.int (116 : Int32)), .unset] [(.ref s_TRUE), (.ref tb), (.ref a0)])) rfl (by rw [hml]; rfl) (Steps.refl _) (a := a0) (by rw [e5]; exact q6) q6' (argsL := [(.ref tb), (.ref s_TRUE)]) (rest := []) (lenOf pd_12 rfl) rfl (Nat.le_refl _) (dd d3_112) (fun _ _ => ⟨rfl, e5, (by decide : 0 + 0 ≤ _), (by decide : 0 + 0 ≤ _)⟩)
  dsimp only [Pt.U, Pt.locs, Pt.cells, Pt.slots, Q_rmRl_6_n] at X6 l6 y6 z6 st6 hQ6
  subst l6 y6 z6
  obtain ⟨rfl, N6q, K6q, QE6_0, QF6_0, QF6_1, QF6_2, QF6_3, QF6_4, QF6_5, QF6_6, QF6_7, QF6_8, QF6_9, QF6_10, QF6_11⟩ := hQ6
  have N6 := Fr.app N3 N6q
  have f6_E_a0 := Exa.keep f3_E_a0 K6q
  have f6_V_ba := Arv.keep f3_V_ba K6q (ninS ne_ba_a0 nin0)
  have f6_S_s_TRUE := own_staK f3_S_s_TRUE K6q (allS (nst_of f3_E_a0) all0)
  have f6_S_tb := own_staK f3_S_tb K6q (allS (nst_of f3_E_a0) all0)
  have f6_V_tb := Arv.keep f3_V_tb K6q (ninS ne_tb_a0 nin0)
  have SZ6 := Nat.le_trans SZ3 K6q.1
  have K6 := Keep.trans K3 K6q (allS (Or.inl (List.mem_of_getElem? (i := 0) rfl)) all0)
  refine Gz.tr st6 ?_
  refine Gz.astoreN 116 #[.val (.ref a0), .val (.int (116 : Int32)), .val (.ref s_TRUE)] X6 hx (dd d3_115) rfl rfl rfl ?_
  refine Gz.goto 173 X6 hx (dd d3_116) (by decide) (by decide) ?_
  refine Gz.aloadN 174 X6 hx (dd d3_173) rfl rfl rfl ?_
  refine Gz.aloadN 175 X6 hx (dd d3_174) rfl rfl rfl ?_
  refine Gz.putF 178 X6 hx hZ hown (.object cs1) (dd d3_175) (host := "") (Or.inl (ww hw 51 rfl)) Via.refl rfl QF6_5 QE6_0 (Or.inl (ww hw 52 rfl)) (ww hw 14 rfl) (by decide) rfl rfl rfl fun T7 h7 X7 e7 W7 => ?_
  have f7_E_a0 := Exa.wr W7 QE6_0
  have f7_V_ba := Arv.other f6_V_ba W7 ne_ba_a0
  have f7_S_s_TRUE := Sta.wr W7 f6_S_s_TRUE
  have f7_S_tb := Sta.wr W7 f6_S_tb
  have f7_V_tb := Arv.other f6_V_tb W7 ne_tb_a0
  have f7_F_bytes_a0 := Fld.other W7 QF6_0 (Or.inr (Ne.symm <| sn4 hw))
  have f7_F_maxDepth_a0 := Fld.other W7 QF6_1 (Or.inr (Ne.symm <| sn23 hw))
  have f7_F_position_a0 := Fld.other W7 QF6_2 (Or.inr (Ne.symm <| sn14 hw))
  have f7_F_depth_a0 := Fld.other W7 QF6_3 (Or.inr (Ne.symm <| sn40 hw))
  have f7_F_first_a0 := Fld.other W7 QF6_4 (Or.inr (Ne.symm <| sn46 hw))
  have f7_F_tokenStart_a0 := Fld.other W7 QF6_6 (Or.inr (Ne.symm <| sn33 hw))
  have f7_F_textStart_a0 := Fld.other W7 QF6_7 (Or.inr (sn52 hw))
  have f7_F_textEnd_a0 := Fld.other W7 QF6_8 (Or.inr (sn53 hw))
  have f7_F_escaped_a0 := Fld.other W7 QF6_9 (Or.inr (sn54 hw))
  have f7_F_ascii_a0 := Fld.other W7 QF6_10 (Or.inr (sn55 hw))
  have f7_F_integral_a0 := Fld.other W7 QF6_11 (Or.inr (sn56 hw))
  have f7_F_token_a0 := Fld.same W7 QF6_5
  have N7 := Fr.snoc X7 N6 g_a0
  have SZ7 : n0 ≤ h7.size := Nat.le_trans SZ6 (Keep.of_wr W7).1
  have K7 := Keep.wr K6 W7 (Or.inl (List.mem_of_getElem? (i := 0) rfl))
  refine Gz.aloadN 179 X7 hx (dd d3_178) rfl rfl rfl ?_
  refine Gz.fin X7 (v := some (.ref s_TRUE)) (fun h => by rw [hret] at h; cases h) hlk (by decide) (by decide) (fun fs hr => retA X7 hx hret (dd d3_179) hr rfl rfl) ?_
  rw [e7]
  exact ⟨rfl, N7, K7, f7_E_a0, f7_F_bytes_a0, f7_F_maxDepth_a0, f7_F_position_a0, f7_F_depth_a0, f7_F_first_a0, f7_F_token_a0, f7_F_tokenStart_a0, f7_F_textStart_a0, f7_F_textEnd_a0, f7_F_escaped_a0, f7_F_ascii_a0, f7_F_integral_a0⟩
set_option maxRecDepth 65536 in
set_option maxHeartbeats 40000000 in
theorem sgC5 {p : Program} {l : Launch} {e : Env} {s : State} {m : MethodId} {args : Array Value} {below : List Frame} {meth : Method} {c : Code} {T0 : State} {locs : List Loc} {Z : State} {av0 : Array Value} {hS : Heap} (s0 : Slot) (dq : Int32) (s2 : Slot) (s3 : Slot) (s4 : Slot) (ast : Addr) (aks : Addr) (s8 : Slot) (s9 : Slot) (rd : Addr) (st_OBJECT : Addr) (st_ARRAY : Addr) (st_NUMBER : Addr) (st_TRUE : Addr) (tb : Addr) (k_tb : ClassId) (ba : Addr) (md : Int32) (fi : Int32) (ts : Int32) (xs : Int32) (xe : Int32) (es : Int32) (as_ : Int32) (ig : Int32) (k_ba : ClassId) (k_ast : ClassId) (k_aks : ClassId) (n0 : Nat)
    (X0 : Stand p l e room_1 s m args below meth c T0 locs 6 42) (hx : p.tables.exec = Jvm.exec) (hZ : Z.Warmed39 s.vm) (hw : ∀ d ∈ tables_1, d.before av0 Z = true) (hby : c.code = code) (hml : c.maxLocals = 15) (hown : s.vm.findClass "com/example/bad_status/badstatus/model/JsonReaderResetPinLaw" = some m.cls) (hret : meth.sig.returnType = some .boolean) (hlk : meth.locks = false) (e0 : T0.heap = hS) (N0 : Fr n0 locs) (Z0 : n0 ≤ hS.size) (S_st_OBJECT : Sta Z hS cs1 "OBJECT" "Lcom/example/bad_status/badstatus/model/JsonReader$Token;" (.ref st_OBJECT)) (S_st_ARRAY : Sta Z hS cs1 "ARRAY" "Lcom/example/bad_status/badstatus/model/JsonReader$Token;" (.ref st_ARRAY)) (S_st_NUMBER : Sta Z hS cs1 "NUMBER" "Lcom/example/bad_status/badstatus/model/JsonReader$Token;" (.ref st_NUMBER)) (S_st_TRUE : Sta Z hS cs1 "TRUE" "Lcom/example/bad_status/badstatus/model/JsonReader$Token;" (.ref st_TRUE)) (ne_st_OBJECT_st_ARRAY : st_OBJECT ≠ st_ARRAY) (ne_st_OBJECT_st_NUMBER : st_OBJECT ≠ st_NUMBER) (ne_st_OBJECT_st_TRUE : st_OBJECT ≠ st_TRUE) (ne_st_ARRAY_st_NUMBER : st_ARRAY ≠ st_NUMBER) (ne_st_ARRAY_st_TRUE : st_ARRAY ≠ st_TRUE) (S_tb : Sta Z hS cs0 "TRUE" "[B" (.ref tb)) (V_tb : Arv Z hS tb k_tb .byte (4 : Int32) [(.int (116 : Int32)), (.int (114 : Int32)), (.int (117 : Int32)), (.int (101 : Int32))] (.int (0 : Int32))) (E_rd : Exa Z hS rd cs0) (F_bytes_rd : Fld Z hS rd cs0 "bytes" "[B" (.ref ba)) (F_maxDepth_rd : Fld Z hS rd cs0 "maxDepth" "I" (.int md)) (F_position_rd : Fld Z hS rd cs0 "position" "I" (.int (6 : Int32))) (F_depth_rd : Fld Z hS rd cs0 "depth" "I" (.int dq)) (F_first_rd : Fld Z hS rd cs0 "first" "Z" (.int fi)) (F_token_rd : Fld Z hS rd cs0 "token" "Lcom/example/bad_status/badstatus/model/JsonReader$Token;" .null) (F_tokenStart_rd : Fld Z hS rd cs0 "tokenStart" "I" (.int ts)) (F_textStart_rd : Fld Z hS rd cs0 "textStart" "I" (.int xs)) (F_textEnd_rd : Fld Z hS rd cs0 "textEnd" "I" (.int xe)) (F_escaped_rd : Fld Z hS rd cs0 "escaped" "Z" (.int es)) (F_ascii_rd : Fld Z hS rd cs0 "ascii" "Z" (.int as_)) (F_integral_rd : Fld Z hS rd cs0 "integral" "Z" (.int ig)) (g_rd : n0 ≤ rd) (V_ba : Arv Z hS ba k_ba .byte (10 : Int32) [(.int (91 : Int32)), (.int (32 : Int32)), (.int (52 : Int32)), (.int (50 : Int32)), (.int (44 : Int32)), (.int (91 : Int32)), (.int (116 : Int32)), (.int (114 : Int32)), (.int (117 : Int32)), (.int (101 : Int32))] (.int (0 : Int32))) (ne_ba_rd : ba ≠ rd) (V_ast : Arv Z hS ast k_ast .int (6 : Int32) [(.int (0 : Int32)), (.int (2 : Int32)), (.int (2 : Int32)), (.int (3 : Int32)), (.int (5 : Int32)), (.int (6 : Int32))] (.int (0 : Int32))) (V_aks : Arv Z hS aks k_aks (.object cs1) (6 : Int32) [(.ref st_ARRAY), (.ref st_NUMBER), (.ref st_NUMBER), (.ref st_NUMBER), (.ref st_ARRAY), (.ref st_TRUE)] .null) (ne_ast_rd : ast ≠ rd) (ne_aks_rd : aks ≠ rd) (ne_tb_rd : tb ≠ rd) (hdm : ¬ (dq = md)) :
    Gz p e below s 24 192 (Q_law n0) (T0.setTop (mkF m 261 #[s0, .val (.int dq), s2, s3, s4, .val (.ref ast), .val (.ref aks), .val (.int (5 : Int32)), s8, s9, .val (.ref rd), .unset, .unset, .unset, .unset] [])) := by
  have dd : ∀ {pc : Nat} {r : Except DecodeError (Instr × Nat)}, decode code pc = r → decode c.code pc = r := fun q => hb hby q
  refine Gz.aload 263 X0 hx (dd at_261) rfl rfl rfl ?_
  obtain ⟨cq1, kq1, q1a, q1b, q1c⟩ := isOf hZ e0 E_rd
  obtain ⟨_, _, ⟨T1, L1, k1, n1⟩, -, X1, ⟨Lc1, hQ1, l1, y1, z1⟩, st1⟩ := X0.virtualBack hx (y := ym4) (z := ym4) hown (mvT hZ (ww hw 112 rfl)) (mvT hZ (ww hw 113 rfl)) (notFace_of_selects (args := #[]) (mvT hZ (ww hw 115 rfl))) (mvT hZ (ww hw 115 rfl)) (mvT hZ (ww hw 114 rfl)) (by decide) (backOf (W := 0) (rmMk_n l Z av0 hw [] rd st_OBJECT st_ARRAY dq ts hS n0 Z0 S_st_OBJECT S_st_ARRAY E_rd F_depth_rd F_token_rd F_tokenStart_rd) hZ (ww hw 116 rfl) (ww hw 15 rfl) (by decide) (by decide)) q1a q1c (g := (mkF m 263 #[s0, .val (.int dq), s2, s3, s4, .val (.ref ast), .val (.ref aks), .val (.int (5 : Int32)), s8, s9, .val (.ref rd), .unset, .unset, .unset, .unset] [(.ref rd)])) rfl (by rw [hml]; rfl) (Steps.refl _) (argsL := []) (rest := []) (lenOf pd_4 rfl) rfl (Nat.le_refl _) (dd at_263) (fun _ _ => ⟨rfl, e0, (by decide : 6 + 1 ≤ _), (by decide : 42 + 2 ≤ _)⟩)
  dsimp only [Pt.U, Pt.locs, Pt.cells, Pt.slots, Q_rmMk_n] at X1 l1 y1 z1 st1 hQ1
  subst l1 y1 z1
  obtain ⟨rd1, rfl, N1q, K1q, gr1, szr1, RE1, RP1, RD1⟩ := hQ1
  have N1 := Fr.app N0 N1q
  have ne_tb_rd1 : tb ≠ rd1 := Nat.ne_of_lt (Nat.lt_of_lt_of_le (V_tb).lt szr1)
  have ne_rd_rd1 : rd ≠ rd1 := Nat.ne_of_lt (Nat.lt_of_lt_of_le (F_integral_rd).lt szr1)
  have ne_ba_rd1 : ba ≠ rd1 := Nat.ne_of_lt (Nat.lt_of_lt_of_le (V_ba).lt szr1)
  have ne_ast_rd1 : ast ≠ rd1 := Nat.ne_of_lt (Nat.lt_of_lt_of_le (V_ast).lt szr1)
  have ne_aks_rd1 : aks ≠ rd1 := Nat.ne_of_lt (Nat.lt_of_lt_of_le (V_aks).lt szr1)
  have f1_S_st_OBJECT := own_staK S_st_OBJECT K1q all0
  have f1_S_st_ARRAY := own_staK S_st_ARRAY K1q all0
  have f1_S_st_NUMBER := own_staK S_st_NUMBER K1q all0
  have f1_S_st_TRUE := own_staK S_st_TRUE K1q all0
  have f1_S_tb := own_staK S_tb K1q all0
  have f1_V_tb := Arv.keep V_tb K1q nin0
  have f1_E_rd := Exa.keep E_rd K1q
  have f1_F_bytes_rd := Fld.keep F_bytes_rd K1q nin0
  have f1_F_maxDepth_rd := Fld.keep F_maxDepth_rd K1q nin0
  have f1_F_position_rd := Fld.keep F_position_rd K1q nin0
  have f1_F_depth_rd := Fld.keep F_depth_rd K1q nin0
  have f1_F_first_rd := Fld.keep F_first_rd K1q nin0
  have f1_F_token_rd := Fld.keep F_token_rd K1q nin0
  have f1_F_tokenStart_rd := Fld.keep F_tokenStart_rd K1q nin0
  have f1_F_textStart_rd := Fld.keep F_textStart_rd K1q nin0
  have f1_F_textEnd_rd := Fld.keep F_textEnd_rd K1q nin0
  have f1_F_escaped_rd := Fld.keep F_escaped_rd K1q nin0
  have f1_F_ascii_rd := Fld.keep F_ascii_rd K1q nin0
  have f1_F_integral_rd := Fld.keep F_integral_rd K1q nin0
  have f1_V_ba := Arv.keep V_ba K1q nin0
  have f1_V_ast := Arv.keep V_ast K1q nin0
  have f1_V_aks := Arv.keep V_aks K1q nin0
  have SZ1 := Nat.le_trans Z0 K1q.1
  refine Gz.tr st1 ?_
  refine Gz.astore 268 #[s0, .val (.int dq), s2, s3, s4, .val (.ref ast), .val (.ref aks), .val (.int (5 : Int32)), s8, s9, .val (.ref rd), .val (.ref rd1), .unset, .unset, .unset] X1 hx (dd at_266) rfl rfl rfl ?_
  refine Gz.aload 270 X1 hx (dd at_268) rfl rfl rfl ?_
  obtain ⟨cq2, kq2, q2a, q2b, q2c⟩ := isOf hZ rfl RE1
  obtain ⟨_, _, ⟨T2, L2, k2, n2⟩, -, X2, ⟨Lc2, hQ2, l2, y2, z2⟩, st2⟩ := X1.virtualBack hx (y := ym5) (z := ym5) hown (mvT hZ (ww hw 121 rfl)) (mvT hZ (ww hw 108 rfl)) (notFace_of_selects (args := #[]) (mvT hZ (ww hw 110 rfl))) (mvT hZ (ww hw 110 rfl)) (mvT hZ (ww hw 109 rfl)) (by decide) (backOf (W := 0) (rm15 l Z av0 hw [] rd1 dq T1.heap n0 SZ1 RD1) hZ (ww hw 111 rfl) (ww hw 83 rfl) (by decide) (by decide)) q2a q2c (g := (mkF m 270 #[s0, .val (.int dq), s2, s3, s4, .val (.ref ast), .val (.ref aks), .val (.int (5 : Int32)), s8, s9, .val (.ref rd), .val (.ref rd1), .unset, .unset, .unset] [(.ref rd1)])) rfl (by rw [hml]; rfl) (Steps.refl _) (argsL := []) (rest := []) (lenOf pd_5 rfl) rfl (Nat.le_refl _) (dd at_270) (fun _ _ => ⟨rfl, rfl, (by decide : 7 + 0 ≤ _), (by decide : 44 + 0 ≤ _)⟩)
  dsimp only [Pt.U, Pt.locs, Pt.cells, Pt.slots, Q_rm15] at X2 l2 y2 z2 st2 hQ2
  subst l2 y2 z2
  rw [show (fMd rd1 dq) = dq from (by unfold fMd; rfl)] at hQ2
  obtain ⟨rfl, N2q, e2⟩ := hQ2
  have N2 := Fr.app N1 N2q
  refine Gz.tr st2 ?_
  refine Gz.iloadN 274 X2 hx (dd at_273) rfl rfl ?_
  refine Gz.icmpNo 277 X2 hx (dd at_274) (teq (rfl : dq = dq)).2 rfl ?_
  refine Gz.iconst 278 (1 : Int32) X2 hx (dd at_277) rfl rfl ?_
  refine Gz.goto 282 X2 hx (dd at_278) (by decide) (by decide) ?_
  refine Gz.istore 284 #[s0, .val (.int dq), s2, s3, s4, .val (.ref ast), .val (.ref aks), .val (.int (5 : Int32)), s8, s9, .val (.ref rd), .val (.ref rd1), .val (.int (1 : Int32)), .unset, .unset] X2 hx (dd at_282) rfl rfl ?_
  refine Gz.aload 286 X2 hx (dd at_284) rfl rfl rfl ?_
  obtain ⟨cq3, kq3, q3a, q3b, q3c⟩ := isOf hZ e2 f1_E_rd
  obtain ⟨_, _, ⟨T3, L3, k3, n3⟩, -, X3, ⟨Lc3, hQ3, l3, y3, z3⟩, st3⟩ := X2.virtualBack hx (y := ym8) (z := ym8) hown (mvT hZ (ww hw 28 rfl)) (mvT hZ (ww hw 29 rfl)) (notFace_of_selects (args := #[]) (mvT hZ (ww hw 31 rfl))) (mvT hZ (ww hw 31 rfl)) (mvT hZ (ww hw 30 rfl)) (by decide) (backOf (W := 0) (rmNx_6_n l Z av0 hw [] rd ba md dq fi ts xs xe es as_ ig k_ba st_TRUE tb k_tb T1.heap n0 SZ1 f1_E_rd f1_F_bytes_rd f1_F_maxDepth_rd f1_F_position_rd f1_F_depth_rd f1_F_first_rd f1_F_token_rd f1_F_tokenStart_rd f1_F_textStart_rd f1_F_textEnd_rd f1_F_escaped_rd f1_F_ascii_rd f1_F_integral_rd g_rd f1_V_ba ne_ba_rd f1_S_st_TRUE f1_S_tb f1_V_tb ne_tb_rd) hZ (ww hw 32 rfl) (ww hw 15 rfl) (by decide) (by decide)) q3a q3c (g := (mkF m 286 #[s0, .val (.int dq), s2, s3, s4, .val (.ref ast), .val (.ref aks), .val (.int (5 : Int32)), s8, s9, .val (.ref rd), .val (.ref rd1), .val (.int (1 : Int32)), .unset, .unset] [(.ref rd)])) rfl (by rw [hml]; rfl) (Steps.refl _) (argsL := []) (rest := []) (lenOf pd_8 rfl) rfl (Nat.le_refl _) (dd at_286) (fun _ _ => ⟨rfl, e2, (by decide : 7 + 0 ≤ _), (by decide : 44 + 0 ≤ _)⟩)
  dsimp only [Pt.U, Pt.locs, Pt.cells, Pt.slots, Q_rmNx_6_n] at X3 l3 y3 z3 st3 hQ3
  subst l3 y3 z3
  obtain ⟨rfl, N3q, K3q, QE3_0, QF3_0, QF3_1, QF3_2, QF3_3, QF3_4, QF3_5, QF3_6, QF3_7, QF3_8, QF3_9, QF3_10, QF3_11⟩ := hQ3
  have N3 := Fr.app N2 N3q
  have f3_S_st_OBJECT := own_staK f1_S_st_OBJECT K3q (allS (nst_of f1_E_rd) all0)
  have f3_S_st_ARRAY := own_staK f1_S_st_ARRAY K3q (allS (nst_of f1_E_rd) all0)
  have f3_S_st_NUMBER := own_staK f1_S_st_NUMBER K3q (allS (nst_of f1_E_rd) all0)
  have f3_S_st_TRUE := own_staK f1_S_st_TRUE K3q (allS (nst_of f1_E_rd) all0)
  have f3_S_tb := own_staK f1_S_tb K3q (allS (nst_of f1_E_rd) all0)
  have f3_V_tb := Arv.keep f1_V_tb K3q (ninS ne_tb_rd nin0)
  have f3_E_rd := Exa.keep f1_E_rd K3q
  have f3_V_ba := Arv.keep f1_V_ba K3q (ninS ne_ba_rd nin0)
  have f3_V_ast := Arv.keep f1_V_ast K3q (ninS ne_ast_rd nin0)
  have f3_V_aks := Arv.keep f1_V_aks K3q (ninS ne_aks_rd nin0)
  have f3_E_rd1 := Exa.keep RE1 K3q
  have f3_F_position_rd1 := Fld.keep RP1 K3q (ninS (Ne.symm ne_rd_rd1) nin0)
  have f3_F_depth_rd1 := Fld.keep RD1 K3q (ninS (Ne.symm ne_rd_rd1) nin0)
  have SZ3 := Nat.le_trans SZ1 K3q.1
  refine Gz.tr st3 ?_
  refine Gz.astore 291 #[s0, .val (.int dq), s2, s3, s4, .val (.ref ast), .val (.ref aks), .val (.int (5 : Int32)), s8, s9, .val (.ref rd), .val (.ref rd1), .val (.int (1 : Int32)), .val (.ref st_TRUE), .unset] X3 hx (dd at_289) rfl rfl rfl ?_
  refine Gz.aload 293 X3 hx (dd at_291) rfl rfl rfl ?_
  obtain ⟨cq4, kq4, q4a, q4b, q4c⟩ := isOf hZ rfl QE3_0
  obtain ⟨_, _, ⟨T4, L4, k4, n4⟩, -, X4, ⟨Lc4, hQ4, l4, y4, z4⟩, st4⟩ := X3.virtualBack hx (y := ym4) (z := ym4) hown (mvT hZ (ww hw 112 rfl)) (mvT hZ (ww hw 113 rfl)) (notFace_of_selects (args := #[]) (mvT hZ (ww hw 115 rfl))) (mvT hZ (ww hw 115 rfl)) (mvT hZ (ww hw 114 rfl)) (by decide) (backOf (W := 0) (rmMk_o l Z av0 hw [] rd st_OBJECT st_ARRAY dq st_TRUE (6 : Int32) T3.heap n0 SZ3 f3_S_st_OBJECT f3_S_st_ARRAY QE3_0 QF3_3 QF3_5 QF3_6 (Ne.symm ne_st_OBJECT_st_TRUE) (Ne.symm ne_st_ARRAY_st_TRUE)) hZ (ww hw 116 rfl) (ww hw 15 rfl) (by decide) (by decide)) q4a q4c (g := (mkF m 293 #[s0, .val (.int dq), s2, s3, s4, .val (.ref ast), .val (.ref aks), .val (.int (5 : Int32)), s8, s9, .val (.ref rd), .val (.ref rd1), .val (.int (1 : Int32)), .val (.ref st_TRUE), .unset] [(.ref rd)])) rfl (by rw [hml]; rfl) (Steps.refl _) (argsL := []) (rest := []) (lenOf pd_4 rfl) rfl (Nat.le_refl _) (dd at_293) (fun _ _ => ⟨rfl, rfl, (by decide : 7 + 1 ≤ _), (by decide : 44 + 2 ≤ _)⟩)
  dsimp only [Pt.U, Pt.locs, Pt.cells, Pt.slots, Q_rmMk_o] at X4 l4 y4 z4 st4 hQ4
  subst l4 y4 z4
  obtain ⟨rd4, rfl, N4q, K4q, gr4, szr4, RE4, RP4, RD4⟩ := hQ4
  have N4 := Fr.app N3 N4q
  have ne_tb_rd4 : tb ≠ rd4 := Nat.ne_of_lt (Nat.lt_of_lt_of_le (f3_V_tb).lt szr4)
  have ne_rd_rd4 : rd ≠ rd4 := Nat.ne_of_lt (Nat.lt_of_lt_of_le (QF3_11).lt szr4)
  have ne_ba_rd4 : ba ≠ rd4 := Nat.ne_of_lt (Nat.lt_of_lt_of_le (f3_V_ba).lt szr4)
  have ne_ast_rd4 : ast ≠ rd4 := Nat.ne_of_lt (Nat.lt_of_lt_of_le (f3_V_ast).lt szr4)
  have ne_aks_rd4 : aks ≠ rd4 := Nat.ne_of_lt (Nat.lt_of_lt_of_le (f3_V_aks).lt szr4)
  have ne_rd1_rd4 : rd1 ≠ rd4 := Nat.ne_of_lt (Nat.lt_of_lt_of_le (f3_F_depth_rd1).lt szr4)
  have f4_S_st_OBJECT := own_staK f3_S_st_OBJECT K4q all0
  have f4_S_st_ARRAY := own_staK f3_S_st_ARRAY K4q all0
  have f4_S_st_NUMBER := own_staK f3_S_st_NUMBER K4q all0
  have f4_S_st_TRUE := own_staK f3_S_st_TRUE K4q all0
  have f4_S_tb := own_staK f3_S_tb K4q all0
  have f4_V_tb := Arv.keep f3_V_tb K4q nin0
  have f4_E_rd := Exa.keep QE3_0 K4q
  have f4_V_ba := Arv.keep f3_V_ba K4q nin0
  have f4_V_ast := Arv.keep f3_V_ast K4q nin0
  have f4_V_aks := Arv.keep f3_V_aks K4q nin0
  have f4_E_rd1 := Exa.keep f3_E_rd1 K4q
  have f4_F_position_rd1 := Fld.keep f3_F_position_rd1 K4q nin0
  have f4_F_depth_rd1 := Fld.keep f3_F_depth_rd1 K4q nin0
  have f4_F_bytes_rd := Fld.keep QF3_0 K4q nin0
  have f4_F_maxDepth_rd := Fld.keep QF3_1 K4q nin0
  have f4_F_position_rd := Fld.keep QF3_2 K4q nin0
  have f4_F_depth_rd := Fld.keep QF3_3 K4q nin0
  have f4_F_first_rd := Fld.keep QF3_4 K4q nin0
  have f4_F_token_rd := Fld.keep QF3_5 K4q nin0
  have f4_F_tokenStart_rd := Fld.keep QF3_6 K4q nin0
  have f4_F_textStart_rd := Fld.keep QF3_7 K4q nin0
  have f4_F_textEnd_rd := Fld.keep QF3_8 K4q nin0
  have f4_F_escaped_rd := Fld.keep QF3_9 K4q nin0
  have f4_F_ascii_rd := Fld.keep QF3_10 K4q nin0
  have f4_F_integral_rd := Fld.keep QF3_11 K4q nin0
  have SZ4 := Nat.le_trans SZ3 K4q.1
  refine Gz.tr st4 ?_
  refine Gz.astore 298 #[s0, .val (.int dq), s2, s3, s4, .val (.ref ast), .val (.ref aks), .val (.int (5 : Int32)), s8, s9, .val (.ref rd), .val (.ref rd1), .val (.int (1 : Int32)), .val (.ref st_TRUE), .val (.ref rd4)] X4 hx (dd at_296) rfl rfl rfl ?_
  refine Gz.iload 300 X4 hx (dd at_298) rfl rfl ?_
  refine Gz.ifNo 303 X4 hx (dd at_300) ((if0 _ _).trans (feq (by decide : ¬ ((1 : Int32) = (0 : Int32)))).1) rfl ?_
  refine Gz.aload 305 X4 hx (dd at_303) rfl rfl rfl ?_
  refine Gz.aload 307 X4 hx (dd at_305) rfl rfl rfl ?_
  refine Gz.iload 309 X4 hx (dd at_307) rfl rfl ?_
  obtain ⟨c5, A5, q5, S5, N5, H5, G5⟩ := id f4_V_aks
  have hin5 : ¬ ((5 : Int32) < 0 ∨ c5.slots.size ≤ ((5 : Int32)).toNatClampNeg) := inb_of S5 ⟨by decide, by decide⟩
  refine Gz.ldA 310 X4 hx hZ rfl (dd at_309) rfl A5 hin5 (Has.at H5 hin5 (rfl : _ = ((.ref st_TRUE) : Value))) rfl ?_
  refine Gz.acmp 313 true X4 hx (dd at_310) rfl rfl (decide_eq_true rfl) (by decide) (by decide) ?_
  refine Gz.aload 315 X4 hx (dd at_313) rfl rfl rfl ?_
  obtain ⟨cq6, kq6, q6a, q6b, q6c⟩ := isOf hZ rfl RE4
  obtain ⟨_, _, ⟨T6, L6, k6, n6⟩, -, X6, ⟨Lc6, hQ6, l6, y6, z6⟩, st6⟩ := X4.virtualBack hx (y := ym10) (z := ym10) hown (mvT hZ (ww hw 122 rfl)) (mvT hZ (ww hw 103 rfl)) (notFace_of_selects (args := #[]) (mvT hZ (ww hw 105 rfl))) (mvT hZ (ww hw 105 rfl)) (mvT hZ (ww hw 104 rfl)) (by decide) (backOf (W := 0) (rm14 l Z av0 hw [] rd4 (6 : Int32) T4.heap n0 SZ4 RP4) hZ (ww hw 106 rfl) (ww hw 83 rfl) (by decide) (by decide)) q6a q6c (g := (mkF m 315 #[s0, .val (.int dq), s2, s3, s4, .val (.ref ast), .val (.ref aks), .val (.int (5 : Int32)), s8, s9, .val (.ref rd), .val (.ref rd1), .val (.int (1 : Int32)), .val (.ref st_TRUE), .val (.ref rd4)] [(.ref rd4)])) rfl (by rw [hml]; rfl) (Steps.refl _) (argsL := []) (rest := []) (lenOf pd_5 rfl) rfl (Nat.le_refl _) (dd at_315) (fun _ _ => ⟨rfl, rfl, (by decide : 8 + 0 ≤ _), (by decide : 46 + 0 ≤ _)⟩)
  dsimp only [Pt.U, Pt.locs, Pt.cells, Pt.slots, Q_rm14] at X6 l6 y6 z6 st6 hQ6
  subst l6 y6 z6
  rw [show (fMp rd4 (6 : Int32)) = (6 : Int32) from (by unfold fMp; rfl)] at hQ6
  obtain ⟨rfl, N6q, e6⟩ := hQ6
  have N6 := Fr.app N4 N6q
  refine Gz.tr st6 ?_
  refine Gz.aload 320 X6 hx (dd at_318) rfl rfl rfl ?_
  refine Gz.iload 322 X6 hx (dd at_320) rfl rfl ?_
  obtain ⟨c7, A7, q7, S7, N7, H7, G7⟩ := id f4_V_ast
  have hin7 : ¬ ((5 : Int32) < 0 ∨ c7.slots.size ≤ ((5 : Int32)).toNatClampNeg) := inb_of S7 ⟨by decide, by decide⟩
  refine Gz.ldI 323 X6 hx hZ (dd at_322) e6 A7 hin7 (Has.at H7 hin7 (rfl : _ = ((.int (6 : Int32)) : Value))) rfl ?_
  refine Gz.icmpNo 326 X6 hx (dd at_323) (teq (by decide : (6 : Int32) = (6 : Int32))).2 rfl ?_
  refine Gz.aload 328 X6 hx (dd at_326) rfl rfl rfl ?_
  obtain ⟨cq8, kq8, q8a, q8b, q8c⟩ := isOf hZ e6 RE4
  obtain ⟨_, _, ⟨T8, L8, k8, n8⟩, -, X8, ⟨Lc8, hQ8, l8, y8, z8⟩, st8⟩ := X6.virtualBack hx (y := ym5) (z := ym5) hown (mvT hZ (ww hw 121 rfl)) (mvT hZ (ww hw 108 rfl)) (notFace_of_selects (args := #[]) (mvT hZ (ww hw 110 rfl))) (mvT hZ (ww hw 110 rfl)) (mvT hZ (ww hw 109 rfl)) (by decide) (backOf (W := 0) (rm15 l Z av0 hw [] rd4 dq T4.heap n0 SZ4 RD4) hZ (ww hw 111 rfl) (ww hw 83 rfl) (by decide) (by decide)) q8a q8c (g := (mkF m 328 #[s0, .val (.int dq), s2, s3, s4, .val (.ref ast), .val (.ref aks), .val (.int (5 : Int32)), s8, s9, .val (.ref rd), .val (.ref rd1), .val (.int (1 : Int32)), .val (.ref st_TRUE), .val (.ref rd4)] [(.ref rd4)])) rfl (by rw [hml]; rfl) (Steps.refl _) (argsL := []) (rest := []) (lenOf pd_5 rfl) rfl (Nat.le_refl _) (dd at_328) (fun _ _ => ⟨rfl, e6, (by decide : 8 + 0 ≤ _), (by decide : 46 + 0 ≤ _)⟩)
  dsimp only [Pt.U, Pt.locs, Pt.cells, Pt.slots, Q_rm15] at X8 l8 y8 z8 st8 hQ8
  subst l8 y8 z8
  rw [show (fMd rd4 dq) = dq from (by unfold fMd; rfl)] at hQ8
  obtain ⟨rfl, N8q, e8⟩ := hQ8
  have N8 := Fr.app N6 N8q
  refine Gz.tr st8 ?_
  refine Gz.iloadN 332 X8 hx (dd at_331) rfl rfl ?_
  refine Gz.icmpNo 335 X8 hx (dd at_332) (teq (rfl : dq = dq)).2 rfl ?_
  refine Gz.iconst 336 (1 : Int32) X8 hx (dd at_335) rfl rfl ?_
  refine Gz.goto 340 X8 hx (dd at_336) (by decide) (by decide) ?_
  refine Gz.fin X8 (v := some (.int (1 : Int32))) (fun h => by rw [hret] at h; cases h) hlk (by decide) (by decide) (fun fs hr => retN X8 hx (t := .boolean) hret (by simp) (dd at_340) hr) ?_
  exact ⟨rfl, N8⟩
theorem d13_0 : decode prog_11_method_8_code 0 = .ok (.aload_n 0, 1) := by decide +kernel
theorem d13_1 : decode prog_11_method_8_code 1 = .ok (.aload_n 1, 1) := by decide +kernel
theorem d13_2 : decode prog_11_method_8_code 2 = .ok (.invokevirtual 121, 3) := by decide +kernel
theorem d13_5 : decode prog_11_method_8_code 5 = .ok (.putfield 15, 3) := by decide +kernel
theorem d13_8 : decode prog_11_method_8_code 8 = .ok (.aload_n 0, 1) := by decide +kernel
theorem d13_9 : decode prog_11_method_8_code 9 = .ok (.aload_n 1, 1) := by decide +kernel
theorem d13_10 : decode prog_11_method_8_code 10 = .ok (.invokevirtual 123, 3) := by decide +kernel
theorem d13_13 : decode prog_11_method_8_code 13 = .ok (.putfield 115, 3) := by decide +kernel
theorem d13_16 : decode prog_11_method_8_code 16 = .ok (.aload_n 0, 1) := by decide +kernel
theorem d13_17 : decode prog_11_method_8_code 17 = .ok (.aconst_null, 1) := by decide +kernel
theorem d13_18 : decode prog_11_method_8_code 18 = .ok (.putfield 81, 3) := by decide +kernel
theorem d13_21 : decode prog_11_method_8_code 21 = .ok (.return_, 1) := by decide +kernel
theorem ef_rmRs_n (m : MethodId) (a0 : Addr) (a1 : Addr) : entryFrame m #[(.ref a0), (.ref a1)] 2 = mkF m 0 #[.val (.ref a0), .val (.ref a1)] [] := by first | (simp [entryFrame, mkF, argsToLocals, Value.category]; done) | rfl
def Q_rmRs_n (Z : State) (a0 : Addr) (a1 : Addr) (ba : Addr) (md : Int32) (ps : Int32) (dp : Int32) (fi : Int32) (ts : Int32) (xs : Int32) (xe : Int32) (es : Int32) (as_ : Int32) (ig : Int32) (k_ba : ClassId) (mp : Int32) (mdp : Int32) (h0 : Heap) (n0 : Nat) (v : Option Value) (h : Heap) (L : List Loc) : Prop := v = none ∧ Fr n0 L ∧ Keep h0 h [a0] ∧ Exa Z h a0 cs0 ∧ Fld Z h a0 cs0 "bytes" "[B" (.ref ba) ∧ Fld Z h a0 cs0 "maxDepth" "I" (.int md) ∧ Fld Z h a0 cs0 "position" "I" (.int mp) ∧ Fld Z h a0 cs0 "depth" "I" (.int mdp) ∧ Fld Z h a0 cs0 "first" "Z" (.int fi) ∧ Fld Z h a0 cs0 "token" "Lcom/example/bad_status/badstatus/model/JsonReader$Token;" .null ∧ Fld Z h a0 cs0 "tokenStart" "I" (.int ts) ∧ Fld Z h a0 cs0 "textStart" "I" (.int xs) ∧ Fld Z h a0 cs0 "textEnd" "I" (.int xe) ∧ Fld Z h a0 cs0 "escaped" "Z" (.int es) ∧ Fld Z h a0 cs0 "ascii" "Z" (.int as_) ∧ Fld Z h a0 cs0 "integral" "Z" (.int ig)
set_option maxRecDepth 65536 in
set_option maxHeartbeats 40000000 in
theorem rmRs_n (l : Launch) (Z : State) (av0 : Array Value) (hw : ∀ d ∈ tables_1, d.before av0 Z = true) (ws : List Jvm.Cond) (a0 : Addr) (a1 : Addr) (ba : Addr) (md : Int32) (ps : Int32) (dp : Int32) (fi : Int32) (ts : Int32) (xs : Int32) (xe : Int32) (es : Int32) (as_ : Int32) (ig : Int32) (k_ba : ClassId) (mp : Int32) (mdp : Int32) (h0 : Heap) (n0 : Nat) (Z0 : n0 ≤ h0.size) (E_a0 : Exa Z h0 a0 cs0) (F_bytes_a0 : Fld Z h0 a0 cs0 "bytes" "[B" (.ref ba)) (F_maxDepth_a0 : Fld Z h0 a0 cs0 "maxDepth" "I" (.int md)) (F_position_a0 : Fld Z h0 a0 cs0 "position" "I" (.int ps)) (F_depth_a0 : Fld Z h0 a0 cs0 "depth" "I" (.int dp)) (F_first_a0 : Fld Z h0 a0 cs0 "first" "Z" (.int fi)) (F_token_a0 : Fld Z h0 a0 cs0 "token" "Lcom/example/bad_status/badstatus/model/JsonReader$Token;" .null) (F_tokenStart_a0 : Fld Z h0 a0 cs0 "tokenStart" "I" (.int ts)) (F_textStart_a0 : Fld Z h0 a0 cs0 "textStart" "I" (.int xs)) (F_textEnd_a0 : Fld Z h0 a0 cs0 "textEnd" "I" (.int xe)) (F_escaped_a0 : Fld Z h0 a0 cs0 "escaped" "Z" (.int es)) (F_ascii_a0 : Fld Z h0 a0 cs0 "ascii" "Z" (.int as_)) (F_integral_a0 : Fld Z h0 a0 cs0 "integral" "Z" (.int ig)) (g_a0 : n0 ≤ a0) (V_ba : Arv Z h0 ba k_ba .byte (10 : Int32) [(.int (91 : Int32)), (.int (32 : Int32)), (.int (52 : Int32)), (.int (50 : Int32)), (.int (44 : Int32)), (.int (91 : Int32)), (.int (116 : Int32)), (.int (114 : Int32)), (.int (117 : Int32)), (.int (101 : Int32))] (.int (0 : Int32))) (ne_ba_a0 : ba ≠ a0) (E_a1 : Exa Z h0 a1 cs2) (F_position_a1 : Fld Z h0 a1 cs2 "position" "I" (.int mp)) (F_depth_a1 : Fld Z h0 a1 cs2 "depth" "I" (.int mdp)) (ne_a1_a0 : a1 ≠ a0) :
    MetFree l (⟨cs0, "reset", "(Lcom/example/bad_status/badstatus/model/JsonReader$Mark;)V"⟩ : MethodName) (head1 (Jvm.Cond.code (⟨cs0, "reset", "(Lcom/example/bad_status/badstatus/model/JsonReader$Mark;)V"⟩ : MethodName) prog_11_method_8_code 2 none :: ws) ({ frames := 1, cells := 0, slots := 0, locals := 13 } : Room)) (fun a U => a = #[(.ref a0), (.ref a1)] ∧ Z.Warmed39 U.vm ∧ U.heap = h0) (fun _ _ _ _ _ => True) (fun _ U o U' => ∃ v L, o = .returned v ∧ Q_rmRs_n Z a0 a1 ba md ps dp fi ts xs xe es as_ ig k_ba mp mdp h0 n0 v U'.heap L ∧ FrameEnd U o U' L ({ frames := 1, cells := 0, slots := 0, locals := 13 } : Room).cells ({ frames := 1, cells := 0, slots := 0, locals := 13 } : Room).slots) := by
  refine MetFree.of_bodySF (plainFor_of_name pn_0) hisR ?_
  intro p e s m args below meth c s₁ Bd hml0 hP hK
  obtain ⟨rfl, hZ, hh⟩ := hP
  have hx := Bd.exec
  have hby := Bd.bytes
  have hml : c.maxLocals = 2 := hml0
  have dd : ∀ {pc : Nat} {r : Except DecodeError (Instr × Nat)}, decode prog_11_method_8_code pc = r → decode c.code pc = r := fun q => hb hby q
  have hown : s.vm.findClass cs0 = some m.cls := findClass_of_methodNamed Bd.named
  have hnm := (name_of_methodNamed Bd.named Bd.method).1
  have X0 : Stand p l e ({ frames := 1, cells := 0, slots := 0, locals := 13 } : Room) s m #[(.ref a0), (.ref a1)] below meth c s₁ [] 0 0 := Stand.of_body Bd
  have e0 : s₁.heap = h0 := by rw [← hh, Bd.state]; rfl
  have N0 := Fr.nil n0
  have hret := Bd.returns
  have hlk := Bd.notSynchronized
  show Gz p e below s ({ frames := 1, cells := 0, slots := 0, locals := 13 } : Room).cells ({ frames := 1, cells := 0, slots := 0, locals := 13 } : Room).slots (Q_rmRs_n Z a0 a1 ba md ps dp fi ts xs xe es as_ ig k_ba mp mdp h0 n0) (s₁.setTop (entryFrame m #[(.ref a0), (.ref a1)] 2))
  refine Gz.enter (ef_rmRs_n m a0 a1) ?_
  refine Gz.aloadN 1 X0 hx (dd d13_0) rfl rfl rfl ?_
  refine Gz.aloadN 2 X0 hx (dd d13_1) rfl rfl rfl ?_
  obtain ⟨cq1, kq1, q1a, q1b, q1c⟩ := isOf hZ e0 E_a1
  obtain ⟨_, _, ⟨T1, L1, k1, n1⟩, -, X1, ⟨Lc1, hQ1, l1, y1, z1⟩, st1⟩ := X0.virtualBack hx (y := ym10) (z := ym10) hown (mvT hZ (ww hw 102 rfl)) (mvT hZ (ww hw 103 rfl)) (notFace_of_selects (args := #[]) (mvT hZ (ww hw 105 rfl))) (mvT hZ (ww hw 105 rfl)) (mvT hZ (ww hw 104 rfl)) (by decide) (backOf (W := 1) (rm14 l Z av0 hw [] a1 mp h0 n0 Z0 F_position_a1) hZ (ww hw 106 rfl) (ww hw 83 rfl) (by decide) (by decide)) q1a q1c (g := (mkF m 2 #[.val (.ref a0), .val (.ref a1)] [(.ref a1), (.ref a0)])) rfl (by rw [hml]; rfl) (Steps.refl _) (argsL := []) (rest := [(.ref a0)]) (lenOf pd_5 rfl) rfl (Nat.le_refl _) (dd d13_2) (fun _ _ => ⟨rfl, e0, (by decide : 0 + 0 ≤ _), (by decide : 0 + 0 ≤ _)⟩)
  dsimp only [Pt.U, Pt.locs, Pt.cells, Pt.slots, Q_rm14] at X1 l1 y1 z1 st1 hQ1
  subst l1 y1 z1
  rw [show (fMp a1 mp) = mp from (by unfold fMp; rfl)] at hQ1
  obtain ⟨rfl, N1q, e1⟩ := hQ1
  have N1 := Fr.app N0 N1q
  refine Gz.tr st1 ?_
  refine Gz.putF 8 X1 hx hZ hown .int (dd d13_5) (host := "") (Or.inl (ww hw 24 rfl)) Via.refl e1 F_position_a0 E_a0 (Or.inl (ww hw 25 rfl)) (ww hw 14 rfl) (by decide) rfl rfl rfl fun T2 h2 X2 e2 W2 => ?_
  have f2_E_a0 := Exa.wr W2 E_a0
  have f2_F_bytes_a0 := Fld.other W2 F_bytes_a0 (Or.inr (Ne.symm <| sn1 hw))
  have f2_F_maxDepth_a0 := Fld.other W2 F_maxDepth_a0 (Or.inr (sn11 hw))
  have f2_F_depth_a0 := Fld.other W2 F_depth_a0 (Or.inr (sn12 hw))
  have f2_F_first_a0 := Fld.other W2 F_first_a0 (Or.inr (sn13 hw))
  have f2_F_token_a0 := Fld.other W2 F_token_a0 (Or.inr (sn14 hw))
  have f2_F_tokenStart_a0 := Fld.other W2 F_tokenStart_a0 (Or.inr (sn15 hw))
  have f2_F_textStart_a0 := Fld.other W2 F_textStart_a0 (Or.inr (sn16 hw))
  have f2_F_textEnd_a0 := Fld.other W2 F_textEnd_a0 (Or.inr (sn17 hw))
  have f2_F_escaped_a0 := Fld.other W2 F_escaped_a0 (Or.inr (sn18 hw))
  have f2_F_ascii_a0 := Fld.other W2 F_ascii_a0 (Or.inr (sn19 hw))
  have f2_F_integral_a0 := Fld.other W2 F_integral_a0 (Or.inr (sn20 hw))
  have f2_V_ba := Arv.other V_ba W2 ne_ba_a0
  have f2_E_a1 := Exa.wr W2 E_a1
  have f2_F_position_a1 := Fld.other W2 F_position_a1 (Or.inl ne_a1_a0)
  have f2_F_depth_a1 := Fld.other W2 F_depth_a1 (Or.inl ne_a1_a0)
  have f2_F_position_a0 := Fld.same W2 F_position_a0
  have N2 := Fr.snoc X2 N1 g_a0
  have SZ2 : n0 ≤ h2.size := Nat.le_trans Z0 (Keep.of_wr W2).1
  have K2 := Keep.wr (Keep.refl h0 [a0]) W2 (Or.inl (List.mem_of_getElem? (i := 0) rfl))
  refine Gz.aloadN 9 X2 hx (dd d13_8) rfl rfl rfl ?_
  refine Gz.aloadN 10 X2 hx (dd d13_9) rfl rfl rfl ?_
  obtain ⟨cq3, kq3, q3a, q3b, q3c⟩ := isOf hZ e2 f2_E_a1
  obtain ⟨_, _, ⟨T3, L3, k3, n3⟩, -, X3, ⟨Lc3, hQ3, l3, y3, z3⟩, st3⟩ := X2.virtualBack hx (y := ym5) (z := ym5) hown (mvT hZ (ww hw 107 rfl)) (mvT hZ (ww hw 108 rfl)) (notFace_of_selects (args := #[]) (mvT hZ (ww hw 110 rfl))) (mvT hZ (ww hw 110 rfl)) (mvT hZ (ww hw 109 rfl)) (by decide) (backOf (W := 1) (rm15 l Z av0 hw [] a1 mdp h2 n0 SZ2 f2_F_depth_a1) hZ (ww hw 111 rfl) (ww hw 83 rfl) (by decide) (by decide)) q3a q3c (g := (mkF m 10 #[.val (.ref a0), .val (.ref a1)] [(.ref a1), (.ref a0)])) rfl (by rw [hml]; rfl) (Steps.refl _) (argsL := []) (rest := [(.ref a0)]) (lenOf pd_5 rfl) rfl (Nat.le_refl _) (dd d13_10) (fun _ _ => ⟨rfl, e2, (by decide : 0 + 0 ≤ _), (by decide : 0 + 0 ≤ _)⟩)
  dsimp only [Pt.U, Pt.locs, Pt.cells, Pt.slots, Q_rm15] at X3 l3 y3 z3 st3 hQ3
  subst l3 y3 z3
  rw [show (fMd a1 mdp) = mdp from (by unfold fMd; rfl)] at hQ3
  obtain ⟨rfl, N3q, e3⟩ := hQ3
  have N3 := Fr.app N2 N3q
  refine Gz.tr st3 ?_
  refine Gz.putF 16 X3 hx hZ hown .int (dd d13_13) (host := "") (Or.inl (ww hw 47 rfl)) Via.refl e3 f2_F_depth_a0 f2_E_a0 (Or.inl (ww hw 48 rfl)) (ww hw 14 rfl) (by decide) rfl rfl rfl fun T4 h4 X4 e4 W4 => ?_
  have f4_E_a0 := Exa.wr W4 f2_E_a0
  have f4_F_bytes_a0 := Fld.other W4 f2_F_bytes_a0 (Or.inr (Ne.symm <| sn2 hw))
  have f4_F_maxDepth_a0 := Fld.other W4 f2_F_maxDepth_a0 (Or.inr (Ne.symm <| sn21 hw))
  have f4_F_position_a0 := Fld.other W4 f2_F_position_a0 (Or.inr (Ne.symm <| sn12 hw))
  have f4_F_first_a0 := Fld.other W4 f2_F_first_a0 (Or.inr (sn39 hw))
  have f4_F_token_a0 := Fld.other W4 f2_F_token_a0 (Or.inr (sn40 hw))
  have f4_F_tokenStart_a0 := Fld.other W4 f2_F_tokenStart_a0 (Or.inr (Ne.symm <| sn31 hw))
  have f4_F_textStart_a0 := Fld.other W4 f2_F_textStart_a0 (Or.inr (sn41 hw))
  have f4_F_textEnd_a0 := Fld.other W4 f2_F_textEnd_a0 (Or.inr (sn42 hw))
  have f4_F_escaped_a0 := Fld.other W4 f2_F_escaped_a0 (Or.inr (sn43 hw))
  have f4_F_ascii_a0 := Fld.other W4 f2_F_ascii_a0 (Or.inr (sn44 hw))
  have f4_F_integral_a0 := Fld.other W4 f2_F_integral_a0 (Or.inr (sn45 hw))
  have f4_V_ba := Arv.other f2_V_ba W4 ne_ba_a0
  have f4_E_a1 := Exa.wr W4 f2_E_a1
  have f4_F_position_a1 := Fld.other W4 f2_F_position_a1 (Or.inl ne_a1_a0)
  have f4_F_depth_a1 := Fld.other W4 f2_F_depth_a1 (Or.inl ne_a1_a0)
  have f4_F_depth_a0 := Fld.same W4 f2_F_depth_a0
  have N4 := Fr.snoc X4 N3 g_a0
  have SZ4 : n0 ≤ h4.size := Nat.le_trans SZ2 (Keep.of_wr W4).1
  have K4 := Keep.wr K2 W4 (Or.inl (List.mem_of_getElem? (i := 0) rfl))
  refine Gz.aloadN 17 X4 hx (dd d13_16) rfl rfl rfl ?_
  refine Gz.aconstNull 18 X4 hx (dd d13_17) rfl ?_
  refine Gz.putF 21 X4 hx hZ hown (.object cs1) (dd d13_18) (host := "") (Or.inl (ww hw 51 rfl)) Via.refl e4 f4_F_token_a0 f4_E_a0 (Or.inl (ww hw 52 rfl)) (ww hw 14 rfl) (by decide) rfl rfl rfl fun T5 h5 X5 e5 W5 => ?_
  have f5_E_a0 := Exa.wr W5 f4_E_a0
  have f5_F_bytes_a0 := Fld.other W5 f4_F_bytes_a0 (Or.inr (Ne.symm <| sn4 hw))
  have f5_F_maxDepth_a0 := Fld.other W5 f4_F_maxDepth_a0 (Or.inr (Ne.symm <| sn23 hw))
  have f5_F_position_a0 := Fld.other W5 f4_F_position_a0 (Or.inr (Ne.symm <| sn14 hw))
  have f5_F_depth_a0 := Fld.other W5 f4_F_depth_a0 (Or.inr (Ne.symm <| sn40 hw))
  have f5_F_first_a0 := Fld.other W5 f4_F_first_a0 (Or.inr (Ne.symm <| sn46 hw))
  have f5_F_tokenStart_a0 := Fld.other W5 f4_F_tokenStart_a0 (Or.inr (Ne.symm <| sn33 hw))
  have f5_F_textStart_a0 := Fld.other W5 f4_F_textStart_a0 (Or.inr (sn52 hw))
  have f5_F_textEnd_a0 := Fld.other W5 f4_F_textEnd_a0 (Or.inr (sn53 hw))
  have f5_F_escaped_a0 := Fld.other W5 f4_F_escaped_a0 (Or.inr (sn54 hw))
  have f5_F_ascii_a0 := Fld.other W5 f4_F_ascii_a0 (Or.inr (sn55 hw))
  have f5_F_integral_a0 := Fld.other W5 f4_F_integral_a0 (Or.inr (sn56 hw))
  have f5_V_ba := Arv.other f4_V_ba W5 ne_ba_a0
  have f5_E_a1 := Exa.wr W5 f4_E_a1
  have f5_F_position_a1 := Fld.other W5 f4_F_position_a1 (Or.inl ne_a1_a0)
  have f5_F_depth_a1 := Fld.other W5 f4_F_depth_a1 (Or.inl ne_a1_a0)
  have f5_F_token_a0 := Fld.same W5 f4_F_token_a0
  have N5 := Fr.snoc X5 N4 g_a0
  have SZ5 : n0 ≤ h5.size := Nat.le_trans SZ4 (Keep.of_wr W5).1
  have K5 := Keep.wr K4 W5 (Or.inl (List.mem_of_getElem? (i := 0) rfl))
  refine Gz.fin X5 (v := none) (fun _ => rfl) hlk (by decide) (by decide) (fun fs hr => X5.returnOut hx hret (dd d13_21) hr) ?_
  rw [e5]
  exact ⟨rfl, N5, K5, f5_E_a0, f5_F_bytes_a0, f5_F_maxDepth_a0, f5_F_position_a0, f5_F_depth_a0, f5_F_first_a0, f5_F_token_a0, f5_F_tokenStart_a0, f5_F_textStart_a0, f5_F_textEnd_a0, f5_F_escaped_a0, f5_F_ascii_a0, f5_F_integral_a0⟩
theorem pd_13 : parseMethodDescriptor "(Lcom/example/bad_status/badstatus/model/JsonReader$Mark;)V" = some ⟨[(.object cs2)], none⟩ := by decide +kernel
abbrev ym16 : MethodName := ⟨cs0, "reset", "(Lcom/example/bad_status/badstatus/model/JsonReader$Mark;)V"⟩
set_option maxRecDepth 65536 in
set_option maxHeartbeats 40000000 in
theorem sgBn {p : Program} {l : Launch} {e : Env} {s : State} {m : MethodId} {args : Array Value} {below : List Frame} {meth : Method} {c : Code} {T0 : State} {locs : List Loc} {Z : State} {av0 : Array Value} {hS : Heap} (s0 : Slot) (dq : Int32) (s2 : Slot) (s3 : Slot) (aat : Addr) (ast : Addr) (aks : Addr) (kk : Int32) (s8 : Slot) (s9 : Slot) (rd : Addr) (st_OBJECT : Addr) (st_ARRAY : Addr) (st_NUMBER : Addr) (st_TRUE : Addr) (tb : Addr) (k_tb : ClassId) (ba : Addr) (md : Int32) (ps : Int32) (dp : Int32) (fi : Int32) (ts : Int32) (xs : Int32) (xe : Int32) (es : Int32) (as_ : Int32) (ig : Int32) (k_ba : ClassId) (k_aat : ClassId) (k_ast : ClassId) (k_aks : ClassId) (n0 : Nat)
    (X0 : Stand p l e room_1 s m args below meth c T0 locs 5 40) (hx : p.tables.exec = Jvm.exec) (hZ : Z.Warmed39 s.vm) (hw : ∀ d ∈ tables_1, d.before av0 Z = true) (hby : c.code = code) (hml : c.maxLocals = 15) (hown : s.vm.findClass "com/example/bad_status/badstatus/model/JsonReaderResetPinLaw" = some m.cls) (hret : meth.sig.returnType = some .boolean) (hlk : meth.locks = false) (e0 : T0.heap = hS) (N0 : Fr n0 locs) (Z0 : n0 ≤ hS.size) (S_st_OBJECT : Sta Z hS cs1 "OBJECT" "Lcom/example/bad_status/badstatus/model/JsonReader$Token;" (.ref st_OBJECT)) (S_st_ARRAY : Sta Z hS cs1 "ARRAY" "Lcom/example/bad_status/badstatus/model/JsonReader$Token;" (.ref st_ARRAY)) (S_st_NUMBER : Sta Z hS cs1 "NUMBER" "Lcom/example/bad_status/badstatus/model/JsonReader$Token;" (.ref st_NUMBER)) (S_st_TRUE : Sta Z hS cs1 "TRUE" "Lcom/example/bad_status/badstatus/model/JsonReader$Token;" (.ref st_TRUE)) (ne_st_OBJECT_st_ARRAY : st_OBJECT ≠ st_ARRAY) (ne_st_OBJECT_st_NUMBER : st_OBJECT ≠ st_NUMBER) (ne_st_OBJECT_st_TRUE : st_OBJECT ≠ st_TRUE) (ne_st_ARRAY_st_NUMBER : st_ARRAY ≠ st_NUMBER) (ne_st_ARRAY_st_TRUE : st_ARRAY ≠ st_TRUE) (S_tb : Sta Z hS cs0 "TRUE" "[B" (.ref tb)) (V_tb : Arv Z hS tb k_tb .byte (4 : Int32) [(.int (116 : Int32)), (.int (114 : Int32)), (.int (117 : Int32)), (.int (101 : Int32))] (.int (0 : Int32))) (E_rd : Exa Z hS rd cs0) (F_bytes_rd : Fld Z hS rd cs0 "bytes" "[B" (.ref ba)) (F_maxDepth_rd : Fld Z hS rd cs0 "maxDepth" "I" (.int md)) (F_position_rd : Fld Z hS rd cs0 "position" "I" (.int ps)) (F_depth_rd : Fld Z hS rd cs0 "depth" "I" (.int dp)) (F_first_rd : Fld Z hS rd cs0 "first" "Z" (.int fi)) (F_token_rd : Fld Z hS rd cs0 "token" "Lcom/example/bad_status/badstatus/model/JsonReader$Token;" .null) (F_tokenStart_rd : Fld Z hS rd cs0 "tokenStart" "I" (.int ts)) (F_textStart_rd : Fld Z hS rd cs0 "textStart" "I" (.int xs)) (F_textEnd_rd : Fld Z hS rd cs0 "textEnd" "I" (.int xe)) (F_escaped_rd : Fld Z hS rd cs0 "escaped" "Z" (.int es)) (F_ascii_rd : Fld Z hS rd cs0 "ascii" "Z" (.int as_)) (F_integral_rd : Fld Z hS rd cs0 "integral" "Z" (.int ig)) (g_rd : n0 ≤ rd) (V_ba : Arv Z hS ba k_ba .byte (10 : Int32) [(.int (91 : Int32)), (.int (32 : Int32)), (.int (52 : Int32)), (.int (50 : Int32)), (.int (44 : Int32)), (.int (91 : Int32)), (.int (116 : Int32)), (.int (114 : Int32)), (.int (117 : Int32)), (.int (101 : Int32))] (.int (0 : Int32))) (ne_ba_rd : ba ≠ rd) (V_aat : Arv Z hS aat k_aat .int (6 : Int32) [(.int (0 : Int32)), (.int (1 : Int32)), (.int (2 : Int32)), (.int (3 : Int32)), (.int (5 : Int32)), (.int (6 : Int32))] (.int (0 : Int32))) (V_ast : Arv Z hS ast k_ast .int (6 : Int32) [(.int (0 : Int32)), (.int (2 : Int32)), (.int (2 : Int32)), (.int (3 : Int32)), (.int (5 : Int32)), (.int (6 : Int32))] (.int (0 : Int32))) (V_aks : Arv Z hS aks k_aks (.object cs1) (6 : Int32) [(.ref st_ARRAY), (.ref st_NUMBER), (.ref st_NUMBER), (.ref st_NUMBER), (.ref st_ARRAY), (.ref st_TRUE)] .null) (ne_aat_rd : aat ≠ rd) (ne_ast_rd : ast ≠ rd) (ne_aks_rd : aks ≠ rd) (ne_tb_rd : tb ≠ rd) (hdm : ¬ (dq = md)) (hkk : kk = (0 : Int32) ∨ kk = (1 : Int32) ∨ kk = (2 : Int32) ∨ kk = (3 : Int32) ∨ kk = (4 : Int32) ∨ kk = (5 : Int32)) :
    Gz p e below s 24 192 (Q_law n0) (T0.setTop (mkF m 243 #[s0, .val (.int dq), s2, s3, .val (.ref aat), .val (.ref ast), .val (.ref aks), .val (.int kk), s8, s9, .val (.ref rd), .unset, .unset, .unset, .unset] [])) := by
  have dd : ∀ {pc : Nat} {r : Except DecodeError (Instr × Nat)}, decode code pc = r → decode c.code pc = r := fun q => hb hby q
  show Gz p e below s _ _ _ (T0.setTop (mkF m 243 #[s0, .val (.int dq), s2, s3, .val (.ref aat), .val (.ref ast), .val (.ref aks), .val (.int kk), s8, s9, .val (.ref rd), .unset, .unset, .unset, .unset] []))
  rcases hkk with rfl | rfl | rfl | rfl | rfl | rfl
  · refine Gz.aload 245 X0 hx (dd at_243) rfl rfl rfl ?_
    obtain ⟨T1, h1, X1, e1, E1, A1, D1, -, st1⟩ := newO X0 hx hZ hown (ww hw 81 rfl) (ww hw 82 rfl) (ww hw 83 rfl) e0 (g := (mkF m 245 #[s0, .val (.int dq), s2, s3, .val (.ref aat), .val (.ref ast), .val (.ref aks), .val (.int (0 : Int32)), s8, s9, .val (.ref rd), .unset, .unset, .unset, .unset] [(.ref rd)])) rfl (dd at_245) (by decide) (by decide)
    obtain ⟨b1, g1⟩ : ∃ z, z = hS.size := ⟨_, rfl⟩
    rw [← g1] at A1 D1 st1
    have ne_tb_b1 : tb ≠ b1 := Nat.ne_of_lt (Nat.lt_of_lt_of_le (V_tb).lt (Nat.le_of_eq g1.symm))
    have ne_rd_b1 : rd ≠ b1 := Nat.ne_of_lt (Nat.lt_of_lt_of_le (E_rd).lt (Nat.le_of_eq g1.symm))
    have ne_ba_b1 : ba ≠ b1 := Nat.ne_of_lt (Nat.lt_of_lt_of_le (V_ba).lt (Nat.le_of_eq g1.symm))
    have ne_aat_b1 : aat ≠ b1 := Nat.ne_of_lt (Nat.lt_of_lt_of_le (V_aat).lt (Nat.le_of_eq g1.symm))
    have ne_ast_b1 : ast ≠ b1 := Nat.ne_of_lt (Nat.lt_of_lt_of_le (V_ast).lt (Nat.le_of_eq g1.symm))
    have ne_aks_b1 : aks ≠ b1 := Nat.ne_of_lt (Nat.lt_of_lt_of_le (V_aks).lt (Nat.le_of_eq g1.symm))
    have g_b1 : n0 ≤ b1 := Nat.le_trans Z0 (Nat.le_of_eq g1.symm)
    have SZ1 : n0 ≤ h1.size := Nat.le_trans Z0 E1.1
    have f1_S_st_OBJECT := Sta.ext E1 S_st_OBJECT
    have f1_S_st_ARRAY := Sta.ext E1 S_st_ARRAY
    have f1_S_st_NUMBER := Sta.ext E1 S_st_NUMBER
    have f1_S_st_TRUE := Sta.ext E1 S_st_TRUE
    have f1_S_tb := Sta.ext E1 S_tb
    have f1_V_tb := Arv.ext V_tb E1
    have f1_E_rd := Exa.ext E1 E_rd
    have f1_F_bytes_rd := Fld.ext E1 F_bytes_rd
    have f1_F_maxDepth_rd := Fld.ext E1 F_maxDepth_rd
    have f1_F_position_rd := Fld.ext E1 F_position_rd
    have f1_F_depth_rd := Fld.ext E1 F_depth_rd
    have f1_F_first_rd := Fld.ext E1 F_first_rd
    have f1_F_token_rd := Fld.ext E1 F_token_rd
    have f1_F_tokenStart_rd := Fld.ext E1 F_tokenStart_rd
    have f1_F_textStart_rd := Fld.ext E1 F_textStart_rd
    have f1_F_textEnd_rd := Fld.ext E1 F_textEnd_rd
    have f1_F_escaped_rd := Fld.ext E1 F_escaped_rd
    have f1_F_ascii_rd := Fld.ext E1 F_ascii_rd
    have f1_F_integral_rd := Fld.ext E1 F_integral_rd
    have f1_V_ba := Arv.ext V_ba E1
    have f1_V_aat := Arv.ext V_aat E1
    have f1_V_ast := Arv.ext V_ast E1
    have f1_V_aks := Arv.ext V_aks E1
    have F_position_b1 : Fld Z h1 b1 cs2 "position" "I" (.int (0 : Int32)) := D1 (Or.inr (ww hw 94 rfl)) (ty := .int) (by decide)
    have F_depth_b1 : Fld Z h1 b1 cs2 "depth" "I" (.int (0 : Int32)) := D1 (Or.inr (ww hw 96 rfl)) (ty := .int) (by decide)
    refine Gz.st st1 ?_
    refine Gz.dup 249 X1 hx (dd at_248) rfl rfl ?_
    refine Gz.aload 251 X1 hx (dd at_249) rfl rfl rfl ?_
    refine Gz.iload 253 X1 hx (dd at_251) rfl rfl ?_
    obtain ⟨c2, A2, q2, S2, N2, H2, G2⟩ := id f1_V_aat
    have hin2 : ¬ ((0 : Int32) < 0 ∨ c2.slots.size ≤ ((0 : Int32)).toNatClampNeg) := inb_of S2 ⟨by decide, by decide⟩
    refine Gz.ldI 254 X1 hx hZ (dd at_253) e1 A2 hin2 (Has.at H2 hin2 (rfl : _ = ((.int (0 : Int32)) : Value))) rfl ?_
    refine Gz.iloadN 255 X1 hx (dd at_254) rfl rfl ?_
    obtain ⟨_, _, ⟨T3, L3, k3, n3⟩, -, X3, ⟨Lc3, hQ3, l3, y3, z3⟩, st3⟩ := X1.specialBack hx (y := ym3) rfl hown (mvT hZ (ww hw 84 rfl)) (mvT hZ (ww hw 85 rfl)) (mvT hZ (ww hw 86 rfl)) (by decide) (backOf (W := 2) (rm11 l Z av0 hw [] b1 (0 : Int32) dq  h1 n0 SZ1 A1 F_position_b1 F_depth_b1 g_b1) hZ (ww hw 86 rfl) (ww hw 83 rfl) (by decide) (by decide)) (g := (mkF m 255 #[s0, .val (.int dq), s2, s3, .val (.ref aat), .val (.ref ast), .val (.ref aks), .val (.int (0 : Int32)), s8, s9, .val (.ref rd), .unset, .unset, .unset, .unset] [(.int dq), (.int (0 : Int32)), (.ref b1), (.ref b1), (.ref rd)])) rfl (by rw [hml]; rfl) (Steps.refl _) (a := b1) (argsL := [(.int (0 : Int32)), (.int dq)]) (rest := [(.ref b1), (.ref rd)]) (lenOf pd_3 rfl) rfl (Nat.le_refl _) (dd at_255) (fun _ _ => ⟨rfl, e1, (by decide : 6 + 0 ≤ _), (by decide : 42 + 0 ≤ _)⟩)
    dsimp only [Pt.U, Pt.locs, Pt.cells, Pt.slots, Q_rm11] at X3 l3 y3 z3 st3 hQ3
    subst l3 y3 z3
    obtain ⟨rfl, N3q, K3q, QE3_0, QF3_0, QF3_1⟩ := hQ3
    have N3 := Fr.app N0 N3q
    have f3_S_st_OBJECT := own_staK f1_S_st_OBJECT K3q (allS (nst_of A1) all0)
    have f3_S_st_ARRAY := own_staK f1_S_st_ARRAY K3q (allS (nst_of A1) all0)
    have f3_S_st_NUMBER := own_staK f1_S_st_NUMBER K3q (allS (nst_of A1) all0)
    have f3_S_st_TRUE := own_staK f1_S_st_TRUE K3q (allS (nst_of A1) all0)
    have f3_S_tb := own_staK f1_S_tb K3q (allS (nst_of A1) all0)
    have f3_V_tb := Arv.keep f1_V_tb K3q (ninS ne_tb_b1 nin0)
    have f3_E_rd := Exa.keep f1_E_rd K3q
    have f3_F_bytes_rd := Fld.keep f1_F_bytes_rd K3q (ninS ne_rd_b1 nin0)
    have f3_F_maxDepth_rd := Fld.keep f1_F_maxDepth_rd K3q (ninS ne_rd_b1 nin0)
    have f3_F_position_rd := Fld.keep f1_F_position_rd K3q (ninS ne_rd_b1 nin0)
    have f3_F_depth_rd := Fld.keep f1_F_depth_rd K3q (ninS ne_rd_b1 nin0)
    have f3_F_first_rd := Fld.keep f1_F_first_rd K3q (ninS ne_rd_b1 nin0)
    have f3_F_token_rd := Fld.keep f1_F_token_rd K3q (ninS ne_rd_b1 nin0)
    have f3_F_tokenStart_rd := Fld.keep f1_F_tokenStart_rd K3q (ninS ne_rd_b1 nin0)
    have f3_F_textStart_rd := Fld.keep f1_F_textStart_rd K3q (ninS ne_rd_b1 nin0)
    have f3_F_textEnd_rd := Fld.keep f1_F_textEnd_rd K3q (ninS ne_rd_b1 nin0)
    have f3_F_escaped_rd := Fld.keep f1_F_escaped_rd K3q (ninS ne_rd_b1 nin0)
    have f3_F_ascii_rd := Fld.keep f1_F_ascii_rd K3q (ninS ne_rd_b1 nin0)
    have f3_F_integral_rd := Fld.keep f1_F_integral_rd K3q (ninS ne_rd_b1 nin0)
    have f3_V_ba := Arv.keep f1_V_ba K3q (ninS ne_ba_b1 nin0)
    have f3_V_aat := Arv.keep f1_V_aat K3q (ninS ne_aat_b1 nin0)
    have f3_V_ast := Arv.keep f1_V_ast K3q (ninS ne_ast_b1 nin0)
    have f3_V_aks := Arv.keep f1_V_aks K3q (ninS ne_aks_b1 nin0)
    have f3_Eb1 := Exa.keep A1 K3q
    have SZ3 := Nat.le_trans SZ1 K3q.1
    refine Gz.tr st3 ?_
    obtain ⟨cq4, kq4, q4a, q4b, q4c⟩ := isOf hZ rfl f3_E_rd
    obtain ⟨_, _, ⟨T4, L4, k4, n4⟩, -, X4, ⟨Lc4, hQ4, l4, y4, z4⟩, st4⟩ := X3.virtualBack hx (y := ym16) (z := ym16) hown (mvT hZ (ww hw 97 rfl)) (mvT hZ (ww hw 98 rfl)) (notFace_of_selects (args := #[]) (mvT hZ (ww hw 100 rfl))) (mvT hZ (ww hw 100 rfl)) (mvT hZ (ww hw 99 rfl)) (by decide) (backOf (W := 0) (rmRs_n l Z av0 hw [] rd b1 ba md ps dp fi ts xs xe es as_ ig k_ba (0 : Int32) dq T3.heap n0 SZ3 f3_E_rd f3_F_bytes_rd f3_F_maxDepth_rd f3_F_position_rd f3_F_depth_rd f3_F_first_rd f3_F_token_rd f3_F_tokenStart_rd f3_F_textStart_rd f3_F_textEnd_rd f3_F_escaped_rd f3_F_ascii_rd f3_F_integral_rd g_rd f3_V_ba ne_ba_rd QE3_0 QF3_0 QF3_1 (Ne.symm ne_rd_b1)) hZ (ww hw 101 rfl) (ww hw 15 rfl) (by decide) (by decide)) q4a q4c (g := (mkF m 258 #[s0, .val (.int dq), s2, s3, .val (.ref aat), .val (.ref ast), .val (.ref aks), .val (.int (0 : Int32)), s8, s9, .val (.ref rd), .unset, .unset, .unset, .unset] [(.ref b1), (.ref rd)])) rfl (by rw [hml]; rfl) (Steps.refl _) (argsL := [(.ref b1)]) (rest := []) (lenOf pd_13 rfl) rfl (Nat.le_refl _) (dd at_258) (fun _ _ => ⟨rfl, rfl, (by decide : 6 + 0 ≤ _), (by decide : 42 + 0 ≤ _)⟩)
    dsimp only [Pt.U, Pt.locs, Pt.cells, Pt.slots, Q_rmRs_n] at X4 l4 y4 z4 st4 hQ4
    subst l4 y4 z4
    obtain ⟨rfl, N4q, K4q, QE4_0, QF4_0, QF4_1, QF4_2, QF4_3, QF4_4, QF4_5, QF4_6, QF4_7, QF4_8, QF4_9, QF4_10, QF4_11⟩ := hQ4
    have N4 := Fr.app N3 N4q
    have f4_S_st_OBJECT := own_staK f3_S_st_OBJECT K4q (allS (nst_of f3_E_rd) all0)
    have f4_S_st_ARRAY := own_staK f3_S_st_ARRAY K4q (allS (nst_of f3_E_rd) all0)
    have f4_S_st_NUMBER := own_staK f3_S_st_NUMBER K4q (allS (nst_of f3_E_rd) all0)
    have f4_S_st_TRUE := own_staK f3_S_st_TRUE K4q (allS (nst_of f3_E_rd) all0)
    have f4_S_tb := own_staK f3_S_tb K4q (allS (nst_of f3_E_rd) all0)
    have f4_V_tb := Arv.keep f3_V_tb K4q (ninS ne_tb_rd nin0)
    have f4_E_rd := Exa.keep f3_E_rd K4q
    have f4_V_ba := Arv.keep f3_V_ba K4q (ninS ne_ba_rd nin0)
    have f4_V_aat := Arv.keep f3_V_aat K4q (ninS ne_aat_rd nin0)
    have f4_V_ast := Arv.keep f3_V_ast K4q (ninS ne_ast_rd nin0)
    have f4_V_aks := Arv.keep f3_V_aks K4q (ninS ne_aks_rd nin0)
    have f4_E_b1 := Exa.keep QE3_0 K4q
    have f4_F_position_b1 := Fld.keep QF3_0 K4q (ninS (Ne.symm ne_rd_b1) nin0)
    have f4_F_depth_b1 := Fld.keep QF3_1 K4q (ninS (Ne.symm ne_rd_b1) nin0)
    have SZ4 := Nat.le_trans SZ3 K4q.1
    refine Gz.tr st4 ?_
    exact sgC0 (s0) dq (s2) (s3) (.val (.ref aat)) ast aks (s8) (s9) rd st_OBJECT st_ARRAY st_NUMBER st_TRUE tb k_tb ba md fi ts xs xe es as_ ig k_ba k_ast k_aks n0 X4 hx hZ hw hby hml hown hret hlk rfl N4 SZ4 f4_S_st_OBJECT f4_S_st_ARRAY f4_S_st_NUMBER f4_S_st_TRUE ne_st_OBJECT_st_ARRAY ne_st_OBJECT_st_NUMBER ne_st_OBJECT_st_TRUE ne_st_ARRAY_st_NUMBER ne_st_ARRAY_st_TRUE f4_S_tb f4_V_tb QE4_0 QF4_0 QF4_1 QF4_2 QF4_3 QF4_4 QF4_5 QF4_6 QF4_7 QF4_8 QF4_9 QF4_10 QF4_11 g_rd f4_V_ba ne_ba_rd f4_V_ast f4_V_aks ne_ast_rd ne_aks_rd ne_tb_rd hdm
  · refine Gz.aload 245 X0 hx (dd at_243) rfl rfl rfl ?_
    obtain ⟨T5, h5, X5, e5, E5, A5, D5, -, st5⟩ := newO X0 hx hZ hown (ww hw 81 rfl) (ww hw 82 rfl) (ww hw 83 rfl) e0 (g := (mkF m 245 #[s0, .val (.int dq), s2, s3, .val (.ref aat), .val (.ref ast), .val (.ref aks), .val (.int (1 : Int32)), s8, s9, .val (.ref rd), .unset, .unset, .unset, .unset] [(.ref rd)])) rfl (dd at_245) (by decide) (by decide)
    obtain ⟨b5, g5⟩ : ∃ z, z = hS.size := ⟨_, rfl⟩
    rw [← g5] at A5 D5 st5
    have ne_tb_b5 : tb ≠ b5 := Nat.ne_of_lt (Nat.lt_of_lt_of_le (V_tb).lt (Nat.le_of_eq g5.symm))
    have ne_rd_b5 : rd ≠ b5 := Nat.ne_of_lt (Nat.lt_of_lt_of_le (E_rd).lt (Nat.le_of_eq g5.symm))
    have ne_ba_b5 : ba ≠ b5 := Nat.ne_of_lt (Nat.lt_of_lt_of_le (V_ba).lt (Nat.le_of_eq g5.symm))
    have ne_aat_b5 : aat ≠ b5 := Nat.ne_of_lt (Nat.lt_of_lt_of_le (V_aat).lt (Nat.le_of_eq g5.symm))
    have ne_ast_b5 : ast ≠ b5 := Nat.ne_of_lt (Nat.lt_of_lt_of_le (V_ast).lt (Nat.le_of_eq g5.symm))
    have ne_aks_b5 : aks ≠ b5 := Nat.ne_of_lt (Nat.lt_of_lt_of_le (V_aks).lt (Nat.le_of_eq g5.symm))
    have g_b5 : n0 ≤ b5 := Nat.le_trans Z0 (Nat.le_of_eq g5.symm)
    have SZ5 : n0 ≤ h5.size := Nat.le_trans Z0 E5.1
    have f5_S_st_OBJECT := Sta.ext E5 S_st_OBJECT
    have f5_S_st_ARRAY := Sta.ext E5 S_st_ARRAY
    have f5_S_st_NUMBER := Sta.ext E5 S_st_NUMBER
    have f5_S_st_TRUE := Sta.ext E5 S_st_TRUE
    have f5_S_tb := Sta.ext E5 S_tb
    have f5_V_tb := Arv.ext V_tb E5
    have f5_E_rd := Exa.ext E5 E_rd
    have f5_F_bytes_rd := Fld.ext E5 F_bytes_rd
    have f5_F_maxDepth_rd := Fld.ext E5 F_maxDepth_rd
    have f5_F_position_rd := Fld.ext E5 F_position_rd
    have f5_F_depth_rd := Fld.ext E5 F_depth_rd
    have f5_F_first_rd := Fld.ext E5 F_first_rd
    have f5_F_token_rd := Fld.ext E5 F_token_rd
    have f5_F_tokenStart_rd := Fld.ext E5 F_tokenStart_rd
    have f5_F_textStart_rd := Fld.ext E5 F_textStart_rd
    have f5_F_textEnd_rd := Fld.ext E5 F_textEnd_rd
    have f5_F_escaped_rd := Fld.ext E5 F_escaped_rd
    have f5_F_ascii_rd := Fld.ext E5 F_ascii_rd
    have f5_F_integral_rd := Fld.ext E5 F_integral_rd
    have f5_V_ba := Arv.ext V_ba E5
    have f5_V_aat := Arv.ext V_aat E5
    have f5_V_ast := Arv.ext V_ast E5
    have f5_V_aks := Arv.ext V_aks E5
    have F_position_b5 : Fld Z h5 b5 cs2 "position" "I" (.int (0 : Int32)) := D5 (Or.inr (ww hw 94 rfl)) (ty := .int) (by decide)
    have F_depth_b5 : Fld Z h5 b5 cs2 "depth" "I" (.int (0 : Int32)) := D5 (Or.inr (ww hw 96 rfl)) (ty := .int) (by decide)
    refine Gz.st st5 ?_
    refine Gz.dup 249 X5 hx (dd at_248) rfl rfl ?_
    refine Gz.aload 251 X5 hx (dd at_249) rfl rfl rfl ?_
    refine Gz.iload 253 X5 hx (dd at_251) rfl rfl ?_
    obtain ⟨c6, A6, q6, S6, N6, H6, G6⟩ := id f5_V_aat
    have hin6 : ¬ ((1 : Int32) < 0 ∨ c6.slots.size ≤ ((1 : Int32)).toNatClampNeg) := inb_of S6 ⟨by decide, by decide⟩
    refine Gz.ldI 254 X5 hx hZ (dd at_253) e5 A6 hin6 (Has.at H6 hin6 (rfl : _ = ((.int (1 : Int32)) : Value))) rfl ?_
    refine Gz.iloadN 255 X5 hx (dd at_254) rfl rfl ?_
    obtain ⟨_, _, ⟨T7, L7, k7, n7⟩, -, X7, ⟨Lc7, hQ7, l7, y7, z7⟩, st7⟩ := X5.specialBack hx (y := ym3) rfl hown (mvT hZ (ww hw 84 rfl)) (mvT hZ (ww hw 85 rfl)) (mvT hZ (ww hw 86 rfl)) (by decide) (backOf (W := 2) (rm11 l Z av0 hw [] b5 (1 : Int32) dq  h5 n0 SZ5 A5 F_position_b5 F_depth_b5 g_b5) hZ (ww hw 86 rfl) (ww hw 83 rfl) (by decide) (by decide)) (g := (mkF m 255 #[s0, .val (.int dq), s2, s3, .val (.ref aat), .val (.ref ast), .val (.ref aks), .val (.int (1 : Int32)), s8, s9, .val (.ref rd), .unset, .unset, .unset, .unset] [(.int dq), (.int (1 : Int32)), (.ref b5), (.ref b5), (.ref rd)])) rfl (by rw [hml]; rfl) (Steps.refl _) (a := b5) (argsL := [(.int (1 : Int32)), (.int dq)]) (rest := [(.ref b5), (.ref rd)]) (lenOf pd_3 rfl) rfl (Nat.le_refl _) (dd at_255) (fun _ _ => ⟨rfl, e5, (by decide : 6 + 0 ≤ _), (by decide : 42 + 0 ≤ _)⟩)
    dsimp only [Pt.U, Pt.locs, Pt.cells, Pt.slots, Q_rm11] at X7 l7 y7 z7 st7 hQ7
    subst l7 y7 z7
    obtain ⟨rfl, N7q, K7q, QE7_0, QF7_0, QF7_1⟩ := hQ7
    have N7 := Fr.app N0 N7q
    have f7_S_st_OBJECT := own_staK f5_S_st_OBJECT K7q (allS (nst_of A5) all0)
    have f7_S_st_ARRAY := own_staK f5_S_st_ARRAY K7q (allS (nst_of A5) all0)
    have f7_S_st_NUMBER := own_staK f5_S_st_NUMBER K7q (allS (nst_of A5) all0)
    have f7_S_st_TRUE := own_staK f5_S_st_TRUE K7q (allS (nst_of A5) all0)
    have f7_S_tb := own_staK f5_S_tb K7q (allS (nst_of A5) all0)
    have f7_V_tb := Arv.keep f5_V_tb K7q (ninS ne_tb_b5 nin0)
    have f7_E_rd := Exa.keep f5_E_rd K7q
    have f7_F_bytes_rd := Fld.keep f5_F_bytes_rd K7q (ninS ne_rd_b5 nin0)
    have f7_F_maxDepth_rd := Fld.keep f5_F_maxDepth_rd K7q (ninS ne_rd_b5 nin0)
    have f7_F_position_rd := Fld.keep f5_F_position_rd K7q (ninS ne_rd_b5 nin0)
    have f7_F_depth_rd := Fld.keep f5_F_depth_rd K7q (ninS ne_rd_b5 nin0)
    have f7_F_first_rd := Fld.keep f5_F_first_rd K7q (ninS ne_rd_b5 nin0)
    have f7_F_token_rd := Fld.keep f5_F_token_rd K7q (ninS ne_rd_b5 nin0)
    have f7_F_tokenStart_rd := Fld.keep f5_F_tokenStart_rd K7q (ninS ne_rd_b5 nin0)
    have f7_F_textStart_rd := Fld.keep f5_F_textStart_rd K7q (ninS ne_rd_b5 nin0)
    have f7_F_textEnd_rd := Fld.keep f5_F_textEnd_rd K7q (ninS ne_rd_b5 nin0)
    have f7_F_escaped_rd := Fld.keep f5_F_escaped_rd K7q (ninS ne_rd_b5 nin0)
    have f7_F_ascii_rd := Fld.keep f5_F_ascii_rd K7q (ninS ne_rd_b5 nin0)
    have f7_F_integral_rd := Fld.keep f5_F_integral_rd K7q (ninS ne_rd_b5 nin0)
    have f7_V_ba := Arv.keep f5_V_ba K7q (ninS ne_ba_b5 nin0)
    have f7_V_aat := Arv.keep f5_V_aat K7q (ninS ne_aat_b5 nin0)
    have f7_V_ast := Arv.keep f5_V_ast K7q (ninS ne_ast_b5 nin0)
    have f7_V_aks := Arv.keep f5_V_aks K7q (ninS ne_aks_b5 nin0)
    have f7_Eb5 := Exa.keep A5 K7q
    have SZ7 := Nat.le_trans SZ5 K7q.1
    refine Gz.tr st7 ?_
    obtain ⟨cq8, kq8, q8a, q8b, q8c⟩ := isOf hZ rfl f7_E_rd
    obtain ⟨_, _, ⟨T8, L8, k8, n8⟩, -, X8, ⟨Lc8, hQ8, l8, y8, z8⟩, st8⟩ := X7.virtualBack hx (y := ym16) (z := ym16) hown (mvT hZ (ww hw 97 rfl)) (mvT hZ (ww hw 98 rfl)) (notFace_of_selects (args := #[]) (mvT hZ (ww hw 100 rfl))) (mvT hZ (ww hw 100 rfl)) (mvT hZ (ww hw 99 rfl)) (by decide) (backOf (W := 0) (rmRs_n l Z av0 hw [] rd b5 ba md ps dp fi ts xs xe es as_ ig k_ba (1 : Int32) dq T7.heap n0 SZ7 f7_E_rd f7_F_bytes_rd f7_F_maxDepth_rd f7_F_position_rd f7_F_depth_rd f7_F_first_rd f7_F_token_rd f7_F_tokenStart_rd f7_F_textStart_rd f7_F_textEnd_rd f7_F_escaped_rd f7_F_ascii_rd f7_F_integral_rd g_rd f7_V_ba ne_ba_rd QE7_0 QF7_0 QF7_1 (Ne.symm ne_rd_b5)) hZ (ww hw 101 rfl) (ww hw 15 rfl) (by decide) (by decide)) q8a q8c (g := (mkF m 258 #[s0, .val (.int dq), s2, s3, .val (.ref aat), .val (.ref ast), .val (.ref aks), .val (.int (1 : Int32)), s8, s9, .val (.ref rd), .unset, .unset, .unset, .unset] [(.ref b5), (.ref rd)])) rfl (by rw [hml]; rfl) (Steps.refl _) (argsL := [(.ref b5)]) (rest := []) (lenOf pd_13 rfl) rfl (Nat.le_refl _) (dd at_258) (fun _ _ => ⟨rfl, rfl, (by decide : 6 + 0 ≤ _), (by decide : 42 + 0 ≤ _)⟩)
    dsimp only [Pt.U, Pt.locs, Pt.cells, Pt.slots, Q_rmRs_n] at X8 l8 y8 z8 st8 hQ8
    subst l8 y8 z8
    obtain ⟨rfl, N8q, K8q, QE8_0, QF8_0, QF8_1, QF8_2, QF8_3, QF8_4, QF8_5, QF8_6, QF8_7, QF8_8, QF8_9, QF8_10, QF8_11⟩ := hQ8
    have N8 := Fr.app N7 N8q
    have f8_S_st_OBJECT := own_staK f7_S_st_OBJECT K8q (allS (nst_of f7_E_rd) all0)
    have f8_S_st_ARRAY := own_staK f7_S_st_ARRAY K8q (allS (nst_of f7_E_rd) all0)
    have f8_S_st_NUMBER := own_staK f7_S_st_NUMBER K8q (allS (nst_of f7_E_rd) all0)
    have f8_S_st_TRUE := own_staK f7_S_st_TRUE K8q (allS (nst_of f7_E_rd) all0)
    have f8_S_tb := own_staK f7_S_tb K8q (allS (nst_of f7_E_rd) all0)
    have f8_V_tb := Arv.keep f7_V_tb K8q (ninS ne_tb_rd nin0)
    have f8_E_rd := Exa.keep f7_E_rd K8q
    have f8_V_ba := Arv.keep f7_V_ba K8q (ninS ne_ba_rd nin0)
    have f8_V_aat := Arv.keep f7_V_aat K8q (ninS ne_aat_rd nin0)
    have f8_V_ast := Arv.keep f7_V_ast K8q (ninS ne_ast_rd nin0)
    have f8_V_aks := Arv.keep f7_V_aks K8q (ninS ne_aks_rd nin0)
    have f8_E_b5 := Exa.keep QE7_0 K8q
    have f8_F_position_b5 := Fld.keep QF7_0 K8q (ninS (Ne.symm ne_rd_b5) nin0)
    have f8_F_depth_b5 := Fld.keep QF7_1 K8q (ninS (Ne.symm ne_rd_b5) nin0)
    have SZ8 := Nat.le_trans SZ7 K8q.1
    refine Gz.tr st8 ?_
    exact sgC1 (s0) dq (s2) (s3) (.val (.ref aat)) ast aks (s8) (s9) rd st_OBJECT st_ARRAY st_NUMBER st_TRUE tb k_tb ba md fi ts xs xe es as_ ig k_ba k_ast k_aks n0 X8 hx hZ hw hby hml hown hret hlk rfl N8 SZ8 f8_S_st_OBJECT f8_S_st_ARRAY f8_S_st_NUMBER f8_S_st_TRUE ne_st_OBJECT_st_ARRAY ne_st_OBJECT_st_NUMBER ne_st_OBJECT_st_TRUE ne_st_ARRAY_st_NUMBER ne_st_ARRAY_st_TRUE f8_S_tb f8_V_tb QE8_0 QF8_0 QF8_1 QF8_2 QF8_3 QF8_4 QF8_5 QF8_6 QF8_7 QF8_8 QF8_9 QF8_10 QF8_11 g_rd f8_V_ba ne_ba_rd f8_V_ast f8_V_aks ne_ast_rd ne_aks_rd ne_tb_rd hdm
  · refine Gz.aload 245 X0 hx (dd at_243) rfl rfl rfl ?_
    obtain ⟨T9, h9, X9, e9, E9, A9, D9, -, st9⟩ := newO X0 hx hZ hown (ww hw 81 rfl) (ww hw 82 rfl) (ww hw 83 rfl) e0 (g := (mkF m 245 #[s0, .val (.int dq), s2, s3, .val (.ref aat), .val (.ref ast), .val (.ref aks), .val (.int (2 : Int32)), s8, s9, .val (.ref rd), .unset, .unset, .unset, .unset] [(.ref rd)])) rfl (dd at_245) (by decide) (by decide)
    obtain ⟨b9, g9⟩ : ∃ z, z = hS.size := ⟨_, rfl⟩
    rw [← g9] at A9 D9 st9
    have ne_tb_b9 : tb ≠ b9 := Nat.ne_of_lt (Nat.lt_of_lt_of_le (V_tb).lt (Nat.le_of_eq g9.symm))
    have ne_rd_b9 : rd ≠ b9 := Nat.ne_of_lt (Nat.lt_of_lt_of_le (E_rd).lt (Nat.le_of_eq g9.symm))
    have ne_ba_b9 : ba ≠ b9 := Nat.ne_of_lt (Nat.lt_of_lt_of_le (V_ba).lt (Nat.le_of_eq g9.symm))
    have ne_aat_b9 : aat ≠ b9 := Nat.ne_of_lt (Nat.lt_of_lt_of_le (V_aat).lt (Nat.le_of_eq g9.symm))
    have ne_ast_b9 : ast ≠ b9 := Nat.ne_of_lt (Nat.lt_of_lt_of_le (V_ast).lt (Nat.le_of_eq g9.symm))
    have ne_aks_b9 : aks ≠ b9 := Nat.ne_of_lt (Nat.lt_of_lt_of_le (V_aks).lt (Nat.le_of_eq g9.symm))
    have g_b9 : n0 ≤ b9 := Nat.le_trans Z0 (Nat.le_of_eq g9.symm)
    have SZ9 : n0 ≤ h9.size := Nat.le_trans Z0 E9.1
    have f9_S_st_OBJECT := Sta.ext E9 S_st_OBJECT
    have f9_S_st_ARRAY := Sta.ext E9 S_st_ARRAY
    have f9_S_st_NUMBER := Sta.ext E9 S_st_NUMBER
    have f9_S_st_TRUE := Sta.ext E9 S_st_TRUE
    have f9_S_tb := Sta.ext E9 S_tb
    have f9_V_tb := Arv.ext V_tb E9
    have f9_E_rd := Exa.ext E9 E_rd
    have f9_F_bytes_rd := Fld.ext E9 F_bytes_rd
    have f9_F_maxDepth_rd := Fld.ext E9 F_maxDepth_rd
    have f9_F_position_rd := Fld.ext E9 F_position_rd
    have f9_F_depth_rd := Fld.ext E9 F_depth_rd
    have f9_F_first_rd := Fld.ext E9 F_first_rd
    have f9_F_token_rd := Fld.ext E9 F_token_rd
    have f9_F_tokenStart_rd := Fld.ext E9 F_tokenStart_rd
    have f9_F_textStart_rd := Fld.ext E9 F_textStart_rd
    have f9_F_textEnd_rd := Fld.ext E9 F_textEnd_rd
    have f9_F_escaped_rd := Fld.ext E9 F_escaped_rd
    have f9_F_ascii_rd := Fld.ext E9 F_ascii_rd
    have f9_F_integral_rd := Fld.ext E9 F_integral_rd
    have f9_V_ba := Arv.ext V_ba E9
    have f9_V_aat := Arv.ext V_aat E9
    have f9_V_ast := Arv.ext V_ast E9
    have f9_V_aks := Arv.ext V_aks E9
    have F_position_b9 : Fld Z h9 b9 cs2 "position" "I" (.int (0 : Int32)) := D9 (Or.inr (ww hw 94 rfl)) (ty := .int) (by decide)
    have F_depth_b9 : Fld Z h9 b9 cs2 "depth" "I" (.int (0 : Int32)) := D9 (Or.inr (ww hw 96 rfl)) (ty := .int) (by decide)
    refine Gz.st st9 ?_
    refine Gz.dup 249 X9 hx (dd at_248) rfl rfl ?_
    refine Gz.aload 251 X9 hx (dd at_249) rfl rfl rfl ?_
    refine Gz.iload 253 X9 hx (dd at_251) rfl rfl ?_
    obtain ⟨c10, A10, q10, S10, N10, H10, G10⟩ := id f9_V_aat
    have hin10 : ¬ ((2 : Int32) < 0 ∨ c10.slots.size ≤ ((2 : Int32)).toNatClampNeg) := inb_of S10 ⟨by decide, by decide⟩
    refine Gz.ldI 254 X9 hx hZ (dd at_253) e9 A10 hin10 (Has.at H10 hin10 (rfl : _ = ((.int (2 : Int32)) : Value))) rfl ?_
    refine Gz.iloadN 255 X9 hx (dd at_254) rfl rfl ?_
    obtain ⟨_, _, ⟨T11, L11, k11, n11⟩, -, X11, ⟨Lc11, hQ11, l11, y11, z11⟩, st11⟩ := X9.specialBack hx (y := ym3) rfl hown (mvT hZ (ww hw 84 rfl)) (mvT hZ (ww hw 85 rfl)) (mvT hZ (ww hw 86 rfl)) (by decide) (backOf (W := 2) (rm11 l Z av0 hw [] b9 (2 : Int32) dq  h9 n0 SZ9 A9 F_position_b9 F_depth_b9 g_b9) hZ (ww hw 86 rfl) (ww hw 83 rfl) (by decide) (by decide)) (g := (mkF m 255 #[s0, .val (.int dq), s2, s3, .val (.ref aat), .val (.ref ast), .val (.ref aks), .val (.int (2 : Int32)), s8, s9, .val (.ref rd), .unset, .unset, .unset, .unset] [(.int dq), (.int (2 : Int32)), (.ref b9), (.ref b9), (.ref rd)])) rfl (by rw [hml]; rfl) (Steps.refl _) (a := b9) (argsL := [(.int (2 : Int32)), (.int dq)]) (rest := [(.ref b9), (.ref rd)]) (lenOf pd_3 rfl) rfl (Nat.le_refl _) (dd at_255) (fun _ _ => ⟨rfl, e9, (by decide : 6 + 0 ≤ _), (by decide : 42 + 0 ≤ _)⟩)
    dsimp only [Pt.U, Pt.locs, Pt.cells, Pt.slots, Q_rm11] at X11 l11 y11 z11 st11 hQ11
    subst l11 y11 z11
    obtain ⟨rfl, N11q, K11q, QE11_0, QF11_0, QF11_1⟩ := hQ11
    have N11 := Fr.app N0 N11q
    have f11_S_st_OBJECT := own_staK f9_S_st_OBJECT K11q (allS (nst_of A9) all0)
    have f11_S_st_ARRAY := own_staK f9_S_st_ARRAY K11q (allS (nst_of A9) all0)
    have f11_S_st_NUMBER := own_staK f9_S_st_NUMBER K11q (allS (nst_of A9) all0)
    have f11_S_st_TRUE := own_staK f9_S_st_TRUE K11q (allS (nst_of A9) all0)
    have f11_S_tb := own_staK f9_S_tb K11q (allS (nst_of A9) all0)
    have f11_V_tb := Arv.keep f9_V_tb K11q (ninS ne_tb_b9 nin0)
    have f11_E_rd := Exa.keep f9_E_rd K11q
    have f11_F_bytes_rd := Fld.keep f9_F_bytes_rd K11q (ninS ne_rd_b9 nin0)
    have f11_F_maxDepth_rd := Fld.keep f9_F_maxDepth_rd K11q (ninS ne_rd_b9 nin0)
    have f11_F_position_rd := Fld.keep f9_F_position_rd K11q (ninS ne_rd_b9 nin0)
    have f11_F_depth_rd := Fld.keep f9_F_depth_rd K11q (ninS ne_rd_b9 nin0)
    have f11_F_first_rd := Fld.keep f9_F_first_rd K11q (ninS ne_rd_b9 nin0)
    have f11_F_token_rd := Fld.keep f9_F_token_rd K11q (ninS ne_rd_b9 nin0)
    have f11_F_tokenStart_rd := Fld.keep f9_F_tokenStart_rd K11q (ninS ne_rd_b9 nin0)
    have f11_F_textStart_rd := Fld.keep f9_F_textStart_rd K11q (ninS ne_rd_b9 nin0)
    have f11_F_textEnd_rd := Fld.keep f9_F_textEnd_rd K11q (ninS ne_rd_b9 nin0)
    have f11_F_escaped_rd := Fld.keep f9_F_escaped_rd K11q (ninS ne_rd_b9 nin0)
    have f11_F_ascii_rd := Fld.keep f9_F_ascii_rd K11q (ninS ne_rd_b9 nin0)
    have f11_F_integral_rd := Fld.keep f9_F_integral_rd K11q (ninS ne_rd_b9 nin0)
    have f11_V_ba := Arv.keep f9_V_ba K11q (ninS ne_ba_b9 nin0)
    have f11_V_aat := Arv.keep f9_V_aat K11q (ninS ne_aat_b9 nin0)
    have f11_V_ast := Arv.keep f9_V_ast K11q (ninS ne_ast_b9 nin0)
    have f11_V_aks := Arv.keep f9_V_aks K11q (ninS ne_aks_b9 nin0)
    have f11_Eb9 := Exa.keep A9 K11q
    have SZ11 := Nat.le_trans SZ9 K11q.1
    refine Gz.tr st11 ?_
    obtain ⟨cq12, kq12, q12a, q12b, q12c⟩ := isOf hZ rfl f11_E_rd
    obtain ⟨_, _, ⟨T12, L12, k12, n12⟩, -, X12, ⟨Lc12, hQ12, l12, y12, z12⟩, st12⟩ := X11.virtualBack hx (y := ym16) (z := ym16) hown (mvT hZ (ww hw 97 rfl)) (mvT hZ (ww hw 98 rfl)) (notFace_of_selects (args := #[]) (mvT hZ (ww hw 100 rfl))) (mvT hZ (ww hw 100 rfl)) (mvT hZ (ww hw 99 rfl)) (by decide) (backOf (W := 0) (rmRs_n l Z av0 hw [] rd b9 ba md ps dp fi ts xs xe es as_ ig k_ba (2 : Int32) dq T11.heap n0 SZ11 f11_E_rd f11_F_bytes_rd f11_F_maxDepth_rd f11_F_position_rd f11_F_depth_rd f11_F_first_rd f11_F_token_rd f11_F_tokenStart_rd f11_F_textStart_rd f11_F_textEnd_rd f11_F_escaped_rd f11_F_ascii_rd f11_F_integral_rd g_rd f11_V_ba ne_ba_rd QE11_0 QF11_0 QF11_1 (Ne.symm ne_rd_b9)) hZ (ww hw 101 rfl) (ww hw 15 rfl) (by decide) (by decide)) q12a q12c (g := (mkF m 258 #[s0, .val (.int dq), s2, s3, .val (.ref aat), .val (.ref ast), .val (.ref aks), .val (.int (2 : Int32)), s8, s9, .val (.ref rd), .unset, .unset, .unset, .unset] [(.ref b9), (.ref rd)])) rfl (by rw [hml]; rfl) (Steps.refl _) (argsL := [(.ref b9)]) (rest := []) (lenOf pd_13 rfl) rfl (Nat.le_refl _) (dd at_258) (fun _ _ => ⟨rfl, rfl, (by decide : 6 + 0 ≤ _), (by decide : 42 + 0 ≤ _)⟩)
    dsimp only [Pt.U, Pt.locs, Pt.cells, Pt.slots, Q_rmRs_n] at X12 l12 y12 z12 st12 hQ12
    subst l12 y12 z12
    obtain ⟨rfl, N12q, K12q, QE12_0, QF12_0, QF12_1, QF12_2, QF12_3, QF12_4, QF12_5, QF12_6, QF12_7, QF12_8, QF12_9, QF12_10, QF12_11⟩ := hQ12
    have N12 := Fr.app N11 N12q
    have f12_S_st_OBJECT := own_staK f11_S_st_OBJECT K12q (allS (nst_of f11_E_rd) all0)
    have f12_S_st_ARRAY := own_staK f11_S_st_ARRAY K12q (allS (nst_of f11_E_rd) all0)
    have f12_S_st_NUMBER := own_staK f11_S_st_NUMBER K12q (allS (nst_of f11_E_rd) all0)
    have f12_S_st_TRUE := own_staK f11_S_st_TRUE K12q (allS (nst_of f11_E_rd) all0)
    have f12_S_tb := own_staK f11_S_tb K12q (allS (nst_of f11_E_rd) all0)
    have f12_V_tb := Arv.keep f11_V_tb K12q (ninS ne_tb_rd nin0)
    have f12_E_rd := Exa.keep f11_E_rd K12q
    have f12_V_ba := Arv.keep f11_V_ba K12q (ninS ne_ba_rd nin0)
    have f12_V_aat := Arv.keep f11_V_aat K12q (ninS ne_aat_rd nin0)
    have f12_V_ast := Arv.keep f11_V_ast K12q (ninS ne_ast_rd nin0)
    have f12_V_aks := Arv.keep f11_V_aks K12q (ninS ne_aks_rd nin0)
    have f12_E_b9 := Exa.keep QE11_0 K12q
    have f12_F_position_b9 := Fld.keep QF11_0 K12q (ninS (Ne.symm ne_rd_b9) nin0)
    have f12_F_depth_b9 := Fld.keep QF11_1 K12q (ninS (Ne.symm ne_rd_b9) nin0)
    have SZ12 := Nat.le_trans SZ11 K12q.1
    refine Gz.tr st12 ?_
    exact sgC2 (s0) dq (s2) (s3) (.val (.ref aat)) ast aks (s8) (s9) rd st_OBJECT st_ARRAY st_NUMBER st_TRUE tb k_tb ba md fi ts xs xe es as_ ig k_ba k_ast k_aks n0 X12 hx hZ hw hby hml hown hret hlk rfl N12 SZ12 f12_S_st_OBJECT f12_S_st_ARRAY f12_S_st_NUMBER f12_S_st_TRUE ne_st_OBJECT_st_ARRAY ne_st_OBJECT_st_NUMBER ne_st_OBJECT_st_TRUE ne_st_ARRAY_st_NUMBER ne_st_ARRAY_st_TRUE f12_S_tb f12_V_tb QE12_0 QF12_0 QF12_1 QF12_2 QF12_3 QF12_4 QF12_5 QF12_6 QF12_7 QF12_8 QF12_9 QF12_10 QF12_11 g_rd f12_V_ba ne_ba_rd f12_V_ast f12_V_aks ne_ast_rd ne_aks_rd ne_tb_rd hdm
  · refine Gz.aload 245 X0 hx (dd at_243) rfl rfl rfl ?_
    obtain ⟨T13, h13, X13, e13, E13, A13, D13, -, st13⟩ := newO X0 hx hZ hown (ww hw 81 rfl) (ww hw 82 rfl) (ww hw 83 rfl) e0 (g := (mkF m 245 #[s0, .val (.int dq), s2, s3, .val (.ref aat), .val (.ref ast), .val (.ref aks), .val (.int (3 : Int32)), s8, s9, .val (.ref rd), .unset, .unset, .unset, .unset] [(.ref rd)])) rfl (dd at_245) (by decide) (by decide)
    obtain ⟨b13, g13⟩ : ∃ z, z = hS.size := ⟨_, rfl⟩
    rw [← g13] at A13 D13 st13
    have ne_tb_b13 : tb ≠ b13 := Nat.ne_of_lt (Nat.lt_of_lt_of_le (V_tb).lt (Nat.le_of_eq g13.symm))
    have ne_rd_b13 : rd ≠ b13 := Nat.ne_of_lt (Nat.lt_of_lt_of_le (E_rd).lt (Nat.le_of_eq g13.symm))
    have ne_ba_b13 : ba ≠ b13 := Nat.ne_of_lt (Nat.lt_of_lt_of_le (V_ba).lt (Nat.le_of_eq g13.symm))
    have ne_aat_b13 : aat ≠ b13 := Nat.ne_of_lt (Nat.lt_of_lt_of_le (V_aat).lt (Nat.le_of_eq g13.symm))
    have ne_ast_b13 : ast ≠ b13 := Nat.ne_of_lt (Nat.lt_of_lt_of_le (V_ast).lt (Nat.le_of_eq g13.symm))
    have ne_aks_b13 : aks ≠ b13 := Nat.ne_of_lt (Nat.lt_of_lt_of_le (V_aks).lt (Nat.le_of_eq g13.symm))
    have g_b13 : n0 ≤ b13 := Nat.le_trans Z0 (Nat.le_of_eq g13.symm)
    have SZ13 : n0 ≤ h13.size := Nat.le_trans Z0 E13.1
    have f13_S_st_OBJECT := Sta.ext E13 S_st_OBJECT
    have f13_S_st_ARRAY := Sta.ext E13 S_st_ARRAY
    have f13_S_st_NUMBER := Sta.ext E13 S_st_NUMBER
    have f13_S_st_TRUE := Sta.ext E13 S_st_TRUE
    have f13_S_tb := Sta.ext E13 S_tb
    have f13_V_tb := Arv.ext V_tb E13
    have f13_E_rd := Exa.ext E13 E_rd
    have f13_F_bytes_rd := Fld.ext E13 F_bytes_rd
    have f13_F_maxDepth_rd := Fld.ext E13 F_maxDepth_rd
    have f13_F_position_rd := Fld.ext E13 F_position_rd
    have f13_F_depth_rd := Fld.ext E13 F_depth_rd
    have f13_F_first_rd := Fld.ext E13 F_first_rd
    have f13_F_token_rd := Fld.ext E13 F_token_rd
    have f13_F_tokenStart_rd := Fld.ext E13 F_tokenStart_rd
    have f13_F_textStart_rd := Fld.ext E13 F_textStart_rd
    have f13_F_textEnd_rd := Fld.ext E13 F_textEnd_rd
    have f13_F_escaped_rd := Fld.ext E13 F_escaped_rd
    have f13_F_ascii_rd := Fld.ext E13 F_ascii_rd
    have f13_F_integral_rd := Fld.ext E13 F_integral_rd
    have f13_V_ba := Arv.ext V_ba E13
    have f13_V_aat := Arv.ext V_aat E13
    have f13_V_ast := Arv.ext V_ast E13
    have f13_V_aks := Arv.ext V_aks E13
    have F_position_b13 : Fld Z h13 b13 cs2 "position" "I" (.int (0 : Int32)) := D13 (Or.inr (ww hw 94 rfl)) (ty := .int) (by decide)
    have F_depth_b13 : Fld Z h13 b13 cs2 "depth" "I" (.int (0 : Int32)) := D13 (Or.inr (ww hw 96 rfl)) (ty := .int) (by decide)
    refine Gz.st st13 ?_
    refine Gz.dup 249 X13 hx (dd at_248) rfl rfl ?_
    refine Gz.aload 251 X13 hx (dd at_249) rfl rfl rfl ?_
    refine Gz.iload 253 X13 hx (dd at_251) rfl rfl ?_
    obtain ⟨c14, A14, q14, S14, N14, H14, G14⟩ := id f13_V_aat
    have hin14 : ¬ ((3 : Int32) < 0 ∨ c14.slots.size ≤ ((3 : Int32)).toNatClampNeg) := inb_of S14 ⟨by decide, by decide⟩
    refine Gz.ldI 254 X13 hx hZ (dd at_253) e13 A14 hin14 (Has.at H14 hin14 (rfl : _ = ((.int (3 : Int32)) : Value))) rfl ?_
    refine Gz.iloadN 255 X13 hx (dd at_254) rfl rfl ?_
    obtain ⟨_, _, ⟨T15, L15, k15, n15⟩, -, X15, ⟨Lc15, hQ15, l15, y15, z15⟩, st15⟩ := X13.specialBack hx (y := ym3) rfl hown (mvT hZ (ww hw 84 rfl)) (mvT hZ (ww hw 85 rfl)) (mvT hZ (ww hw 86 rfl)) (by decide) (backOf (W := 2) (rm11 l Z av0 hw [] b13 (3 : Int32) dq  h13 n0 SZ13 A13 F_position_b13 F_depth_b13 g_b13) hZ (ww hw 86 rfl) (ww hw 83 rfl) (by decide) (by decide)) (g := (mkF m 255 #[s0, .val (.int dq), s2, s3, .val (.ref aat), .val (.ref ast), .val (.ref aks), .val (.int (3 : Int32)), s8, s9, .val (.ref rd), .unset, .unset, .unset, .unset] [(.int dq), (.int (3 : Int32)), (.ref b13), (.ref b13), (.ref rd)])) rfl (by rw [hml]; rfl) (Steps.refl _) (a := b13) (argsL := [(.int (3 : Int32)), (.int dq)]) (rest := [(.ref b13), (.ref rd)]) (lenOf pd_3 rfl) rfl (Nat.le_refl _) (dd at_255) (fun _ _ => ⟨rfl, e13, (by decide : 6 + 0 ≤ _), (by decide : 42 + 0 ≤ _)⟩)
    dsimp only [Pt.U, Pt.locs, Pt.cells, Pt.slots, Q_rm11] at X15 l15 y15 z15 st15 hQ15
    subst l15 y15 z15
    obtain ⟨rfl, N15q, K15q, QE15_0, QF15_0, QF15_1⟩ := hQ15
    have N15 := Fr.app N0 N15q
    have f15_S_st_OBJECT := own_staK f13_S_st_OBJECT K15q (allS (nst_of A13) all0)
    have f15_S_st_ARRAY := own_staK f13_S_st_ARRAY K15q (allS (nst_of A13) all0)
    have f15_S_st_NUMBER := own_staK f13_S_st_NUMBER K15q (allS (nst_of A13) all0)
    have f15_S_st_TRUE := own_staK f13_S_st_TRUE K15q (allS (nst_of A13) all0)
    have f15_S_tb := own_staK f13_S_tb K15q (allS (nst_of A13) all0)
    have f15_V_tb := Arv.keep f13_V_tb K15q (ninS ne_tb_b13 nin0)
    have f15_E_rd := Exa.keep f13_E_rd K15q
    have f15_F_bytes_rd := Fld.keep f13_F_bytes_rd K15q (ninS ne_rd_b13 nin0)
    have f15_F_maxDepth_rd := Fld.keep f13_F_maxDepth_rd K15q (ninS ne_rd_b13 nin0)
    have f15_F_position_rd := Fld.keep f13_F_position_rd K15q (ninS ne_rd_b13 nin0)
    have f15_F_depth_rd := Fld.keep f13_F_depth_rd K15q (ninS ne_rd_b13 nin0)
    have f15_F_first_rd := Fld.keep f13_F_first_rd K15q (ninS ne_rd_b13 nin0)
    have f15_F_token_rd := Fld.keep f13_F_token_rd K15q (ninS ne_rd_b13 nin0)
    have f15_F_tokenStart_rd := Fld.keep f13_F_tokenStart_rd K15q (ninS ne_rd_b13 nin0)
    have f15_F_textStart_rd := Fld.keep f13_F_textStart_rd K15q (ninS ne_rd_b13 nin0)
    have f15_F_textEnd_rd := Fld.keep f13_F_textEnd_rd K15q (ninS ne_rd_b13 nin0)
    have f15_F_escaped_rd := Fld.keep f13_F_escaped_rd K15q (ninS ne_rd_b13 nin0)
    have f15_F_ascii_rd := Fld.keep f13_F_ascii_rd K15q (ninS ne_rd_b13 nin0)
    have f15_F_integral_rd := Fld.keep f13_F_integral_rd K15q (ninS ne_rd_b13 nin0)
    have f15_V_ba := Arv.keep f13_V_ba K15q (ninS ne_ba_b13 nin0)
    have f15_V_aat := Arv.keep f13_V_aat K15q (ninS ne_aat_b13 nin0)
    have f15_V_ast := Arv.keep f13_V_ast K15q (ninS ne_ast_b13 nin0)
    have f15_V_aks := Arv.keep f13_V_aks K15q (ninS ne_aks_b13 nin0)
    have f15_Eb13 := Exa.keep A13 K15q
    have SZ15 := Nat.le_trans SZ13 K15q.1
    refine Gz.tr st15 ?_
    obtain ⟨cq16, kq16, q16a, q16b, q16c⟩ := isOf hZ rfl f15_E_rd
    obtain ⟨_, _, ⟨T16, L16, k16, n16⟩, -, X16, ⟨Lc16, hQ16, l16, y16, z16⟩, st16⟩ := X15.virtualBack hx (y := ym16) (z := ym16) hown (mvT hZ (ww hw 97 rfl)) (mvT hZ (ww hw 98 rfl)) (notFace_of_selects (args := #[]) (mvT hZ (ww hw 100 rfl))) (mvT hZ (ww hw 100 rfl)) (mvT hZ (ww hw 99 rfl)) (by decide) (backOf (W := 0) (rmRs_n l Z av0 hw [] rd b13 ba md ps dp fi ts xs xe es as_ ig k_ba (3 : Int32) dq T15.heap n0 SZ15 f15_E_rd f15_F_bytes_rd f15_F_maxDepth_rd f15_F_position_rd f15_F_depth_rd f15_F_first_rd f15_F_token_rd f15_F_tokenStart_rd f15_F_textStart_rd f15_F_textEnd_rd f15_F_escaped_rd f15_F_ascii_rd f15_F_integral_rd g_rd f15_V_ba ne_ba_rd QE15_0 QF15_0 QF15_1 (Ne.symm ne_rd_b13)) hZ (ww hw 101 rfl) (ww hw 15 rfl) (by decide) (by decide)) q16a q16c (g := (mkF m 258 #[s0, .val (.int dq), s2, s3, .val (.ref aat), .val (.ref ast), .val (.ref aks), .val (.int (3 : Int32)), s8, s9, .val (.ref rd), .unset, .unset, .unset, .unset] [(.ref b13), (.ref rd)])) rfl (by rw [hml]; rfl) (Steps.refl _) (argsL := [(.ref b13)]) (rest := []) (lenOf pd_13 rfl) rfl (Nat.le_refl _) (dd at_258) (fun _ _ => ⟨rfl, rfl, (by decide : 6 + 0 ≤ _), (by decide : 42 + 0 ≤ _)⟩)
    dsimp only [Pt.U, Pt.locs, Pt.cells, Pt.slots, Q_rmRs_n] at X16 l16 y16 z16 st16 hQ16
    subst l16 y16 z16
    obtain ⟨rfl, N16q, K16q, QE16_0, QF16_0, QF16_1, QF16_2, QF16_3, QF16_4, QF16_5, QF16_6, QF16_7, QF16_8, QF16_9, QF16_10, QF16_11⟩ := hQ16
    have N16 := Fr.app N15 N16q
    have f16_S_st_OBJECT := own_staK f15_S_st_OBJECT K16q (allS (nst_of f15_E_rd) all0)
    have f16_S_st_ARRAY := own_staK f15_S_st_ARRAY K16q (allS (nst_of f15_E_rd) all0)
    have f16_S_st_NUMBER := own_staK f15_S_st_NUMBER K16q (allS (nst_of f15_E_rd) all0)
    have f16_S_st_TRUE := own_staK f15_S_st_TRUE K16q (allS (nst_of f15_E_rd) all0)
    have f16_S_tb := own_staK f15_S_tb K16q (allS (nst_of f15_E_rd) all0)
    have f16_V_tb := Arv.keep f15_V_tb K16q (ninS ne_tb_rd nin0)
    have f16_E_rd := Exa.keep f15_E_rd K16q
    have f16_V_ba := Arv.keep f15_V_ba K16q (ninS ne_ba_rd nin0)
    have f16_V_aat := Arv.keep f15_V_aat K16q (ninS ne_aat_rd nin0)
    have f16_V_ast := Arv.keep f15_V_ast K16q (ninS ne_ast_rd nin0)
    have f16_V_aks := Arv.keep f15_V_aks K16q (ninS ne_aks_rd nin0)
    have f16_E_b13 := Exa.keep QE15_0 K16q
    have f16_F_position_b13 := Fld.keep QF15_0 K16q (ninS (Ne.symm ne_rd_b13) nin0)
    have f16_F_depth_b13 := Fld.keep QF15_1 K16q (ninS (Ne.symm ne_rd_b13) nin0)
    have SZ16 := Nat.le_trans SZ15 K16q.1
    refine Gz.tr st16 ?_
    exact sgC3 (s0) dq (s2) (s3) (.val (.ref aat)) ast aks (s8) (s9) rd st_OBJECT st_ARRAY st_NUMBER st_TRUE tb k_tb ba md fi ts xs xe es as_ ig k_ba k_ast k_aks n0 X16 hx hZ hw hby hml hown hret hlk rfl N16 SZ16 f16_S_st_OBJECT f16_S_st_ARRAY f16_S_st_NUMBER f16_S_st_TRUE ne_st_OBJECT_st_ARRAY ne_st_OBJECT_st_NUMBER ne_st_OBJECT_st_TRUE ne_st_ARRAY_st_NUMBER ne_st_ARRAY_st_TRUE f16_S_tb f16_V_tb QE16_0 QF16_0 QF16_1 QF16_2 QF16_3 QF16_4 QF16_5 QF16_6 QF16_7 QF16_8 QF16_9 QF16_10 QF16_11 g_rd f16_V_ba ne_ba_rd f16_V_ast f16_V_aks ne_ast_rd ne_aks_rd ne_tb_rd hdm
  · refine Gz.aload 245 X0 hx (dd at_243) rfl rfl rfl ?_
    obtain ⟨T17, h17, X17, e17, E17, A17, D17, -, st17⟩ := newO X0 hx hZ hown (ww hw 81 rfl) (ww hw 82 rfl) (ww hw 83 rfl) e0 (g := (mkF m 245 #[s0, .val (.int dq), s2, s3, .val (.ref aat), .val (.ref ast), .val (.ref aks), .val (.int (4 : Int32)), s8, s9, .val (.ref rd), .unset, .unset, .unset, .unset] [(.ref rd)])) rfl (dd at_245) (by decide) (by decide)
    obtain ⟨b17, g17⟩ : ∃ z, z = hS.size := ⟨_, rfl⟩
    rw [← g17] at A17 D17 st17
    have ne_tb_b17 : tb ≠ b17 := Nat.ne_of_lt (Nat.lt_of_lt_of_le (V_tb).lt (Nat.le_of_eq g17.symm))
    have ne_rd_b17 : rd ≠ b17 := Nat.ne_of_lt (Nat.lt_of_lt_of_le (E_rd).lt (Nat.le_of_eq g17.symm))
    have ne_ba_b17 : ba ≠ b17 := Nat.ne_of_lt (Nat.lt_of_lt_of_le (V_ba).lt (Nat.le_of_eq g17.symm))
    have ne_aat_b17 : aat ≠ b17 := Nat.ne_of_lt (Nat.lt_of_lt_of_le (V_aat).lt (Nat.le_of_eq g17.symm))
    have ne_ast_b17 : ast ≠ b17 := Nat.ne_of_lt (Nat.lt_of_lt_of_le (V_ast).lt (Nat.le_of_eq g17.symm))
    have ne_aks_b17 : aks ≠ b17 := Nat.ne_of_lt (Nat.lt_of_lt_of_le (V_aks).lt (Nat.le_of_eq g17.symm))
    have g_b17 : n0 ≤ b17 := Nat.le_trans Z0 (Nat.le_of_eq g17.symm)
    have SZ17 : n0 ≤ h17.size := Nat.le_trans Z0 E17.1
    have f17_S_st_OBJECT := Sta.ext E17 S_st_OBJECT
    have f17_S_st_ARRAY := Sta.ext E17 S_st_ARRAY
    have f17_S_st_NUMBER := Sta.ext E17 S_st_NUMBER
    have f17_S_st_TRUE := Sta.ext E17 S_st_TRUE
    have f17_S_tb := Sta.ext E17 S_tb
    have f17_V_tb := Arv.ext V_tb E17
    have f17_E_rd := Exa.ext E17 E_rd
    have f17_F_bytes_rd := Fld.ext E17 F_bytes_rd
    have f17_F_maxDepth_rd := Fld.ext E17 F_maxDepth_rd
    have f17_F_position_rd := Fld.ext E17 F_position_rd
    have f17_F_depth_rd := Fld.ext E17 F_depth_rd
    have f17_F_first_rd := Fld.ext E17 F_first_rd
    have f17_F_token_rd := Fld.ext E17 F_token_rd
    have f17_F_tokenStart_rd := Fld.ext E17 F_tokenStart_rd
    have f17_F_textStart_rd := Fld.ext E17 F_textStart_rd
    have f17_F_textEnd_rd := Fld.ext E17 F_textEnd_rd
    have f17_F_escaped_rd := Fld.ext E17 F_escaped_rd
    have f17_F_ascii_rd := Fld.ext E17 F_ascii_rd
    have f17_F_integral_rd := Fld.ext E17 F_integral_rd
    have f17_V_ba := Arv.ext V_ba E17
    have f17_V_aat := Arv.ext V_aat E17
    have f17_V_ast := Arv.ext V_ast E17
    have f17_V_aks := Arv.ext V_aks E17
    have F_position_b17 : Fld Z h17 b17 cs2 "position" "I" (.int (0 : Int32)) := D17 (Or.inr (ww hw 94 rfl)) (ty := .int) (by decide)
    have F_depth_b17 : Fld Z h17 b17 cs2 "depth" "I" (.int (0 : Int32)) := D17 (Or.inr (ww hw 96 rfl)) (ty := .int) (by decide)
    refine Gz.st st17 ?_
    refine Gz.dup 249 X17 hx (dd at_248) rfl rfl ?_
    refine Gz.aload 251 X17 hx (dd at_249) rfl rfl rfl ?_
    refine Gz.iload 253 X17 hx (dd at_251) rfl rfl ?_
    obtain ⟨c18, A18, q18, S18, N18, H18, G18⟩ := id f17_V_aat
    have hin18 : ¬ ((4 : Int32) < 0 ∨ c18.slots.size ≤ ((4 : Int32)).toNatClampNeg) := inb_of S18 ⟨by decide, by decide⟩
    refine Gz.ldI 254 X17 hx hZ (dd at_253) e17 A18 hin18 (Has.at H18 hin18 (rfl : _ = ((.int (5 : Int32)) : Value))) rfl ?_
    refine Gz.iloadN 255 X17 hx (dd at_254) rfl rfl ?_
    obtain ⟨_, _, ⟨T19, L19, k19, n19⟩, -, X19, ⟨Lc19, hQ19, l19, y19, z19⟩, st19⟩ := X17.specialBack hx (y := ym3) rfl hown (mvT hZ (ww hw 84 rfl)) (mvT hZ (ww hw 85 rfl)) (mvT hZ (ww hw 86 rfl)) (by decide) (backOf (W := 2) (rm11 l Z av0 hw [] b17 (5 : Int32) dq  h17 n0 SZ17 A17 F_position_b17 F_depth_b17 g_b17) hZ (ww hw 86 rfl) (ww hw 83 rfl) (by decide) (by decide)) (g := (mkF m 255 #[s0, .val (.int dq), s2, s3, .val (.ref aat), .val (.ref ast), .val (.ref aks), .val (.int (4 : Int32)), s8, s9, .val (.ref rd), .unset, .unset, .unset, .unset] [(.int dq), (.int (5 : Int32)), (.ref b17), (.ref b17), (.ref rd)])) rfl (by rw [hml]; rfl) (Steps.refl _) (a := b17) (argsL := [(.int (5 : Int32)), (.int dq)]) (rest := [(.ref b17), (.ref rd)]) (lenOf pd_3 rfl) rfl (Nat.le_refl _) (dd at_255) (fun _ _ => ⟨rfl, e17, (by decide : 6 + 0 ≤ _), (by decide : 42 + 0 ≤ _)⟩)
    dsimp only [Pt.U, Pt.locs, Pt.cells, Pt.slots, Q_rm11] at X19 l19 y19 z19 st19 hQ19
    subst l19 y19 z19
    obtain ⟨rfl, N19q, K19q, QE19_0, QF19_0, QF19_1⟩ := hQ19
    have N19 := Fr.app N0 N19q
    have f19_S_st_OBJECT := own_staK f17_S_st_OBJECT K19q (allS (nst_of A17) all0)
    have f19_S_st_ARRAY := own_staK f17_S_st_ARRAY K19q (allS (nst_of A17) all0)
    have f19_S_st_NUMBER := own_staK f17_S_st_NUMBER K19q (allS (nst_of A17) all0)
    have f19_S_st_TRUE := own_staK f17_S_st_TRUE K19q (allS (nst_of A17) all0)
    have f19_S_tb := own_staK f17_S_tb K19q (allS (nst_of A17) all0)
    have f19_V_tb := Arv.keep f17_V_tb K19q (ninS ne_tb_b17 nin0)
    have f19_E_rd := Exa.keep f17_E_rd K19q
    have f19_F_bytes_rd := Fld.keep f17_F_bytes_rd K19q (ninS ne_rd_b17 nin0)
    have f19_F_maxDepth_rd := Fld.keep f17_F_maxDepth_rd K19q (ninS ne_rd_b17 nin0)
    have f19_F_position_rd := Fld.keep f17_F_position_rd K19q (ninS ne_rd_b17 nin0)
    have f19_F_depth_rd := Fld.keep f17_F_depth_rd K19q (ninS ne_rd_b17 nin0)
    have f19_F_first_rd := Fld.keep f17_F_first_rd K19q (ninS ne_rd_b17 nin0)
    have f19_F_token_rd := Fld.keep f17_F_token_rd K19q (ninS ne_rd_b17 nin0)
    have f19_F_tokenStart_rd := Fld.keep f17_F_tokenStart_rd K19q (ninS ne_rd_b17 nin0)
    have f19_F_textStart_rd := Fld.keep f17_F_textStart_rd K19q (ninS ne_rd_b17 nin0)
    have f19_F_textEnd_rd := Fld.keep f17_F_textEnd_rd K19q (ninS ne_rd_b17 nin0)
    have f19_F_escaped_rd := Fld.keep f17_F_escaped_rd K19q (ninS ne_rd_b17 nin0)
    have f19_F_ascii_rd := Fld.keep f17_F_ascii_rd K19q (ninS ne_rd_b17 nin0)
    have f19_F_integral_rd := Fld.keep f17_F_integral_rd K19q (ninS ne_rd_b17 nin0)
    have f19_V_ba := Arv.keep f17_V_ba K19q (ninS ne_ba_b17 nin0)
    have f19_V_aat := Arv.keep f17_V_aat K19q (ninS ne_aat_b17 nin0)
    have f19_V_ast := Arv.keep f17_V_ast K19q (ninS ne_ast_b17 nin0)
    have f19_V_aks := Arv.keep f17_V_aks K19q (ninS ne_aks_b17 nin0)
    have f19_Eb17 := Exa.keep A17 K19q
    have SZ19 := Nat.le_trans SZ17 K19q.1
    refine Gz.tr st19 ?_
    obtain ⟨cq20, kq20, q20a, q20b, q20c⟩ := isOf hZ rfl f19_E_rd
    obtain ⟨_, _, ⟨T20, L20, k20, n20⟩, -, X20, ⟨Lc20, hQ20, l20, y20, z20⟩, st20⟩ := X19.virtualBack hx (y := ym16) (z := ym16) hown (mvT hZ (ww hw 97 rfl)) (mvT hZ (ww hw 98 rfl)) (notFace_of_selects (args := #[]) (mvT hZ (ww hw 100 rfl))) (mvT hZ (ww hw 100 rfl)) (mvT hZ (ww hw 99 rfl)) (by decide) (backOf (W := 0) (rmRs_n l Z av0 hw [] rd b17 ba md ps dp fi ts xs xe es as_ ig k_ba (5 : Int32) dq T19.heap n0 SZ19 f19_E_rd f19_F_bytes_rd f19_F_maxDepth_rd f19_F_position_rd f19_F_depth_rd f19_F_first_rd f19_F_token_rd f19_F_tokenStart_rd f19_F_textStart_rd f19_F_textEnd_rd f19_F_escaped_rd f19_F_ascii_rd f19_F_integral_rd g_rd f19_V_ba ne_ba_rd QE19_0 QF19_0 QF19_1 (Ne.symm ne_rd_b17)) hZ (ww hw 101 rfl) (ww hw 15 rfl) (by decide) (by decide)) q20a q20c (g := (mkF m 258 #[s0, .val (.int dq), s2, s3, .val (.ref aat), .val (.ref ast), .val (.ref aks), .val (.int (4 : Int32)), s8, s9, .val (.ref rd), .unset, .unset, .unset, .unset] [(.ref b17), (.ref rd)])) rfl (by rw [hml]; rfl) (Steps.refl _) (argsL := [(.ref b17)]) (rest := []) (lenOf pd_13 rfl) rfl (Nat.le_refl _) (dd at_258) (fun _ _ => ⟨rfl, rfl, (by decide : 6 + 0 ≤ _), (by decide : 42 + 0 ≤ _)⟩)
    dsimp only [Pt.U, Pt.locs, Pt.cells, Pt.slots, Q_rmRs_n] at X20 l20 y20 z20 st20 hQ20
    subst l20 y20 z20
    obtain ⟨rfl, N20q, K20q, QE20_0, QF20_0, QF20_1, QF20_2, QF20_3, QF20_4, QF20_5, QF20_6, QF20_7, QF20_8, QF20_9, QF20_10, QF20_11⟩ := hQ20
    have N20 := Fr.app N19 N20q
    have f20_S_st_OBJECT := own_staK f19_S_st_OBJECT K20q (allS (nst_of f19_E_rd) all0)
    have f20_S_st_ARRAY := own_staK f19_S_st_ARRAY K20q (allS (nst_of f19_E_rd) all0)
    have f20_S_st_NUMBER := own_staK f19_S_st_NUMBER K20q (allS (nst_of f19_E_rd) all0)
    have f20_S_st_TRUE := own_staK f19_S_st_TRUE K20q (allS (nst_of f19_E_rd) all0)
    have f20_S_tb := own_staK f19_S_tb K20q (allS (nst_of f19_E_rd) all0)
    have f20_V_tb := Arv.keep f19_V_tb K20q (ninS ne_tb_rd nin0)
    have f20_E_rd := Exa.keep f19_E_rd K20q
    have f20_V_ba := Arv.keep f19_V_ba K20q (ninS ne_ba_rd nin0)
    have f20_V_aat := Arv.keep f19_V_aat K20q (ninS ne_aat_rd nin0)
    have f20_V_ast := Arv.keep f19_V_ast K20q (ninS ne_ast_rd nin0)
    have f20_V_aks := Arv.keep f19_V_aks K20q (ninS ne_aks_rd nin0)
    have f20_E_b17 := Exa.keep QE19_0 K20q
    have f20_F_position_b17 := Fld.keep QF19_0 K20q (ninS (Ne.symm ne_rd_b17) nin0)
    have f20_F_depth_b17 := Fld.keep QF19_1 K20q (ninS (Ne.symm ne_rd_b17) nin0)
    have SZ20 := Nat.le_trans SZ19 K20q.1
    refine Gz.tr st20 ?_
    exact sgC4 (s0) dq (s2) (s3) (.val (.ref aat)) ast aks (s8) (s9) rd st_OBJECT st_ARRAY st_NUMBER st_TRUE tb k_tb ba md fi ts xs xe es as_ ig k_ba k_ast k_aks n0 X20 hx hZ hw hby hml hown hret hlk rfl N20 SZ20 f20_S_st_OBJECT f20_S_st_ARRAY f20_S_st_NUMBER f20_S_st_TRUE ne_st_OBJECT_st_ARRAY ne_st_OBJECT_st_NUMBER ne_st_OBJECT_st_TRUE ne_st_ARRAY_st_NUMBER ne_st_ARRAY_st_TRUE f20_S_tb f20_V_tb QE20_0 QF20_0 QF20_1 QF20_2 QF20_3 QF20_4 QF20_5 QF20_6 QF20_7 QF20_8 QF20_9 QF20_10 QF20_11 g_rd f20_V_ba ne_ba_rd f20_V_ast f20_V_aks ne_ast_rd ne_aks_rd ne_tb_rd hdm
  · refine Gz.aload 245 X0 hx (dd at_243) rfl rfl rfl ?_
    obtain ⟨T21, h21, X21, e21, E21, A21, D21, -, st21⟩ := newO X0 hx hZ hown (ww hw 81 rfl) (ww hw 82 rfl) (ww hw 83 rfl) e0 (g := (mkF m 245 #[s0, .val (.int dq), s2, s3, .val (.ref aat), .val (.ref ast), .val (.ref aks), .val (.int (5 : Int32)), s8, s9, .val (.ref rd), .unset, .unset, .unset, .unset] [(.ref rd)])) rfl (dd at_245) (by decide) (by decide)
    obtain ⟨b21, g21⟩ : ∃ z, z = hS.size := ⟨_, rfl⟩
    rw [← g21] at A21 D21 st21
    have ne_tb_b21 : tb ≠ b21 := Nat.ne_of_lt (Nat.lt_of_lt_of_le (V_tb).lt (Nat.le_of_eq g21.symm))
    have ne_rd_b21 : rd ≠ b21 := Nat.ne_of_lt (Nat.lt_of_lt_of_le (E_rd).lt (Nat.le_of_eq g21.symm))
    have ne_ba_b21 : ba ≠ b21 := Nat.ne_of_lt (Nat.lt_of_lt_of_le (V_ba).lt (Nat.le_of_eq g21.symm))
    have ne_aat_b21 : aat ≠ b21 := Nat.ne_of_lt (Nat.lt_of_lt_of_le (V_aat).lt (Nat.le_of_eq g21.symm))
    have ne_ast_b21 : ast ≠ b21 := Nat.ne_of_lt (Nat.lt_of_lt_of_le (V_ast).lt (Nat.le_of_eq g21.symm))
    have ne_aks_b21 : aks ≠ b21 := Nat.ne_of_lt (Nat.lt_of_lt_of_le (V_aks).lt (Nat.le_of_eq g21.symm))
    have g_b21 : n0 ≤ b21 := Nat.le_trans Z0 (Nat.le_of_eq g21.symm)
    have SZ21 : n0 ≤ h21.size := Nat.le_trans Z0 E21.1
    have f21_S_st_OBJECT := Sta.ext E21 S_st_OBJECT
    have f21_S_st_ARRAY := Sta.ext E21 S_st_ARRAY
    have f21_S_st_NUMBER := Sta.ext E21 S_st_NUMBER
    have f21_S_st_TRUE := Sta.ext E21 S_st_TRUE
    have f21_S_tb := Sta.ext E21 S_tb
    have f21_V_tb := Arv.ext V_tb E21
    have f21_E_rd := Exa.ext E21 E_rd
    have f21_F_bytes_rd := Fld.ext E21 F_bytes_rd
    have f21_F_maxDepth_rd := Fld.ext E21 F_maxDepth_rd
    have f21_F_position_rd := Fld.ext E21 F_position_rd
    have f21_F_depth_rd := Fld.ext E21 F_depth_rd
    have f21_F_first_rd := Fld.ext E21 F_first_rd
    have f21_F_token_rd := Fld.ext E21 F_token_rd
    have f21_F_tokenStart_rd := Fld.ext E21 F_tokenStart_rd
    have f21_F_textStart_rd := Fld.ext E21 F_textStart_rd
    have f21_F_textEnd_rd := Fld.ext E21 F_textEnd_rd
    have f21_F_escaped_rd := Fld.ext E21 F_escaped_rd
    have f21_F_ascii_rd := Fld.ext E21 F_ascii_rd
    have f21_F_integral_rd := Fld.ext E21 F_integral_rd
    have f21_V_ba := Arv.ext V_ba E21
    have f21_V_aat := Arv.ext V_aat E21
    have f21_V_ast := Arv.ext V_ast E21
    have f21_V_aks := Arv.ext V_aks E21
    have F_position_b21 : Fld Z h21 b21 cs2 "position" "I" (.int (0 : Int32)) := D21 (Or.inr (ww hw 94 rfl)) (ty := .int) (by decide)
    have F_depth_b21 : Fld Z h21 b21 cs2 "depth" "I" (.int (0 : Int32)) := D21 (Or.inr (ww hw 96 rfl)) (ty := .int) (by decide)
    refine Gz.st st21 ?_
    refine Gz.dup 249 X21 hx (dd at_248) rfl rfl ?_
    refine Gz.aload 251 X21 hx (dd at_249) rfl rfl rfl ?_
    refine Gz.iload 253 X21 hx (dd at_251) rfl rfl ?_
    obtain ⟨c22, A22, q22, S22, N22, H22, G22⟩ := id f21_V_aat
    have hin22 : ¬ ((5 : Int32) < 0 ∨ c22.slots.size ≤ ((5 : Int32)).toNatClampNeg) := inb_of S22 ⟨by decide, by decide⟩
    refine Gz.ldI 254 X21 hx hZ (dd at_253) e21 A22 hin22 (Has.at H22 hin22 (rfl : _ = ((.int (6 : Int32)) : Value))) rfl ?_
    refine Gz.iloadN 255 X21 hx (dd at_254) rfl rfl ?_
    obtain ⟨_, _, ⟨T23, L23, k23, n23⟩, -, X23, ⟨Lc23, hQ23, l23, y23, z23⟩, st23⟩ := X21.specialBack hx (y := ym3) rfl hown (mvT hZ (ww hw 84 rfl)) (mvT hZ (ww hw 85 rfl)) (mvT hZ (ww hw 86 rfl)) (by decide) (backOf (W := 2) (rm11 l Z av0 hw [] b21 (6 : Int32) dq  h21 n0 SZ21 A21 F_position_b21 F_depth_b21 g_b21) hZ (ww hw 86 rfl) (ww hw 83 rfl) (by decide) (by decide)) (g := (mkF m 255 #[s0, .val (.int dq), s2, s3, .val (.ref aat), .val (.ref ast), .val (.ref aks), .val (.int (5 : Int32)), s8, s9, .val (.ref rd), .unset, .unset, .unset, .unset] [(.int dq), (.int (6 : Int32)), (.ref b21), (.ref b21), (.ref rd)])) rfl (by rw [hml]; rfl) (Steps.refl _) (a := b21) (argsL := [(.int (6 : Int32)), (.int dq)]) (rest := [(.ref b21), (.ref rd)]) (lenOf pd_3 rfl) rfl (Nat.le_refl _) (dd at_255) (fun _ _ => ⟨rfl, e21, (by decide : 6 + 0 ≤ _), (by decide : 42 + 0 ≤ _)⟩)
    dsimp only [Pt.U, Pt.locs, Pt.cells, Pt.slots, Q_rm11] at X23 l23 y23 z23 st23 hQ23
    subst l23 y23 z23
    obtain ⟨rfl, N23q, K23q, QE23_0, QF23_0, QF23_1⟩ := hQ23
    have N23 := Fr.app N0 N23q
    have f23_S_st_OBJECT := own_staK f21_S_st_OBJECT K23q (allS (nst_of A21) all0)
    have f23_S_st_ARRAY := own_staK f21_S_st_ARRAY K23q (allS (nst_of A21) all0)
    have f23_S_st_NUMBER := own_staK f21_S_st_NUMBER K23q (allS (nst_of A21) all0)
    have f23_S_st_TRUE := own_staK f21_S_st_TRUE K23q (allS (nst_of A21) all0)
    have f23_S_tb := own_staK f21_S_tb K23q (allS (nst_of A21) all0)
    have f23_V_tb := Arv.keep f21_V_tb K23q (ninS ne_tb_b21 nin0)
    have f23_E_rd := Exa.keep f21_E_rd K23q
    have f23_F_bytes_rd := Fld.keep f21_F_bytes_rd K23q (ninS ne_rd_b21 nin0)
    have f23_F_maxDepth_rd := Fld.keep f21_F_maxDepth_rd K23q (ninS ne_rd_b21 nin0)
    have f23_F_position_rd := Fld.keep f21_F_position_rd K23q (ninS ne_rd_b21 nin0)
    have f23_F_depth_rd := Fld.keep f21_F_depth_rd K23q (ninS ne_rd_b21 nin0)
    have f23_F_first_rd := Fld.keep f21_F_first_rd K23q (ninS ne_rd_b21 nin0)
    have f23_F_token_rd := Fld.keep f21_F_token_rd K23q (ninS ne_rd_b21 nin0)
    have f23_F_tokenStart_rd := Fld.keep f21_F_tokenStart_rd K23q (ninS ne_rd_b21 nin0)
    have f23_F_textStart_rd := Fld.keep f21_F_textStart_rd K23q (ninS ne_rd_b21 nin0)
    have f23_F_textEnd_rd := Fld.keep f21_F_textEnd_rd K23q (ninS ne_rd_b21 nin0)
    have f23_F_escaped_rd := Fld.keep f21_F_escaped_rd K23q (ninS ne_rd_b21 nin0)
    have f23_F_ascii_rd := Fld.keep f21_F_ascii_rd K23q (ninS ne_rd_b21 nin0)
    have f23_F_integral_rd := Fld.keep f21_F_integral_rd K23q (ninS ne_rd_b21 nin0)
    have f23_V_ba := Arv.keep f21_V_ba K23q (ninS ne_ba_b21 nin0)
    have f23_V_aat := Arv.keep f21_V_aat K23q (ninS ne_aat_b21 nin0)
    have f23_V_ast := Arv.keep f21_V_ast K23q (ninS ne_ast_b21 nin0)
    have f23_V_aks := Arv.keep f21_V_aks K23q (ninS ne_aks_b21 nin0)
    have f23_Eb21 := Exa.keep A21 K23q
    have SZ23 := Nat.le_trans SZ21 K23q.1
    refine Gz.tr st23 ?_
    obtain ⟨cq24, kq24, q24a, q24b, q24c⟩ := isOf hZ rfl f23_E_rd
    obtain ⟨_, _, ⟨T24, L24, k24, n24⟩, -, X24, ⟨Lc24, hQ24, l24, y24, z24⟩, st24⟩ := X23.virtualBack hx (y := ym16) (z := ym16) hown (mvT hZ (ww hw 97 rfl)) (mvT hZ (ww hw 98 rfl)) (notFace_of_selects (args := #[]) (mvT hZ (ww hw 100 rfl))) (mvT hZ (ww hw 100 rfl)) (mvT hZ (ww hw 99 rfl)) (by decide) (backOf (W := 0) (rmRs_n l Z av0 hw [] rd b21 ba md ps dp fi ts xs xe es as_ ig k_ba (6 : Int32) dq T23.heap n0 SZ23 f23_E_rd f23_F_bytes_rd f23_F_maxDepth_rd f23_F_position_rd f23_F_depth_rd f23_F_first_rd f23_F_token_rd f23_F_tokenStart_rd f23_F_textStart_rd f23_F_textEnd_rd f23_F_escaped_rd f23_F_ascii_rd f23_F_integral_rd g_rd f23_V_ba ne_ba_rd QE23_0 QF23_0 QF23_1 (Ne.symm ne_rd_b21)) hZ (ww hw 101 rfl) (ww hw 15 rfl) (by decide) (by decide)) q24a q24c (g := (mkF m 258 #[s0, .val (.int dq), s2, s3, .val (.ref aat), .val (.ref ast), .val (.ref aks), .val (.int (5 : Int32)), s8, s9, .val (.ref rd), .unset, .unset, .unset, .unset] [(.ref b21), (.ref rd)])) rfl (by rw [hml]; rfl) (Steps.refl _) (argsL := [(.ref b21)]) (rest := []) (lenOf pd_13 rfl) rfl (Nat.le_refl _) (dd at_258) (fun _ _ => ⟨rfl, rfl, (by decide : 6 + 0 ≤ _), (by decide : 42 + 0 ≤ _)⟩)
    dsimp only [Pt.U, Pt.locs, Pt.cells, Pt.slots, Q_rmRs_n] at X24 l24 y24 z24 st24 hQ24
    subst l24 y24 z24
    obtain ⟨rfl, N24q, K24q, QE24_0, QF24_0, QF24_1, QF24_2, QF24_3, QF24_4, QF24_5, QF24_6, QF24_7, QF24_8, QF24_9, QF24_10, QF24_11⟩ := hQ24
    have N24 := Fr.app N23 N24q
    have f24_S_st_OBJECT := own_staK f23_S_st_OBJECT K24q (allS (nst_of f23_E_rd) all0)
    have f24_S_st_ARRAY := own_staK f23_S_st_ARRAY K24q (allS (nst_of f23_E_rd) all0)
    have f24_S_st_NUMBER := own_staK f23_S_st_NUMBER K24q (allS (nst_of f23_E_rd) all0)
    have f24_S_st_TRUE := own_staK f23_S_st_TRUE K24q (allS (nst_of f23_E_rd) all0)
    have f24_S_tb := own_staK f23_S_tb K24q (allS (nst_of f23_E_rd) all0)
    have f24_V_tb := Arv.keep f23_V_tb K24q (ninS ne_tb_rd nin0)
    have f24_E_rd := Exa.keep f23_E_rd K24q
    have f24_V_ba := Arv.keep f23_V_ba K24q (ninS ne_ba_rd nin0)
    have f24_V_aat := Arv.keep f23_V_aat K24q (ninS ne_aat_rd nin0)
    have f24_V_ast := Arv.keep f23_V_ast K24q (ninS ne_ast_rd nin0)
    have f24_V_aks := Arv.keep f23_V_aks K24q (ninS ne_aks_rd nin0)
    have f24_E_b21 := Exa.keep QE23_0 K24q
    have f24_F_position_b21 := Fld.keep QF23_0 K24q (ninS (Ne.symm ne_rd_b21) nin0)
    have f24_F_depth_b21 := Fld.keep QF23_1 K24q (ninS (Ne.symm ne_rd_b21) nin0)
    have SZ24 := Nat.le_trans SZ23 K24q.1
    refine Gz.tr st24 ?_
    exact sgC5 (s0) dq (s2) (s3) (.val (.ref aat)) ast aks (s8) (s9) rd st_OBJECT st_ARRAY st_NUMBER st_TRUE tb k_tb ba md fi ts xs xe es as_ ig k_ba k_ast k_aks n0 X24 hx hZ hw hby hml hown hret hlk rfl N24 SZ24 f24_S_st_OBJECT f24_S_st_ARRAY f24_S_st_NUMBER f24_S_st_TRUE ne_st_OBJECT_st_ARRAY ne_st_OBJECT_st_NUMBER ne_st_OBJECT_st_TRUE ne_st_ARRAY_st_NUMBER ne_st_ARRAY_st_TRUE f24_S_tb f24_V_tb QE24_0 QF24_0 QF24_1 QF24_2 QF24_3 QF24_4 QF24_5 QF24_6 QF24_7 QF24_8 QF24_9 QF24_10 QF24_11 g_rd f24_V_ba ne_ba_rd f24_V_ast f24_V_aks ne_ast_rd ne_aks_rd ne_tb_rd hdm
theorem ef_rmRs_r (m : MethodId) (a0 : Addr) (a1 : Addr) : entryFrame m #[(.ref a0), (.ref a1)] 2 = mkF m 0 #[.val (.ref a0), .val (.ref a1)] [] := by first | (simp [entryFrame, mkF, argsToLocals, Value.category]; done) | rfl
def Q_rmRs_r (Z : State) (a0 : Addr) (a1 : Addr) (ba : Addr) (md : Int32) (ps : Int32) (dp : Int32) (fi : Int32) (tk : Addr) (ts : Int32) (xs : Int32) (xe : Int32) (es : Int32) (as_ : Int32) (ig : Int32) (k_ba : ClassId) (mp : Int32) (mdp : Int32) (h0 : Heap) (n0 : Nat) (v : Option Value) (h : Heap) (L : List Loc) : Prop := v = none ∧ Fr n0 L ∧ Keep h0 h [a0] ∧ Exa Z h a0 cs0 ∧ Fld Z h a0 cs0 "bytes" "[B" (.ref ba) ∧ Fld Z h a0 cs0 "maxDepth" "I" (.int md) ∧ Fld Z h a0 cs0 "position" "I" (.int mp) ∧ Fld Z h a0 cs0 "depth" "I" (.int mdp) ∧ Fld Z h a0 cs0 "first" "Z" (.int fi) ∧ Fld Z h a0 cs0 "token" "Lcom/example/bad_status/badstatus/model/JsonReader$Token;" .null ∧ Fld Z h a0 cs0 "tokenStart" "I" (.int ts) ∧ Fld Z h a0 cs0 "textStart" "I" (.int xs) ∧ Fld Z h a0 cs0 "textEnd" "I" (.int xe) ∧ Fld Z h a0 cs0 "escaped" "Z" (.int es) ∧ Fld Z h a0 cs0 "ascii" "Z" (.int as_) ∧ Fld Z h a0 cs0 "integral" "Z" (.int ig)
set_option maxRecDepth 65536 in
set_option maxHeartbeats 40000000 in
theorem rmRs_r (l : Launch) (Z : State) (av0 : Array Value) (hw : ∀ d ∈ tables_1, d.before av0 Z = true) (ws : List Jvm.Cond) (a0 : Addr) (a1 : Addr) (ba : Addr) (md : Int32) (ps : Int32) (dp : Int32) (fi : Int32) (tk : Addr) (ts : Int32) (xs : Int32) (xe : Int32) (es : Int32) (as_ : Int32) (ig : Int32) (k_ba : ClassId) (mp : Int32) (mdp : Int32) (h0 : Heap) (n0 : Nat) (Z0 : n0 ≤ h0.size) (E_a0 : Exa Z h0 a0 cs0) (F_bytes_a0 : Fld Z h0 a0 cs0 "bytes" "[B" (.ref ba)) (F_maxDepth_a0 : Fld Z h0 a0 cs0 "maxDepth" "I" (.int md)) (F_position_a0 : Fld Z h0 a0 cs0 "position" "I" (.int ps)) (F_depth_a0 : Fld Z h0 a0 cs0 "depth" "I" (.int dp)) (F_first_a0 : Fld Z h0 a0 cs0 "first" "Z" (.int fi)) (F_token_a0 : Fld Z h0 a0 cs0 "token" "Lcom/example/bad_status/badstatus/model/JsonReader$Token;" (.ref tk)) (F_tokenStart_a0 : Fld Z h0 a0 cs0 "tokenStart" "I" (.int ts)) (F_textStart_a0 : Fld Z h0 a0 cs0 "textStart" "I" (.int xs)) (F_textEnd_a0 : Fld Z h0 a0 cs0 "textEnd" "I" (.int xe)) (F_escaped_a0 : Fld Z h0 a0 cs0 "escaped" "Z" (.int es)) (F_ascii_a0 : Fld Z h0 a0 cs0 "ascii" "Z" (.int as_)) (F_integral_a0 : Fld Z h0 a0 cs0 "integral" "Z" (.int ig)) (g_a0 : n0 ≤ a0) (V_ba : Arv Z h0 ba k_ba .byte (10 : Int32) [(.int (91 : Int32)), (.int (32 : Int32)), (.int (52 : Int32)), (.int (50 : Int32)), (.int (44 : Int32)), (.int (91 : Int32)), (.int (116 : Int32)), (.int (114 : Int32)), (.int (117 : Int32)), (.int (101 : Int32))] (.int (0 : Int32))) (ne_ba_a0 : ba ≠ a0) (E_a1 : Exa Z h0 a1 cs2) (F_position_a1 : Fld Z h0 a1 cs2 "position" "I" (.int mp)) (F_depth_a1 : Fld Z h0 a1 cs2 "depth" "I" (.int mdp)) (ne_a1_a0 : a1 ≠ a0) :
    MetFree l (⟨cs0, "reset", "(Lcom/example/bad_status/badstatus/model/JsonReader$Mark;)V"⟩ : MethodName) (head1 (Jvm.Cond.code (⟨cs0, "reset", "(Lcom/example/bad_status/badstatus/model/JsonReader$Mark;)V"⟩ : MethodName) prog_11_method_8_code 2 none :: ws) ({ frames := 1, cells := 0, slots := 0, locals := 13 } : Room)) (fun a U => a = #[(.ref a0), (.ref a1)] ∧ Z.Warmed39 U.vm ∧ U.heap = h0) (fun _ _ _ _ _ => True) (fun _ U o U' => ∃ v L, o = .returned v ∧ Q_rmRs_r Z a0 a1 ba md ps dp fi tk ts xs xe es as_ ig k_ba mp mdp h0 n0 v U'.heap L ∧ FrameEnd U o U' L ({ frames := 1, cells := 0, slots := 0, locals := 13 } : Room).cells ({ frames := 1, cells := 0, slots := 0, locals := 13 } : Room).slots) := by
  refine MetFree.of_bodySF (plainFor_of_name pn_0) hisR ?_
  intro p e s m args below meth c s₁ Bd hml0 hP hK
  obtain ⟨rfl, hZ, hh⟩ := hP
  have hx := Bd.exec
  have hby := Bd.bytes
  have hml : c.maxLocals = 2 := hml0
  have dd : ∀ {pc : Nat} {r : Except DecodeError (Instr × Nat)}, decode prog_11_method_8_code pc = r → decode c.code pc = r := fun q => hb hby q
  have hown : s.vm.findClass cs0 = some m.cls := findClass_of_methodNamed Bd.named
  have hnm := (name_of_methodNamed Bd.named Bd.method).1
  have X0 : Stand p l e ({ frames := 1, cells := 0, slots := 0, locals := 13 } : Room) s m #[(.ref a0), (.ref a1)] below meth c s₁ [] 0 0 := Stand.of_body Bd
  have e0 : s₁.heap = h0 := by rw [← hh, Bd.state]; rfl
  have N0 := Fr.nil n0
  have hret := Bd.returns
  have hlk := Bd.notSynchronized
  show Gz p e below s ({ frames := 1, cells := 0, slots := 0, locals := 13 } : Room).cells ({ frames := 1, cells := 0, slots := 0, locals := 13 } : Room).slots (Q_rmRs_r Z a0 a1 ba md ps dp fi tk ts xs xe es as_ ig k_ba mp mdp h0 n0) (s₁.setTop (entryFrame m #[(.ref a0), (.ref a1)] 2))
  refine Gz.enter (ef_rmRs_r m a0 a1) ?_
  refine Gz.aloadN 1 X0 hx (dd d13_0) rfl rfl rfl ?_
  refine Gz.aloadN 2 X0 hx (dd d13_1) rfl rfl rfl ?_
  obtain ⟨cq1, kq1, q1a, q1b, q1c⟩ := isOf hZ e0 E_a1
  obtain ⟨_, _, ⟨T1, L1, k1, n1⟩, -, X1, ⟨Lc1, hQ1, l1, y1, z1⟩, st1⟩ := X0.virtualBack hx (y := ym10) (z := ym10) hown (mvT hZ (ww hw 102 rfl)) (mvT hZ (ww hw 103 rfl)) (notFace_of_selects (args := #[]) (mvT hZ (ww hw 105 rfl))) (mvT hZ (ww hw 105 rfl)) (mvT hZ (ww hw 104 rfl)) (by decide) (backOf (W := 1) (rm14 l Z av0 hw [] a1 mp h0 n0 Z0 F_position_a1) hZ (ww hw 106 rfl) (ww hw 83 rfl) (by decide) (by decide)) q1a q1c (g := (mkF m 2 #[.val (.ref a0), .val (.ref a1)] [(.ref a1), (.ref a0)])) rfl (by rw [hml]; rfl) (Steps.refl _) (argsL := []) (rest := [(.ref a0)]) (lenOf pd_5 rfl) rfl (Nat.le_refl _) (dd d13_2) (fun _ _ => ⟨rfl, e0, (by decide : 0 + 0 ≤ _), (by decide : 0 + 0 ≤ _)⟩)
  dsimp only [Pt.U, Pt.locs, Pt.cells, Pt.slots, Q_rm14] at X1 l1 y1 z1 st1 hQ1
  subst l1 y1 z1
  rw [show (fMp a1 mp) = mp from (by unfold fMp; rfl)] at hQ1
  obtain ⟨rfl, N1q, e1⟩ := hQ1
  have N1 := Fr.app N0 N1q
  refine Gz.tr st1 ?_
  refine Gz.putF 8 X1 hx hZ hown .int (dd d13_5) (host := "") (Or.inl (ww hw 24 rfl)) Via.refl e1 F_position_a0 E_a0 (Or.inl (ww hw 25 rfl)) (ww hw 14 rfl) (by decide) rfl rfl rfl fun T2 h2 X2 e2 W2 => ?_
  have f2_E_a0 := Exa.wr W2 E_a0
  have f2_F_bytes_a0 := Fld.other W2 F_bytes_a0 (Or.inr (Ne.symm <| sn1 hw))
  have f2_F_maxDepth_a0 := Fld.other W2 F_maxDepth_a0 (Or.inr (sn11 hw))
  have f2_F_depth_a0 := Fld.other W2 F_depth_a0 (Or.inr (sn12 hw))
  have f2_F_first_a0 := Fld.other W2 F_first_a0 (Or.inr (sn13 hw))
  have f2_F_token_a0 := Fld.other W2 F_token_a0 (Or.inr (sn14 hw))
  have f2_F_tokenStart_a0 := Fld.other W2 F_tokenStart_a0 (Or.inr (sn15 hw))
  have f2_F_textStart_a0 := Fld.other W2 F_textStart_a0 (Or.inr (sn16 hw))
  have f2_F_textEnd_a0 := Fld.other W2 F_textEnd_a0 (Or.inr (sn17 hw))
  have f2_F_escaped_a0 := Fld.other W2 F_escaped_a0 (Or.inr (sn18 hw))
  have f2_F_ascii_a0 := Fld.other W2 F_ascii_a0 (Or.inr (sn19 hw))
  have f2_F_integral_a0 := Fld.other W2 F_integral_a0 (Or.inr (sn20 hw))
  have f2_V_ba := Arv.other V_ba W2 ne_ba_a0
  have f2_E_a1 := Exa.wr W2 E_a1
  have f2_F_position_a1 := Fld.other W2 F_position_a1 (Or.inl ne_a1_a0)
  have f2_F_depth_a1 := Fld.other W2 F_depth_a1 (Or.inl ne_a1_a0)
  have f2_F_position_a0 := Fld.same W2 F_position_a0
  have N2 := Fr.snoc X2 N1 g_a0
  have SZ2 : n0 ≤ h2.size := Nat.le_trans Z0 (Keep.of_wr W2).1
  have K2 := Keep.wr (Keep.refl h0 [a0]) W2 (Or.inl (List.mem_of_getElem? (i := 0) rfl))
  refine Gz.aloadN 9 X2 hx (dd d13_8) rfl rfl rfl ?_
  refine Gz.aloadN 10 X2 hx (dd d13_9) rfl rfl rfl ?_
  obtain ⟨cq3, kq3, q3a, q3b, q3c⟩ := isOf hZ e2 f2_E_a1
  obtain ⟨_, _, ⟨T3, L3, k3, n3⟩, -, X3, ⟨Lc3, hQ3, l3, y3, z3⟩, st3⟩ := X2.virtualBack hx (y := ym5) (z := ym5) hown (mvT hZ (ww hw 107 rfl)) (mvT hZ (ww hw 108 rfl)) (notFace_of_selects (args := #[]) (mvT hZ (ww hw 110 rfl))) (mvT hZ (ww hw 110 rfl)) (mvT hZ (ww hw 109 rfl)) (by decide) (backOf (W := 1) (rm15 l Z av0 hw [] a1 mdp h2 n0 SZ2 f2_F_depth_a1) hZ (ww hw 111 rfl) (ww hw 83 rfl) (by decide) (by decide)) q3a q3c (g := (mkF m 10 #[.val (.ref a0), .val (.ref a1)] [(.ref a1), (.ref a0)])) rfl (by rw [hml]; rfl) (Steps.refl _) (argsL := []) (rest := [(.ref a0)]) (lenOf pd_5 rfl) rfl (Nat.le_refl _) (dd d13_10) (fun _ _ => ⟨rfl, e2, (by decide : 0 + 0 ≤ _), (by decide : 0 + 0 ≤ _)⟩)
  dsimp only [Pt.U, Pt.locs, Pt.cells, Pt.slots, Q_rm15] at X3 l3 y3 z3 st3 hQ3
  subst l3 y3 z3
  rw [show (fMd a1 mdp) = mdp from (by unfold fMd; rfl)] at hQ3
  obtain ⟨rfl, N3q, e3⟩ := hQ3
  have N3 := Fr.app N2 N3q
  refine Gz.tr st3 ?_
  refine Gz.putF 16 X3 hx hZ hown .int (dd d13_13) (host := "") (Or.inl (ww hw 47 rfl)) Via.refl e3 f2_F_depth_a0 f2_E_a0 (Or.inl (ww hw 48 rfl)) (ww hw 14 rfl) (by decide) rfl rfl rfl fun T4 h4 X4 e4 W4 => ?_
  have f4_E_a0 := Exa.wr W4 f2_E_a0
  have f4_F_bytes_a0 := Fld.other W4 f2_F_bytes_a0 (Or.inr (Ne.symm <| sn2 hw))
  have f4_F_maxDepth_a0 := Fld.other W4 f2_F_maxDepth_a0 (Or.inr (Ne.symm <| sn21 hw))
  have f4_F_position_a0 := Fld.other W4 f2_F_position_a0 (Or.inr (Ne.symm <| sn12 hw))
  have f4_F_first_a0 := Fld.other W4 f2_F_first_a0 (Or.inr (sn39 hw))
  have f4_F_token_a0 := Fld.other W4 f2_F_token_a0 (Or.inr (sn40 hw))
  have f4_F_tokenStart_a0 := Fld.other W4 f2_F_tokenStart_a0 (Or.inr (Ne.symm <| sn31 hw))
  have f4_F_textStart_a0 := Fld.other W4 f2_F_textStart_a0 (Or.inr (sn41 hw))
  have f4_F_textEnd_a0 := Fld.other W4 f2_F_textEnd_a0 (Or.inr (sn42 hw))
  have f4_F_escaped_a0 := Fld.other W4 f2_F_escaped_a0 (Or.inr (sn43 hw))
  have f4_F_ascii_a0 := Fld.other W4 f2_F_ascii_a0 (Or.inr (sn44 hw))
  have f4_F_integral_a0 := Fld.other W4 f2_F_integral_a0 (Or.inr (sn45 hw))
  have f4_V_ba := Arv.other f2_V_ba W4 ne_ba_a0
  have f4_E_a1 := Exa.wr W4 f2_E_a1
  have f4_F_position_a1 := Fld.other W4 f2_F_position_a1 (Or.inl ne_a1_a0)
  have f4_F_depth_a1 := Fld.other W4 f2_F_depth_a1 (Or.inl ne_a1_a0)
  have f4_F_depth_a0 := Fld.same W4 f2_F_depth_a0
  have N4 := Fr.snoc X4 N3 g_a0
  have SZ4 : n0 ≤ h4.size := Nat.le_trans SZ2 (Keep.of_wr W4).1
  have K4 := Keep.wr K2 W4 (Or.inl (List.mem_of_getElem? (i := 0) rfl))
  refine Gz.aloadN 17 X4 hx (dd d13_16) rfl rfl rfl ?_
  refine Gz.aconstNull 18 X4 hx (dd d13_17) rfl ?_
  refine Gz.putF 21 X4 hx hZ hown (.object cs1) (dd d13_18) (host := "") (Or.inl (ww hw 51 rfl)) Via.refl e4 f4_F_token_a0 f4_E_a0 (Or.inl (ww hw 52 rfl)) (ww hw 14 rfl) (by decide) rfl rfl rfl fun T5 h5 X5 e5 W5 => ?_
  have f5_E_a0 := Exa.wr W5 f4_E_a0
  have f5_F_bytes_a0 := Fld.other W5 f4_F_bytes_a0 (Or.inr (Ne.symm <| sn4 hw))
  have f5_F_maxDepth_a0 := Fld.other W5 f4_F_maxDepth_a0 (Or.inr (Ne.symm <| sn23 hw))
  have f5_F_position_a0 := Fld.other W5 f4_F_position_a0 (Or.inr (Ne.symm <| sn14 hw))
  have f5_F_depth_a0 := Fld.other W5 f4_F_depth_a0 (Or.inr (Ne.symm <| sn40 hw))
  have f5_F_first_a0 := Fld.other W5 f4_F_first_a0 (Or.inr (Ne.symm <| sn46 hw))
  have f5_F_tokenStart_a0 := Fld.other W5 f4_F_tokenStart_a0 (Or.inr (Ne.symm <| sn33 hw))
  have f5_F_textStart_a0 := Fld.other W5 f4_F_textStart_a0 (Or.inr (sn52 hw))
  have f5_F_textEnd_a0 := Fld.other W5 f4_F_textEnd_a0 (Or.inr (sn53 hw))
  have f5_F_escaped_a0 := Fld.other W5 f4_F_escaped_a0 (Or.inr (sn54 hw))
  have f5_F_ascii_a0 := Fld.other W5 f4_F_ascii_a0 (Or.inr (sn55 hw))
  have f5_F_integral_a0 := Fld.other W5 f4_F_integral_a0 (Or.inr (sn56 hw))
  have f5_V_ba := Arv.other f4_V_ba W5 ne_ba_a0
  have f5_E_a1 := Exa.wr W5 f4_E_a1
  have f5_F_position_a1 := Fld.other W5 f4_F_position_a1 (Or.inl ne_a1_a0)
  have f5_F_depth_a1 := Fld.other W5 f4_F_depth_a1 (Or.inl ne_a1_a0)
  have f5_F_token_a0 := Fld.same W5 f4_F_token_a0
  have N5 := Fr.snoc X5 N4 g_a0
  have SZ5 : n0 ≤ h5.size := Nat.le_trans SZ4 (Keep.of_wr W5).1
  have K5 := Keep.wr K4 W5 (Or.inl (List.mem_of_getElem? (i := 0) rfl))
  refine Gz.fin X5 (v := none) (fun _ => rfl) hlk (by decide) (by decide) (fun fs hr => X5.returnOut hx hret (dd d13_21) hr) ?_
  rw [e5]
  exact ⟨rfl, N5, K5, f5_E_a0, f5_F_bytes_a0, f5_F_maxDepth_a0, f5_F_position_a0, f5_F_depth_a0, f5_F_first_a0, f5_F_token_a0, f5_F_tokenStart_a0, f5_F_textStart_a0, f5_F_textEnd_a0, f5_F_escaped_a0, f5_F_ascii_a0, f5_F_integral_a0⟩
set_option maxRecDepth 65536 in
set_option maxHeartbeats 40000000 in
theorem sgBr {p : Program} {l : Launch} {e : Env} {s : State} {m : MethodId} {args : Array Value} {below : List Frame} {meth : Method} {c : Code} {T0 : State} {locs : List Loc} {Z : State} {av0 : Array Value} {hS : Heap} (s0 : Slot) (dq : Int32) (s2 : Slot) (s3 : Slot) (aat : Addr) (ast : Addr) (aks : Addr) (kk : Int32) (s8 : Slot) (s9 : Slot) (rd : Addr) (st_OBJECT : Addr) (st_ARRAY : Addr) (st_NUMBER : Addr) (st_TRUE : Addr) (tb : Addr) (k_tb : ClassId) (ba : Addr) (md : Int32) (ps : Int32) (dp : Int32) (fi : Int32) (tk : Addr) (ts : Int32) (xs : Int32) (xe : Int32) (es : Int32) (as_ : Int32) (ig : Int32) (k_ba : ClassId) (k_aat : ClassId) (k_ast : ClassId) (k_aks : ClassId) (n0 : Nat)
    (X0 : Stand p l e room_1 s m args below meth c T0 locs 5 40) (hx : p.tables.exec = Jvm.exec) (hZ : Z.Warmed39 s.vm) (hw : ∀ d ∈ tables_1, d.before av0 Z = true) (hby : c.code = code) (hml : c.maxLocals = 15) (hown : s.vm.findClass "com/example/bad_status/badstatus/model/JsonReaderResetPinLaw" = some m.cls) (hret : meth.sig.returnType = some .boolean) (hlk : meth.locks = false) (e0 : T0.heap = hS) (N0 : Fr n0 locs) (Z0 : n0 ≤ hS.size) (S_st_OBJECT : Sta Z hS cs1 "OBJECT" "Lcom/example/bad_status/badstatus/model/JsonReader$Token;" (.ref st_OBJECT)) (S_st_ARRAY : Sta Z hS cs1 "ARRAY" "Lcom/example/bad_status/badstatus/model/JsonReader$Token;" (.ref st_ARRAY)) (S_st_NUMBER : Sta Z hS cs1 "NUMBER" "Lcom/example/bad_status/badstatus/model/JsonReader$Token;" (.ref st_NUMBER)) (S_st_TRUE : Sta Z hS cs1 "TRUE" "Lcom/example/bad_status/badstatus/model/JsonReader$Token;" (.ref st_TRUE)) (ne_st_OBJECT_st_ARRAY : st_OBJECT ≠ st_ARRAY) (ne_st_OBJECT_st_NUMBER : st_OBJECT ≠ st_NUMBER) (ne_st_OBJECT_st_TRUE : st_OBJECT ≠ st_TRUE) (ne_st_ARRAY_st_NUMBER : st_ARRAY ≠ st_NUMBER) (ne_st_ARRAY_st_TRUE : st_ARRAY ≠ st_TRUE) (S_tb : Sta Z hS cs0 "TRUE" "[B" (.ref tb)) (V_tb : Arv Z hS tb k_tb .byte (4 : Int32) [(.int (116 : Int32)), (.int (114 : Int32)), (.int (117 : Int32)), (.int (101 : Int32))] (.int (0 : Int32))) (E_rd : Exa Z hS rd cs0) (F_bytes_rd : Fld Z hS rd cs0 "bytes" "[B" (.ref ba)) (F_maxDepth_rd : Fld Z hS rd cs0 "maxDepth" "I" (.int md)) (F_position_rd : Fld Z hS rd cs0 "position" "I" (.int ps)) (F_depth_rd : Fld Z hS rd cs0 "depth" "I" (.int dp)) (F_first_rd : Fld Z hS rd cs0 "first" "Z" (.int fi)) (F_token_rd : Fld Z hS rd cs0 "token" "Lcom/example/bad_status/badstatus/model/JsonReader$Token;" (.ref tk)) (F_tokenStart_rd : Fld Z hS rd cs0 "tokenStart" "I" (.int ts)) (F_textStart_rd : Fld Z hS rd cs0 "textStart" "I" (.int xs)) (F_textEnd_rd : Fld Z hS rd cs0 "textEnd" "I" (.int xe)) (F_escaped_rd : Fld Z hS rd cs0 "escaped" "Z" (.int es)) (F_ascii_rd : Fld Z hS rd cs0 "ascii" "Z" (.int as_)) (F_integral_rd : Fld Z hS rd cs0 "integral" "Z" (.int ig)) (g_rd : n0 ≤ rd) (V_ba : Arv Z hS ba k_ba .byte (10 : Int32) [(.int (91 : Int32)), (.int (32 : Int32)), (.int (52 : Int32)), (.int (50 : Int32)), (.int (44 : Int32)), (.int (91 : Int32)), (.int (116 : Int32)), (.int (114 : Int32)), (.int (117 : Int32)), (.int (101 : Int32))] (.int (0 : Int32))) (ne_ba_rd : ba ≠ rd) (V_aat : Arv Z hS aat k_aat .int (6 : Int32) [(.int (0 : Int32)), (.int (1 : Int32)), (.int (2 : Int32)), (.int (3 : Int32)), (.int (5 : Int32)), (.int (6 : Int32))] (.int (0 : Int32))) (V_ast : Arv Z hS ast k_ast .int (6 : Int32) [(.int (0 : Int32)), (.int (2 : Int32)), (.int (2 : Int32)), (.int (3 : Int32)), (.int (5 : Int32)), (.int (6 : Int32))] (.int (0 : Int32))) (V_aks : Arv Z hS aks k_aks (.object cs1) (6 : Int32) [(.ref st_ARRAY), (.ref st_NUMBER), (.ref st_NUMBER), (.ref st_NUMBER), (.ref st_ARRAY), (.ref st_TRUE)] .null) (ne_aat_rd : aat ≠ rd) (ne_ast_rd : ast ≠ rd) (ne_aks_rd : aks ≠ rd) (ne_tb_rd : tb ≠ rd) (hdm : ¬ (dq = md)) (hkk : kk = (0 : Int32) ∨ kk = (1 : Int32) ∨ kk = (2 : Int32) ∨ kk = (3 : Int32) ∨ kk = (4 : Int32) ∨ kk = (5 : Int32)) :
    Gz p e below s 24 192 (Q_law n0) (T0.setTop (mkF m 243 #[s0, .val (.int dq), s2, s3, .val (.ref aat), .val (.ref ast), .val (.ref aks), .val (.int kk), s8, s9, .val (.ref rd), .unset, .unset, .unset, .unset] [])) := by
  have dd : ∀ {pc : Nat} {r : Except DecodeError (Instr × Nat)}, decode code pc = r → decode c.code pc = r := fun q => hb hby q
  show Gz p e below s _ _ _ (T0.setTop (mkF m 243 #[s0, .val (.int dq), s2, s3, .val (.ref aat), .val (.ref ast), .val (.ref aks), .val (.int kk), s8, s9, .val (.ref rd), .unset, .unset, .unset, .unset] []))
  rcases hkk with rfl | rfl | rfl | rfl | rfl | rfl
  · refine Gz.aload 245 X0 hx (dd at_243) rfl rfl rfl ?_
    obtain ⟨T1, h1, X1, e1, E1, A1, D1, -, st1⟩ := newO X0 hx hZ hown (ww hw 81 rfl) (ww hw 82 rfl) (ww hw 83 rfl) e0 (g := (mkF m 245 #[s0, .val (.int dq), s2, s3, .val (.ref aat), .val (.ref ast), .val (.ref aks), .val (.int (0 : Int32)), s8, s9, .val (.ref rd), .unset, .unset, .unset, .unset] [(.ref rd)])) rfl (dd at_245) (by decide) (by decide)
    obtain ⟨b1, g1⟩ : ∃ z, z = hS.size := ⟨_, rfl⟩
    rw [← g1] at A1 D1 st1
    have ne_tb_b1 : tb ≠ b1 := Nat.ne_of_lt (Nat.lt_of_lt_of_le (V_tb).lt (Nat.le_of_eq g1.symm))
    have ne_rd_b1 : rd ≠ b1 := Nat.ne_of_lt (Nat.lt_of_lt_of_le (E_rd).lt (Nat.le_of_eq g1.symm))
    have ne_ba_b1 : ba ≠ b1 := Nat.ne_of_lt (Nat.lt_of_lt_of_le (V_ba).lt (Nat.le_of_eq g1.symm))
    have ne_aat_b1 : aat ≠ b1 := Nat.ne_of_lt (Nat.lt_of_lt_of_le (V_aat).lt (Nat.le_of_eq g1.symm))
    have ne_ast_b1 : ast ≠ b1 := Nat.ne_of_lt (Nat.lt_of_lt_of_le (V_ast).lt (Nat.le_of_eq g1.symm))
    have ne_aks_b1 : aks ≠ b1 := Nat.ne_of_lt (Nat.lt_of_lt_of_le (V_aks).lt (Nat.le_of_eq g1.symm))
    have g_b1 : n0 ≤ b1 := Nat.le_trans Z0 (Nat.le_of_eq g1.symm)
    have SZ1 : n0 ≤ h1.size := Nat.le_trans Z0 E1.1
    have f1_S_st_OBJECT := Sta.ext E1 S_st_OBJECT
    have f1_S_st_ARRAY := Sta.ext E1 S_st_ARRAY
    have f1_S_st_NUMBER := Sta.ext E1 S_st_NUMBER
    have f1_S_st_TRUE := Sta.ext E1 S_st_TRUE
    have f1_S_tb := Sta.ext E1 S_tb
    have f1_V_tb := Arv.ext V_tb E1
    have f1_E_rd := Exa.ext E1 E_rd
    have f1_F_bytes_rd := Fld.ext E1 F_bytes_rd
    have f1_F_maxDepth_rd := Fld.ext E1 F_maxDepth_rd
    have f1_F_position_rd := Fld.ext E1 F_position_rd
    have f1_F_depth_rd := Fld.ext E1 F_depth_rd
    have f1_F_first_rd := Fld.ext E1 F_first_rd
    have f1_F_token_rd := Fld.ext E1 F_token_rd
    have f1_F_tokenStart_rd := Fld.ext E1 F_tokenStart_rd
    have f1_F_textStart_rd := Fld.ext E1 F_textStart_rd
    have f1_F_textEnd_rd := Fld.ext E1 F_textEnd_rd
    have f1_F_escaped_rd := Fld.ext E1 F_escaped_rd
    have f1_F_ascii_rd := Fld.ext E1 F_ascii_rd
    have f1_F_integral_rd := Fld.ext E1 F_integral_rd
    have f1_V_ba := Arv.ext V_ba E1
    have f1_V_aat := Arv.ext V_aat E1
    have f1_V_ast := Arv.ext V_ast E1
    have f1_V_aks := Arv.ext V_aks E1
    have F_position_b1 : Fld Z h1 b1 cs2 "position" "I" (.int (0 : Int32)) := D1 (Or.inr (ww hw 94 rfl)) (ty := .int) (by decide)
    have F_depth_b1 : Fld Z h1 b1 cs2 "depth" "I" (.int (0 : Int32)) := D1 (Or.inr (ww hw 96 rfl)) (ty := .int) (by decide)
    refine Gz.st st1 ?_
    refine Gz.dup 249 X1 hx (dd at_248) rfl rfl ?_
    refine Gz.aload 251 X1 hx (dd at_249) rfl rfl rfl ?_
    refine Gz.iload 253 X1 hx (dd at_251) rfl rfl ?_
    obtain ⟨c2, A2, q2, S2, N2, H2, G2⟩ := id f1_V_aat
    have hin2 : ¬ ((0 : Int32) < 0 ∨ c2.slots.size ≤ ((0 : Int32)).toNatClampNeg) := inb_of S2 ⟨by decide, by decide⟩
    refine Gz.ldI 254 X1 hx hZ (dd at_253) e1 A2 hin2 (Has.at H2 hin2 (rfl : _ = ((.int (0 : Int32)) : Value))) rfl ?_
    refine Gz.iloadN 255 X1 hx (dd at_254) rfl rfl ?_
    obtain ⟨_, _, ⟨T3, L3, k3, n3⟩, -, X3, ⟨Lc3, hQ3, l3, y3, z3⟩, st3⟩ := X1.specialBack hx (y := ym3) rfl hown (mvT hZ (ww hw 84 rfl)) (mvT hZ (ww hw 85 rfl)) (mvT hZ (ww hw 86 rfl)) (by decide) (backOf (W := 2) (rm11 l Z av0 hw [] b1 (0 : Int32) dq  h1 n0 SZ1 A1 F_position_b1 F_depth_b1 g_b1) hZ (ww hw 86 rfl) (ww hw 83 rfl) (by decide) (by decide)) (g := (mkF m 255 #[s0, .val (.int dq), s2, s3, .val (.ref aat), .val (.ref ast), .val (.ref aks), .val (.int (0 : Int32)), s8, s9, .val (.ref rd), .unset, .unset, .unset, .unset] [(.int dq), (.int (0 : Int32)), (.ref b1), (.ref b1), (.ref rd)])) rfl (by rw [hml]; rfl) (Steps.refl _) (a := b1) (argsL := [(.int (0 : Int32)), (.int dq)]) (rest := [(.ref b1), (.ref rd)]) (lenOf pd_3 rfl) rfl (Nat.le_refl _) (dd at_255) (fun _ _ => ⟨rfl, e1, (by decide : 6 + 0 ≤ _), (by decide : 42 + 0 ≤ _)⟩)
    dsimp only [Pt.U, Pt.locs, Pt.cells, Pt.slots, Q_rm11] at X3 l3 y3 z3 st3 hQ3
    subst l3 y3 z3
    obtain ⟨rfl, N3q, K3q, QE3_0, QF3_0, QF3_1⟩ := hQ3
    have N3 := Fr.app N0 N3q
    have f3_S_st_OBJECT := own_staK f1_S_st_OBJECT K3q (allS (nst_of A1) all0)
    have f3_S_st_ARRAY := own_staK f1_S_st_ARRAY K3q (allS (nst_of A1) all0)
    have f3_S_st_NUMBER := own_staK f1_S_st_NUMBER K3q (allS (nst_of A1) all0)
    have f3_S_st_TRUE := own_staK f1_S_st_TRUE K3q (allS (nst_of A1) all0)
    have f3_S_tb := own_staK f1_S_tb K3q (allS (nst_of A1) all0)
    have f3_V_tb := Arv.keep f1_V_tb K3q (ninS ne_tb_b1 nin0)
    have f3_E_rd := Exa.keep f1_E_rd K3q
    have f3_F_bytes_rd := Fld.keep f1_F_bytes_rd K3q (ninS ne_rd_b1 nin0)
    have f3_F_maxDepth_rd := Fld.keep f1_F_maxDepth_rd K3q (ninS ne_rd_b1 nin0)
    have f3_F_position_rd := Fld.keep f1_F_position_rd K3q (ninS ne_rd_b1 nin0)
    have f3_F_depth_rd := Fld.keep f1_F_depth_rd K3q (ninS ne_rd_b1 nin0)
    have f3_F_first_rd := Fld.keep f1_F_first_rd K3q (ninS ne_rd_b1 nin0)
    have f3_F_token_rd := Fld.keep f1_F_token_rd K3q (ninS ne_rd_b1 nin0)
    have f3_F_tokenStart_rd := Fld.keep f1_F_tokenStart_rd K3q (ninS ne_rd_b1 nin0)
    have f3_F_textStart_rd := Fld.keep f1_F_textStart_rd K3q (ninS ne_rd_b1 nin0)
    have f3_F_textEnd_rd := Fld.keep f1_F_textEnd_rd K3q (ninS ne_rd_b1 nin0)
    have f3_F_escaped_rd := Fld.keep f1_F_escaped_rd K3q (ninS ne_rd_b1 nin0)
    have f3_F_ascii_rd := Fld.keep f1_F_ascii_rd K3q (ninS ne_rd_b1 nin0)
    have f3_F_integral_rd := Fld.keep f1_F_integral_rd K3q (ninS ne_rd_b1 nin0)
    have f3_V_ba := Arv.keep f1_V_ba K3q (ninS ne_ba_b1 nin0)
    have f3_V_aat := Arv.keep f1_V_aat K3q (ninS ne_aat_b1 nin0)
    have f3_V_ast := Arv.keep f1_V_ast K3q (ninS ne_ast_b1 nin0)
    have f3_V_aks := Arv.keep f1_V_aks K3q (ninS ne_aks_b1 nin0)
    have f3_Eb1 := Exa.keep A1 K3q
    have SZ3 := Nat.le_trans SZ1 K3q.1
    refine Gz.tr st3 ?_
    obtain ⟨cq4, kq4, q4a, q4b, q4c⟩ := isOf hZ rfl f3_E_rd
    obtain ⟨_, _, ⟨T4, L4, k4, n4⟩, -, X4, ⟨Lc4, hQ4, l4, y4, z4⟩, st4⟩ := X3.virtualBack hx (y := ym16) (z := ym16) hown (mvT hZ (ww hw 97 rfl)) (mvT hZ (ww hw 98 rfl)) (notFace_of_selects (args := #[]) (mvT hZ (ww hw 100 rfl))) (mvT hZ (ww hw 100 rfl)) (mvT hZ (ww hw 99 rfl)) (by decide) (backOf (W := 0) (rmRs_r l Z av0 hw [] rd b1 ba md ps dp fi tk ts xs xe es as_ ig k_ba (0 : Int32) dq T3.heap n0 SZ3 f3_E_rd f3_F_bytes_rd f3_F_maxDepth_rd f3_F_position_rd f3_F_depth_rd f3_F_first_rd f3_F_token_rd f3_F_tokenStart_rd f3_F_textStart_rd f3_F_textEnd_rd f3_F_escaped_rd f3_F_ascii_rd f3_F_integral_rd g_rd f3_V_ba ne_ba_rd QE3_0 QF3_0 QF3_1 (Ne.symm ne_rd_b1)) hZ (ww hw 101 rfl) (ww hw 15 rfl) (by decide) (by decide)) q4a q4c (g := (mkF m 258 #[s0, .val (.int dq), s2, s3, .val (.ref aat), .val (.ref ast), .val (.ref aks), .val (.int (0 : Int32)), s8, s9, .val (.ref rd), .unset, .unset, .unset, .unset] [(.ref b1), (.ref rd)])) rfl (by rw [hml]; rfl) (Steps.refl _) (argsL := [(.ref b1)]) (rest := []) (lenOf pd_13 rfl) rfl (Nat.le_refl _) (dd at_258) (fun _ _ => ⟨rfl, rfl, (by decide : 6 + 0 ≤ _), (by decide : 42 + 0 ≤ _)⟩)
    dsimp only [Pt.U, Pt.locs, Pt.cells, Pt.slots, Q_rmRs_r] at X4 l4 y4 z4 st4 hQ4
    subst l4 y4 z4
    obtain ⟨rfl, N4q, K4q, QE4_0, QF4_0, QF4_1, QF4_2, QF4_3, QF4_4, QF4_5, QF4_6, QF4_7, QF4_8, QF4_9, QF4_10, QF4_11⟩ := hQ4
    have N4 := Fr.app N3 N4q
    have f4_S_st_OBJECT := own_staK f3_S_st_OBJECT K4q (allS (nst_of f3_E_rd) all0)
    have f4_S_st_ARRAY := own_staK f3_S_st_ARRAY K4q (allS (nst_of f3_E_rd) all0)
    have f4_S_st_NUMBER := own_staK f3_S_st_NUMBER K4q (allS (nst_of f3_E_rd) all0)
    have f4_S_st_TRUE := own_staK f3_S_st_TRUE K4q (allS (nst_of f3_E_rd) all0)
    have f4_S_tb := own_staK f3_S_tb K4q (allS (nst_of f3_E_rd) all0)
    have f4_V_tb := Arv.keep f3_V_tb K4q (ninS ne_tb_rd nin0)
    have f4_E_rd := Exa.keep f3_E_rd K4q
    have f4_V_ba := Arv.keep f3_V_ba K4q (ninS ne_ba_rd nin0)
    have f4_V_aat := Arv.keep f3_V_aat K4q (ninS ne_aat_rd nin0)
    have f4_V_ast := Arv.keep f3_V_ast K4q (ninS ne_ast_rd nin0)
    have f4_V_aks := Arv.keep f3_V_aks K4q (ninS ne_aks_rd nin0)
    have f4_E_b1 := Exa.keep QE3_0 K4q
    have f4_F_position_b1 := Fld.keep QF3_0 K4q (ninS (Ne.symm ne_rd_b1) nin0)
    have f4_F_depth_b1 := Fld.keep QF3_1 K4q (ninS (Ne.symm ne_rd_b1) nin0)
    have SZ4 := Nat.le_trans SZ3 K4q.1
    refine Gz.tr st4 ?_
    exact sgC0 (s0) dq (s2) (s3) (.val (.ref aat)) ast aks (s8) (s9) rd st_OBJECT st_ARRAY st_NUMBER st_TRUE tb k_tb ba md fi ts xs xe es as_ ig k_ba k_ast k_aks n0 X4 hx hZ hw hby hml hown hret hlk rfl N4 SZ4 f4_S_st_OBJECT f4_S_st_ARRAY f4_S_st_NUMBER f4_S_st_TRUE ne_st_OBJECT_st_ARRAY ne_st_OBJECT_st_NUMBER ne_st_OBJECT_st_TRUE ne_st_ARRAY_st_NUMBER ne_st_ARRAY_st_TRUE f4_S_tb f4_V_tb QE4_0 QF4_0 QF4_1 QF4_2 QF4_3 QF4_4 QF4_5 QF4_6 QF4_7 QF4_8 QF4_9 QF4_10 QF4_11 g_rd f4_V_ba ne_ba_rd f4_V_ast f4_V_aks ne_ast_rd ne_aks_rd ne_tb_rd hdm
  · refine Gz.aload 245 X0 hx (dd at_243) rfl rfl rfl ?_
    obtain ⟨T5, h5, X5, e5, E5, A5, D5, -, st5⟩ := newO X0 hx hZ hown (ww hw 81 rfl) (ww hw 82 rfl) (ww hw 83 rfl) e0 (g := (mkF m 245 #[s0, .val (.int dq), s2, s3, .val (.ref aat), .val (.ref ast), .val (.ref aks), .val (.int (1 : Int32)), s8, s9, .val (.ref rd), .unset, .unset, .unset, .unset] [(.ref rd)])) rfl (dd at_245) (by decide) (by decide)
    obtain ⟨b5, g5⟩ : ∃ z, z = hS.size := ⟨_, rfl⟩
    rw [← g5] at A5 D5 st5
    have ne_tb_b5 : tb ≠ b5 := Nat.ne_of_lt (Nat.lt_of_lt_of_le (V_tb).lt (Nat.le_of_eq g5.symm))
    have ne_rd_b5 : rd ≠ b5 := Nat.ne_of_lt (Nat.lt_of_lt_of_le (E_rd).lt (Nat.le_of_eq g5.symm))
    have ne_ba_b5 : ba ≠ b5 := Nat.ne_of_lt (Nat.lt_of_lt_of_le (V_ba).lt (Nat.le_of_eq g5.symm))
    have ne_aat_b5 : aat ≠ b5 := Nat.ne_of_lt (Nat.lt_of_lt_of_le (V_aat).lt (Nat.le_of_eq g5.symm))
    have ne_ast_b5 : ast ≠ b5 := Nat.ne_of_lt (Nat.lt_of_lt_of_le (V_ast).lt (Nat.le_of_eq g5.symm))
    have ne_aks_b5 : aks ≠ b5 := Nat.ne_of_lt (Nat.lt_of_lt_of_le (V_aks).lt (Nat.le_of_eq g5.symm))
    have g_b5 : n0 ≤ b5 := Nat.le_trans Z0 (Nat.le_of_eq g5.symm)
    have SZ5 : n0 ≤ h5.size := Nat.le_trans Z0 E5.1
    have f5_S_st_OBJECT := Sta.ext E5 S_st_OBJECT
    have f5_S_st_ARRAY := Sta.ext E5 S_st_ARRAY
    have f5_S_st_NUMBER := Sta.ext E5 S_st_NUMBER
    have f5_S_st_TRUE := Sta.ext E5 S_st_TRUE
    have f5_S_tb := Sta.ext E5 S_tb
    have f5_V_tb := Arv.ext V_tb E5
    have f5_E_rd := Exa.ext E5 E_rd
    have f5_F_bytes_rd := Fld.ext E5 F_bytes_rd
    have f5_F_maxDepth_rd := Fld.ext E5 F_maxDepth_rd
    have f5_F_position_rd := Fld.ext E5 F_position_rd
    have f5_F_depth_rd := Fld.ext E5 F_depth_rd
    have f5_F_first_rd := Fld.ext E5 F_first_rd
    have f5_F_token_rd := Fld.ext E5 F_token_rd
    have f5_F_tokenStart_rd := Fld.ext E5 F_tokenStart_rd
    have f5_F_textStart_rd := Fld.ext E5 F_textStart_rd
    have f5_F_textEnd_rd := Fld.ext E5 F_textEnd_rd
    have f5_F_escaped_rd := Fld.ext E5 F_escaped_rd
    have f5_F_ascii_rd := Fld.ext E5 F_ascii_rd
    have f5_F_integral_rd := Fld.ext E5 F_integral_rd
    have f5_V_ba := Arv.ext V_ba E5
    have f5_V_aat := Arv.ext V_aat E5
    have f5_V_ast := Arv.ext V_ast E5
    have f5_V_aks := Arv.ext V_aks E5
    have F_position_b5 : Fld Z h5 b5 cs2 "position" "I" (.int (0 : Int32)) := D5 (Or.inr (ww hw 94 rfl)) (ty := .int) (by decide)
    have F_depth_b5 : Fld Z h5 b5 cs2 "depth" "I" (.int (0 : Int32)) := D5 (Or.inr (ww hw 96 rfl)) (ty := .int) (by decide)
    refine Gz.st st5 ?_
    refine Gz.dup 249 X5 hx (dd at_248) rfl rfl ?_
    refine Gz.aload 251 X5 hx (dd at_249) rfl rfl rfl ?_
    refine Gz.iload 253 X5 hx (dd at_251) rfl rfl ?_
    obtain ⟨c6, A6, q6, S6, N6, H6, G6⟩ := id f5_V_aat
    have hin6 : ¬ ((1 : Int32) < 0 ∨ c6.slots.size ≤ ((1 : Int32)).toNatClampNeg) := inb_of S6 ⟨by decide, by decide⟩
    refine Gz.ldI 254 X5 hx hZ (dd at_253) e5 A6 hin6 (Has.at H6 hin6 (rfl : _ = ((.int (1 : Int32)) : Value))) rfl ?_
    refine Gz.iloadN 255 X5 hx (dd at_254) rfl rfl ?_
    obtain ⟨_, _, ⟨T7, L7, k7, n7⟩, -, X7, ⟨Lc7, hQ7, l7, y7, z7⟩, st7⟩ := X5.specialBack hx (y := ym3) rfl hown (mvT hZ (ww hw 84 rfl)) (mvT hZ (ww hw 85 rfl)) (mvT hZ (ww hw 86 rfl)) (by decide) (backOf (W := 2) (rm11 l Z av0 hw [] b5 (1 : Int32) dq  h5 n0 SZ5 A5 F_position_b5 F_depth_b5 g_b5) hZ (ww hw 86 rfl) (ww hw 83 rfl) (by decide) (by decide)) (g := (mkF m 255 #[s0, .val (.int dq), s2, s3, .val (.ref aat), .val (.ref ast), .val (.ref aks), .val (.int (1 : Int32)), s8, s9, .val (.ref rd), .unset, .unset, .unset, .unset] [(.int dq), (.int (1 : Int32)), (.ref b5), (.ref b5), (.ref rd)])) rfl (by rw [hml]; rfl) (Steps.refl _) (a := b5) (argsL := [(.int (1 : Int32)), (.int dq)]) (rest := [(.ref b5), (.ref rd)]) (lenOf pd_3 rfl) rfl (Nat.le_refl _) (dd at_255) (fun _ _ => ⟨rfl, e5, (by decide : 6 + 0 ≤ _), (by decide : 42 + 0 ≤ _)⟩)
    dsimp only [Pt.U, Pt.locs, Pt.cells, Pt.slots, Q_rm11] at X7 l7 y7 z7 st7 hQ7
    subst l7 y7 z7
    obtain ⟨rfl, N7q, K7q, QE7_0, QF7_0, QF7_1⟩ := hQ7
    have N7 := Fr.app N0 N7q
    have f7_S_st_OBJECT := own_staK f5_S_st_OBJECT K7q (allS (nst_of A5) all0)
    have f7_S_st_ARRAY := own_staK f5_S_st_ARRAY K7q (allS (nst_of A5) all0)
    have f7_S_st_NUMBER := own_staK f5_S_st_NUMBER K7q (allS (nst_of A5) all0)
    have f7_S_st_TRUE := own_staK f5_S_st_TRUE K7q (allS (nst_of A5) all0)
    have f7_S_tb := own_staK f5_S_tb K7q (allS (nst_of A5) all0)
    have f7_V_tb := Arv.keep f5_V_tb K7q (ninS ne_tb_b5 nin0)
    have f7_E_rd := Exa.keep f5_E_rd K7q
    have f7_F_bytes_rd := Fld.keep f5_F_bytes_rd K7q (ninS ne_rd_b5 nin0)
    have f7_F_maxDepth_rd := Fld.keep f5_F_maxDepth_rd K7q (ninS ne_rd_b5 nin0)
    have f7_F_position_rd := Fld.keep f5_F_position_rd K7q (ninS ne_rd_b5 nin0)
    have f7_F_depth_rd := Fld.keep f5_F_depth_rd K7q (ninS ne_rd_b5 nin0)
    have f7_F_first_rd := Fld.keep f5_F_first_rd K7q (ninS ne_rd_b5 nin0)
    have f7_F_token_rd := Fld.keep f5_F_token_rd K7q (ninS ne_rd_b5 nin0)
    have f7_F_tokenStart_rd := Fld.keep f5_F_tokenStart_rd K7q (ninS ne_rd_b5 nin0)
    have f7_F_textStart_rd := Fld.keep f5_F_textStart_rd K7q (ninS ne_rd_b5 nin0)
    have f7_F_textEnd_rd := Fld.keep f5_F_textEnd_rd K7q (ninS ne_rd_b5 nin0)
    have f7_F_escaped_rd := Fld.keep f5_F_escaped_rd K7q (ninS ne_rd_b5 nin0)
    have f7_F_ascii_rd := Fld.keep f5_F_ascii_rd K7q (ninS ne_rd_b5 nin0)
    have f7_F_integral_rd := Fld.keep f5_F_integral_rd K7q (ninS ne_rd_b5 nin0)
    have f7_V_ba := Arv.keep f5_V_ba K7q (ninS ne_ba_b5 nin0)
    have f7_V_aat := Arv.keep f5_V_aat K7q (ninS ne_aat_b5 nin0)
    have f7_V_ast := Arv.keep f5_V_ast K7q (ninS ne_ast_b5 nin0)
    have f7_V_aks := Arv.keep f5_V_aks K7q (ninS ne_aks_b5 nin0)
    have f7_Eb5 := Exa.keep A5 K7q
    have SZ7 := Nat.le_trans SZ5 K7q.1
    refine Gz.tr st7 ?_
    obtain ⟨cq8, kq8, q8a, q8b, q8c⟩ := isOf hZ rfl f7_E_rd
    obtain ⟨_, _, ⟨T8, L8, k8, n8⟩, -, X8, ⟨Lc8, hQ8, l8, y8, z8⟩, st8⟩ := X7.virtualBack hx (y := ym16) (z := ym16) hown (mvT hZ (ww hw 97 rfl)) (mvT hZ (ww hw 98 rfl)) (notFace_of_selects (args := #[]) (mvT hZ (ww hw 100 rfl))) (mvT hZ (ww hw 100 rfl)) (mvT hZ (ww hw 99 rfl)) (by decide) (backOf (W := 0) (rmRs_r l Z av0 hw [] rd b5 ba md ps dp fi tk ts xs xe es as_ ig k_ba (1 : Int32) dq T7.heap n0 SZ7 f7_E_rd f7_F_bytes_rd f7_F_maxDepth_rd f7_F_position_rd f7_F_depth_rd f7_F_first_rd f7_F_token_rd f7_F_tokenStart_rd f7_F_textStart_rd f7_F_textEnd_rd f7_F_escaped_rd f7_F_ascii_rd f7_F_integral_rd g_rd f7_V_ba ne_ba_rd QE7_0 QF7_0 QF7_1 (Ne.symm ne_rd_b5)) hZ (ww hw 101 rfl) (ww hw 15 rfl) (by decide) (by decide)) q8a q8c (g := (mkF m 258 #[s0, .val (.int dq), s2, s3, .val (.ref aat), .val (.ref ast), .val (.ref aks), .val (.int (1 : Int32)), s8, s9, .val (.ref rd), .unset, .unset, .unset, .unset] [(.ref b5), (.ref rd)])) rfl (by rw [hml]; rfl) (Steps.refl _) (argsL := [(.ref b5)]) (rest := []) (lenOf pd_13 rfl) rfl (Nat.le_refl _) (dd at_258) (fun _ _ => ⟨rfl, rfl, (by decide : 6 + 0 ≤ _), (by decide : 42 + 0 ≤ _)⟩)
    dsimp only [Pt.U, Pt.locs, Pt.cells, Pt.slots, Q_rmRs_r] at X8 l8 y8 z8 st8 hQ8
    subst l8 y8 z8
    obtain ⟨rfl, N8q, K8q, QE8_0, QF8_0, QF8_1, QF8_2, QF8_3, QF8_4, QF8_5, QF8_6, QF8_7, QF8_8, QF8_9, QF8_10, QF8_11⟩ := hQ8
    have N8 := Fr.app N7 N8q
    have f8_S_st_OBJECT := own_staK f7_S_st_OBJECT K8q (allS (nst_of f7_E_rd) all0)
    have f8_S_st_ARRAY := own_staK f7_S_st_ARRAY K8q (allS (nst_of f7_E_rd) all0)
    have f8_S_st_NUMBER := own_staK f7_S_st_NUMBER K8q (allS (nst_of f7_E_rd) all0)
    have f8_S_st_TRUE := own_staK f7_S_st_TRUE K8q (allS (nst_of f7_E_rd) all0)
    have f8_S_tb := own_staK f7_S_tb K8q (allS (nst_of f7_E_rd) all0)
    have f8_V_tb := Arv.keep f7_V_tb K8q (ninS ne_tb_rd nin0)
    have f8_E_rd := Exa.keep f7_E_rd K8q
    have f8_V_ba := Arv.keep f7_V_ba K8q (ninS ne_ba_rd nin0)
    have f8_V_aat := Arv.keep f7_V_aat K8q (ninS ne_aat_rd nin0)
    have f8_V_ast := Arv.keep f7_V_ast K8q (ninS ne_ast_rd nin0)
    have f8_V_aks := Arv.keep f7_V_aks K8q (ninS ne_aks_rd nin0)
    have f8_E_b5 := Exa.keep QE7_0 K8q
    have f8_F_position_b5 := Fld.keep QF7_0 K8q (ninS (Ne.symm ne_rd_b5) nin0)
    have f8_F_depth_b5 := Fld.keep QF7_1 K8q (ninS (Ne.symm ne_rd_b5) nin0)
    have SZ8 := Nat.le_trans SZ7 K8q.1
    refine Gz.tr st8 ?_
    exact sgC1 (s0) dq (s2) (s3) (.val (.ref aat)) ast aks (s8) (s9) rd st_OBJECT st_ARRAY st_NUMBER st_TRUE tb k_tb ba md fi ts xs xe es as_ ig k_ba k_ast k_aks n0 X8 hx hZ hw hby hml hown hret hlk rfl N8 SZ8 f8_S_st_OBJECT f8_S_st_ARRAY f8_S_st_NUMBER f8_S_st_TRUE ne_st_OBJECT_st_ARRAY ne_st_OBJECT_st_NUMBER ne_st_OBJECT_st_TRUE ne_st_ARRAY_st_NUMBER ne_st_ARRAY_st_TRUE f8_S_tb f8_V_tb QE8_0 QF8_0 QF8_1 QF8_2 QF8_3 QF8_4 QF8_5 QF8_6 QF8_7 QF8_8 QF8_9 QF8_10 QF8_11 g_rd f8_V_ba ne_ba_rd f8_V_ast f8_V_aks ne_ast_rd ne_aks_rd ne_tb_rd hdm
  · refine Gz.aload 245 X0 hx (dd at_243) rfl rfl rfl ?_
    obtain ⟨T9, h9, X9, e9, E9, A9, D9, -, st9⟩ := newO X0 hx hZ hown (ww hw 81 rfl) (ww hw 82 rfl) (ww hw 83 rfl) e0 (g := (mkF m 245 #[s0, .val (.int dq), s2, s3, .val (.ref aat), .val (.ref ast), .val (.ref aks), .val (.int (2 : Int32)), s8, s9, .val (.ref rd), .unset, .unset, .unset, .unset] [(.ref rd)])) rfl (dd at_245) (by decide) (by decide)
    obtain ⟨b9, g9⟩ : ∃ z, z = hS.size := ⟨_, rfl⟩
    rw [← g9] at A9 D9 st9
    have ne_tb_b9 : tb ≠ b9 := Nat.ne_of_lt (Nat.lt_of_lt_of_le (V_tb).lt (Nat.le_of_eq g9.symm))
    have ne_rd_b9 : rd ≠ b9 := Nat.ne_of_lt (Nat.lt_of_lt_of_le (E_rd).lt (Nat.le_of_eq g9.symm))
    have ne_ba_b9 : ba ≠ b9 := Nat.ne_of_lt (Nat.lt_of_lt_of_le (V_ba).lt (Nat.le_of_eq g9.symm))
    have ne_aat_b9 : aat ≠ b9 := Nat.ne_of_lt (Nat.lt_of_lt_of_le (V_aat).lt (Nat.le_of_eq g9.symm))
    have ne_ast_b9 : ast ≠ b9 := Nat.ne_of_lt (Nat.lt_of_lt_of_le (V_ast).lt (Nat.le_of_eq g9.symm))
    have ne_aks_b9 : aks ≠ b9 := Nat.ne_of_lt (Nat.lt_of_lt_of_le (V_aks).lt (Nat.le_of_eq g9.symm))
    have g_b9 : n0 ≤ b9 := Nat.le_trans Z0 (Nat.le_of_eq g9.symm)
    have SZ9 : n0 ≤ h9.size := Nat.le_trans Z0 E9.1
    have f9_S_st_OBJECT := Sta.ext E9 S_st_OBJECT
    have f9_S_st_ARRAY := Sta.ext E9 S_st_ARRAY
    have f9_S_st_NUMBER := Sta.ext E9 S_st_NUMBER
    have f9_S_st_TRUE := Sta.ext E9 S_st_TRUE
    have f9_S_tb := Sta.ext E9 S_tb
    have f9_V_tb := Arv.ext V_tb E9
    have f9_E_rd := Exa.ext E9 E_rd
    have f9_F_bytes_rd := Fld.ext E9 F_bytes_rd
    have f9_F_maxDepth_rd := Fld.ext E9 F_maxDepth_rd
    have f9_F_position_rd := Fld.ext E9 F_position_rd
    have f9_F_depth_rd := Fld.ext E9 F_depth_rd
    have f9_F_first_rd := Fld.ext E9 F_first_rd
    have f9_F_token_rd := Fld.ext E9 F_token_rd
    have f9_F_tokenStart_rd := Fld.ext E9 F_tokenStart_rd
    have f9_F_textStart_rd := Fld.ext E9 F_textStart_rd
    have f9_F_textEnd_rd := Fld.ext E9 F_textEnd_rd
    have f9_F_escaped_rd := Fld.ext E9 F_escaped_rd
    have f9_F_ascii_rd := Fld.ext E9 F_ascii_rd
    have f9_F_integral_rd := Fld.ext E9 F_integral_rd
    have f9_V_ba := Arv.ext V_ba E9
    have f9_V_aat := Arv.ext V_aat E9
    have f9_V_ast := Arv.ext V_ast E9
    have f9_V_aks := Arv.ext V_aks E9
    have F_position_b9 : Fld Z h9 b9 cs2 "position" "I" (.int (0 : Int32)) := D9 (Or.inr (ww hw 94 rfl)) (ty := .int) (by decide)
    have F_depth_b9 : Fld Z h9 b9 cs2 "depth" "I" (.int (0 : Int32)) := D9 (Or.inr (ww hw 96 rfl)) (ty := .int) (by decide)
    refine Gz.st st9 ?_
    refine Gz.dup 249 X9 hx (dd at_248) rfl rfl ?_
    refine Gz.aload 251 X9 hx (dd at_249) rfl rfl rfl ?_
    refine Gz.iload 253 X9 hx (dd at_251) rfl rfl ?_
    obtain ⟨c10, A10, q10, S10, N10, H10, G10⟩ := id f9_V_aat
    have hin10 : ¬ ((2 : Int32) < 0 ∨ c10.slots.size ≤ ((2 : Int32)).toNatClampNeg) := inb_of S10 ⟨by decide, by decide⟩
    refine Gz.ldI 254 X9 hx hZ (dd at_253) e9 A10 hin10 (Has.at H10 hin10 (rfl : _ = ((.int (2 : Int32)) : Value))) rfl ?_
    refine Gz.iloadN 255 X9 hx (dd at_254) rfl rfl ?_
    obtain ⟨_, _, ⟨T11, L11, k11, n11⟩, -, X11, ⟨Lc11, hQ11, l11, y11, z11⟩, st11⟩ := X9.specialBack hx (y := ym3) rfl hown (mvT hZ (ww hw 84 rfl)) (mvT hZ (ww hw 85 rfl)) (mvT hZ (ww hw 86 rfl)) (by decide) (backOf (W := 2) (rm11 l Z av0 hw [] b9 (2 : Int32) dq  h9 n0 SZ9 A9 F_position_b9 F_depth_b9 g_b9) hZ (ww hw 86 rfl) (ww hw 83 rfl) (by decide) (by decide)) (g := (mkF m 255 #[s0, .val (.int dq), s2, s3, .val (.ref aat), .val (.ref ast), .val (.ref aks), .val (.int (2 : Int32)), s8, s9, .val (.ref rd), .unset, .unset, .unset, .unset] [(.int dq), (.int (2 : Int32)), (.ref b9), (.ref b9), (.ref rd)])) rfl (by rw [hml]; rfl) (Steps.refl _) (a := b9) (argsL := [(.int (2 : Int32)), (.int dq)]) (rest := [(.ref b9), (.ref rd)]) (lenOf pd_3 rfl) rfl (Nat.le_refl _) (dd at_255) (fun _ _ => ⟨rfl, e9, (by decide : 6 + 0 ≤ _), (by decide : 42 + 0 ≤ _)⟩)
    dsimp only [Pt.U, Pt.locs, Pt.cells, Pt.slots, Q_rm11] at X11 l11 y11 z11 st11 hQ11
    subst l11 y11 z11
    obtain ⟨rfl, N11q, K11q, QE11_0, QF11_0, QF11_1⟩ := hQ11
    have N11 := Fr.app N0 N11q
    have f11_S_st_OBJECT := own_staK f9_S_st_OBJECT K11q (allS (nst_of A9) all0)
    have f11_S_st_ARRAY := own_staK f9_S_st_ARRAY K11q (allS (nst_of A9) all0)
    have f11_S_st_NUMBER := own_staK f9_S_st_NUMBER K11q (allS (nst_of A9) all0)
    have f11_S_st_TRUE := own_staK f9_S_st_TRUE K11q (allS (nst_of A9) all0)
    have f11_S_tb := own_staK f9_S_tb K11q (allS (nst_of A9) all0)
    have f11_V_tb := Arv.keep f9_V_tb K11q (ninS ne_tb_b9 nin0)
    have f11_E_rd := Exa.keep f9_E_rd K11q
    have f11_F_bytes_rd := Fld.keep f9_F_bytes_rd K11q (ninS ne_rd_b9 nin0)
    have f11_F_maxDepth_rd := Fld.keep f9_F_maxDepth_rd K11q (ninS ne_rd_b9 nin0)
    have f11_F_position_rd := Fld.keep f9_F_position_rd K11q (ninS ne_rd_b9 nin0)
    have f11_F_depth_rd := Fld.keep f9_F_depth_rd K11q (ninS ne_rd_b9 nin0)
    have f11_F_first_rd := Fld.keep f9_F_first_rd K11q (ninS ne_rd_b9 nin0)
    have f11_F_token_rd := Fld.keep f9_F_token_rd K11q (ninS ne_rd_b9 nin0)
    have f11_F_tokenStart_rd := Fld.keep f9_F_tokenStart_rd K11q (ninS ne_rd_b9 nin0)
    have f11_F_textStart_rd := Fld.keep f9_F_textStart_rd K11q (ninS ne_rd_b9 nin0)
    have f11_F_textEnd_rd := Fld.keep f9_F_textEnd_rd K11q (ninS ne_rd_b9 nin0)
    have f11_F_escaped_rd := Fld.keep f9_F_escaped_rd K11q (ninS ne_rd_b9 nin0)
    have f11_F_ascii_rd := Fld.keep f9_F_ascii_rd K11q (ninS ne_rd_b9 nin0)
    have f11_F_integral_rd := Fld.keep f9_F_integral_rd K11q (ninS ne_rd_b9 nin0)
    have f11_V_ba := Arv.keep f9_V_ba K11q (ninS ne_ba_b9 nin0)
    have f11_V_aat := Arv.keep f9_V_aat K11q (ninS ne_aat_b9 nin0)
    have f11_V_ast := Arv.keep f9_V_ast K11q (ninS ne_ast_b9 nin0)
    have f11_V_aks := Arv.keep f9_V_aks K11q (ninS ne_aks_b9 nin0)
    have f11_Eb9 := Exa.keep A9 K11q
    have SZ11 := Nat.le_trans SZ9 K11q.1
    refine Gz.tr st11 ?_
    obtain ⟨cq12, kq12, q12a, q12b, q12c⟩ := isOf hZ rfl f11_E_rd
    obtain ⟨_, _, ⟨T12, L12, k12, n12⟩, -, X12, ⟨Lc12, hQ12, l12, y12, z12⟩, st12⟩ := X11.virtualBack hx (y := ym16) (z := ym16) hown (mvT hZ (ww hw 97 rfl)) (mvT hZ (ww hw 98 rfl)) (notFace_of_selects (args := #[]) (mvT hZ (ww hw 100 rfl))) (mvT hZ (ww hw 100 rfl)) (mvT hZ (ww hw 99 rfl)) (by decide) (backOf (W := 0) (rmRs_r l Z av0 hw [] rd b9 ba md ps dp fi tk ts xs xe es as_ ig k_ba (2 : Int32) dq T11.heap n0 SZ11 f11_E_rd f11_F_bytes_rd f11_F_maxDepth_rd f11_F_position_rd f11_F_depth_rd f11_F_first_rd f11_F_token_rd f11_F_tokenStart_rd f11_F_textStart_rd f11_F_textEnd_rd f11_F_escaped_rd f11_F_ascii_rd f11_F_integral_rd g_rd f11_V_ba ne_ba_rd QE11_0 QF11_0 QF11_1 (Ne.symm ne_rd_b9)) hZ (ww hw 101 rfl) (ww hw 15 rfl) (by decide) (by decide)) q12a q12c (g := (mkF m 258 #[s0, .val (.int dq), s2, s3, .val (.ref aat), .val (.ref ast), .val (.ref aks), .val (.int (2 : Int32)), s8, s9, .val (.ref rd), .unset, .unset, .unset, .unset] [(.ref b9), (.ref rd)])) rfl (by rw [hml]; rfl) (Steps.refl _) (argsL := [(.ref b9)]) (rest := []) (lenOf pd_13 rfl) rfl (Nat.le_refl _) (dd at_258) (fun _ _ => ⟨rfl, rfl, (by decide : 6 + 0 ≤ _), (by decide : 42 + 0 ≤ _)⟩)
    dsimp only [Pt.U, Pt.locs, Pt.cells, Pt.slots, Q_rmRs_r] at X12 l12 y12 z12 st12 hQ12
    subst l12 y12 z12
    obtain ⟨rfl, N12q, K12q, QE12_0, QF12_0, QF12_1, QF12_2, QF12_3, QF12_4, QF12_5, QF12_6, QF12_7, QF12_8, QF12_9, QF12_10, QF12_11⟩ := hQ12
    have N12 := Fr.app N11 N12q
    have f12_S_st_OBJECT := own_staK f11_S_st_OBJECT K12q (allS (nst_of f11_E_rd) all0)
    have f12_S_st_ARRAY := own_staK f11_S_st_ARRAY K12q (allS (nst_of f11_E_rd) all0)
    have f12_S_st_NUMBER := own_staK f11_S_st_NUMBER K12q (allS (nst_of f11_E_rd) all0)
    have f12_S_st_TRUE := own_staK f11_S_st_TRUE K12q (allS (nst_of f11_E_rd) all0)
    have f12_S_tb := own_staK f11_S_tb K12q (allS (nst_of f11_E_rd) all0)
    have f12_V_tb := Arv.keep f11_V_tb K12q (ninS ne_tb_rd nin0)
    have f12_E_rd := Exa.keep f11_E_rd K12q
    have f12_V_ba := Arv.keep f11_V_ba K12q (ninS ne_ba_rd nin0)
    have f12_V_aat := Arv.keep f11_V_aat K12q (ninS ne_aat_rd nin0)
    have f12_V_ast := Arv.keep f11_V_ast K12q (ninS ne_ast_rd nin0)
    have f12_V_aks := Arv.keep f11_V_aks K12q (ninS ne_aks_rd nin0)
    have f12_E_b9 := Exa.keep QE11_0 K12q
    have f12_F_position_b9 := Fld.keep QF11_0 K12q (ninS (Ne.symm ne_rd_b9) nin0)
    have f12_F_depth_b9 := Fld.keep QF11_1 K12q (ninS (Ne.symm ne_rd_b9) nin0)
    have SZ12 := Nat.le_trans SZ11 K12q.1
    refine Gz.tr st12 ?_
    exact sgC2 (s0) dq (s2) (s3) (.val (.ref aat)) ast aks (s8) (s9) rd st_OBJECT st_ARRAY st_NUMBER st_TRUE tb k_tb ba md fi ts xs xe es as_ ig k_ba k_ast k_aks n0 X12 hx hZ hw hby hml hown hret hlk rfl N12 SZ12 f12_S_st_OBJECT f12_S_st_ARRAY f12_S_st_NUMBER f12_S_st_TRUE ne_st_OBJECT_st_ARRAY ne_st_OBJECT_st_NUMBER ne_st_OBJECT_st_TRUE ne_st_ARRAY_st_NUMBER ne_st_ARRAY_st_TRUE f12_S_tb f12_V_tb QE12_0 QF12_0 QF12_1 QF12_2 QF12_3 QF12_4 QF12_5 QF12_6 QF12_7 QF12_8 QF12_9 QF12_10 QF12_11 g_rd f12_V_ba ne_ba_rd f12_V_ast f12_V_aks ne_ast_rd ne_aks_rd ne_tb_rd hdm
  · refine Gz.aload 245 X0 hx (dd at_243) rfl rfl rfl ?_
    obtain ⟨T13, h13, X13, e13, E13, A13, D13, -, st13⟩ := newO X0 hx hZ hown (ww hw 81 rfl) (ww hw 82 rfl) (ww hw 83 rfl) e0 (g := (mkF m 245 #[s0, .val (.int dq), s2, s3, .val (.ref aat), .val (.ref ast), .val (.ref aks), .val (.int (3 : Int32)), s8, s9, .val (.ref rd), .unset, .unset, .unset, .unset] [(.ref rd)])) rfl (dd at_245) (by decide) (by decide)
    obtain ⟨b13, g13⟩ : ∃ z, z = hS.size := ⟨_, rfl⟩
    rw [← g13] at A13 D13 st13
    have ne_tb_b13 : tb ≠ b13 := Nat.ne_of_lt (Nat.lt_of_lt_of_le (V_tb).lt (Nat.le_of_eq g13.symm))
    have ne_rd_b13 : rd ≠ b13 := Nat.ne_of_lt (Nat.lt_of_lt_of_le (E_rd).lt (Nat.le_of_eq g13.symm))
    have ne_ba_b13 : ba ≠ b13 := Nat.ne_of_lt (Nat.lt_of_lt_of_le (V_ba).lt (Nat.le_of_eq g13.symm))
    have ne_aat_b13 : aat ≠ b13 := Nat.ne_of_lt (Nat.lt_of_lt_of_le (V_aat).lt (Nat.le_of_eq g13.symm))
    have ne_ast_b13 : ast ≠ b13 := Nat.ne_of_lt (Nat.lt_of_lt_of_le (V_ast).lt (Nat.le_of_eq g13.symm))
    have ne_aks_b13 : aks ≠ b13 := Nat.ne_of_lt (Nat.lt_of_lt_of_le (V_aks).lt (Nat.le_of_eq g13.symm))
    have g_b13 : n0 ≤ b13 := Nat.le_trans Z0 (Nat.le_of_eq g13.symm)
    have SZ13 : n0 ≤ h13.size := Nat.le_trans Z0 E13.1
    have f13_S_st_OBJECT := Sta.ext E13 S_st_OBJECT
    have f13_S_st_ARRAY := Sta.ext E13 S_st_ARRAY
    have f13_S_st_NUMBER := Sta.ext E13 S_st_NUMBER
    have f13_S_st_TRUE := Sta.ext E13 S_st_TRUE
    have f13_S_tb := Sta.ext E13 S_tb
    have f13_V_tb := Arv.ext V_tb E13
    have f13_E_rd := Exa.ext E13 E_rd
    have f13_F_bytes_rd := Fld.ext E13 F_bytes_rd
    have f13_F_maxDepth_rd := Fld.ext E13 F_maxDepth_rd
    have f13_F_position_rd := Fld.ext E13 F_position_rd
    have f13_F_depth_rd := Fld.ext E13 F_depth_rd
    have f13_F_first_rd := Fld.ext E13 F_first_rd
    have f13_F_token_rd := Fld.ext E13 F_token_rd
    have f13_F_tokenStart_rd := Fld.ext E13 F_tokenStart_rd
    have f13_F_textStart_rd := Fld.ext E13 F_textStart_rd
    have f13_F_textEnd_rd := Fld.ext E13 F_textEnd_rd
    have f13_F_escaped_rd := Fld.ext E13 F_escaped_rd
    have f13_F_ascii_rd := Fld.ext E13 F_ascii_rd
    have f13_F_integral_rd := Fld.ext E13 F_integral_rd
    have f13_V_ba := Arv.ext V_ba E13
    have f13_V_aat := Arv.ext V_aat E13
    have f13_V_ast := Arv.ext V_ast E13
    have f13_V_aks := Arv.ext V_aks E13
    have F_position_b13 : Fld Z h13 b13 cs2 "position" "I" (.int (0 : Int32)) := D13 (Or.inr (ww hw 94 rfl)) (ty := .int) (by decide)
    have F_depth_b13 : Fld Z h13 b13 cs2 "depth" "I" (.int (0 : Int32)) := D13 (Or.inr (ww hw 96 rfl)) (ty := .int) (by decide)
    refine Gz.st st13 ?_
    refine Gz.dup 249 X13 hx (dd at_248) rfl rfl ?_
    refine Gz.aload 251 X13 hx (dd at_249) rfl rfl rfl ?_
    refine Gz.iload 253 X13 hx (dd at_251) rfl rfl ?_
    obtain ⟨c14, A14, q14, S14, N14, H14, G14⟩ := id f13_V_aat
    have hin14 : ¬ ((3 : Int32) < 0 ∨ c14.slots.size ≤ ((3 : Int32)).toNatClampNeg) := inb_of S14 ⟨by decide, by decide⟩
    refine Gz.ldI 254 X13 hx hZ (dd at_253) e13 A14 hin14 (Has.at H14 hin14 (rfl : _ = ((.int (3 : Int32)) : Value))) rfl ?_
    refine Gz.iloadN 255 X13 hx (dd at_254) rfl rfl ?_
    obtain ⟨_, _, ⟨T15, L15, k15, n15⟩, -, X15, ⟨Lc15, hQ15, l15, y15, z15⟩, st15⟩ := X13.specialBack hx (y := ym3) rfl hown (mvT hZ (ww hw 84 rfl)) (mvT hZ (ww hw 85 rfl)) (mvT hZ (ww hw 86 rfl)) (by decide) (backOf (W := 2) (rm11 l Z av0 hw [] b13 (3 : Int32) dq  h13 n0 SZ13 A13 F_position_b13 F_depth_b13 g_b13) hZ (ww hw 86 rfl) (ww hw 83 rfl) (by decide) (by decide)) (g := (mkF m 255 #[s0, .val (.int dq), s2, s3, .val (.ref aat), .val (.ref ast), .val (.ref aks), .val (.int (3 : Int32)), s8, s9, .val (.ref rd), .unset, .unset, .unset, .unset] [(.int dq), (.int (3 : Int32)), (.ref b13), (.ref b13), (.ref rd)])) rfl (by rw [hml]; rfl) (Steps.refl _) (a := b13) (argsL := [(.int (3 : Int32)), (.int dq)]) (rest := [(.ref b13), (.ref rd)]) (lenOf pd_3 rfl) rfl (Nat.le_refl _) (dd at_255) (fun _ _ => ⟨rfl, e13, (by decide : 6 + 0 ≤ _), (by decide : 42 + 0 ≤ _)⟩)
    dsimp only [Pt.U, Pt.locs, Pt.cells, Pt.slots, Q_rm11] at X15 l15 y15 z15 st15 hQ15
    subst l15 y15 z15
    obtain ⟨rfl, N15q, K15q, QE15_0, QF15_0, QF15_1⟩ := hQ15
    have N15 := Fr.app N0 N15q
    have f15_S_st_OBJECT := own_staK f13_S_st_OBJECT K15q (allS (nst_of A13) all0)
    have f15_S_st_ARRAY := own_staK f13_S_st_ARRAY K15q (allS (nst_of A13) all0)
    have f15_S_st_NUMBER := own_staK f13_S_st_NUMBER K15q (allS (nst_of A13) all0)
    have f15_S_st_TRUE := own_staK f13_S_st_TRUE K15q (allS (nst_of A13) all0)
    have f15_S_tb := own_staK f13_S_tb K15q (allS (nst_of A13) all0)
    have f15_V_tb := Arv.keep f13_V_tb K15q (ninS ne_tb_b13 nin0)
    have f15_E_rd := Exa.keep f13_E_rd K15q
    have f15_F_bytes_rd := Fld.keep f13_F_bytes_rd K15q (ninS ne_rd_b13 nin0)
    have f15_F_maxDepth_rd := Fld.keep f13_F_maxDepth_rd K15q (ninS ne_rd_b13 nin0)
    have f15_F_position_rd := Fld.keep f13_F_position_rd K15q (ninS ne_rd_b13 nin0)
    have f15_F_depth_rd := Fld.keep f13_F_depth_rd K15q (ninS ne_rd_b13 nin0)
    have f15_F_first_rd := Fld.keep f13_F_first_rd K15q (ninS ne_rd_b13 nin0)
    have f15_F_token_rd := Fld.keep f13_F_token_rd K15q (ninS ne_rd_b13 nin0)
    have f15_F_tokenStart_rd := Fld.keep f13_F_tokenStart_rd K15q (ninS ne_rd_b13 nin0)
    have f15_F_textStart_rd := Fld.keep f13_F_textStart_rd K15q (ninS ne_rd_b13 nin0)
    have f15_F_textEnd_rd := Fld.keep f13_F_textEnd_rd K15q (ninS ne_rd_b13 nin0)
    have f15_F_escaped_rd := Fld.keep f13_F_escaped_rd K15q (ninS ne_rd_b13 nin0)
    have f15_F_ascii_rd := Fld.keep f13_F_ascii_rd K15q (ninS ne_rd_b13 nin0)
    have f15_F_integral_rd := Fld.keep f13_F_integral_rd K15q (ninS ne_rd_b13 nin0)
    have f15_V_ba := Arv.keep f13_V_ba K15q (ninS ne_ba_b13 nin0)
    have f15_V_aat := Arv.keep f13_V_aat K15q (ninS ne_aat_b13 nin0)
    have f15_V_ast := Arv.keep f13_V_ast K15q (ninS ne_ast_b13 nin0)
    have f15_V_aks := Arv.keep f13_V_aks K15q (ninS ne_aks_b13 nin0)
    have f15_Eb13 := Exa.keep A13 K15q
    have SZ15 := Nat.le_trans SZ13 K15q.1
    refine Gz.tr st15 ?_
    obtain ⟨cq16, kq16, q16a, q16b, q16c⟩ := isOf hZ rfl f15_E_rd
    obtain ⟨_, _, ⟨T16, L16, k16, n16⟩, -, X16, ⟨Lc16, hQ16, l16, y16, z16⟩, st16⟩ := X15.virtualBack hx (y := ym16) (z := ym16) hown (mvT hZ (ww hw 97 rfl)) (mvT hZ (ww hw 98 rfl)) (notFace_of_selects (args := #[]) (mvT hZ (ww hw 100 rfl))) (mvT hZ (ww hw 100 rfl)) (mvT hZ (ww hw 99 rfl)) (by decide) (backOf (W := 0) (rmRs_r l Z av0 hw [] rd b13 ba md ps dp fi tk ts xs xe es as_ ig k_ba (3 : Int32) dq T15.heap n0 SZ15 f15_E_rd f15_F_bytes_rd f15_F_maxDepth_rd f15_F_position_rd f15_F_depth_rd f15_F_first_rd f15_F_token_rd f15_F_tokenStart_rd f15_F_textStart_rd f15_F_textEnd_rd f15_F_escaped_rd f15_F_ascii_rd f15_F_integral_rd g_rd f15_V_ba ne_ba_rd QE15_0 QF15_0 QF15_1 (Ne.symm ne_rd_b13)) hZ (ww hw 101 rfl) (ww hw 15 rfl) (by decide) (by decide)) q16a q16c (g := (mkF m 258 #[s0, .val (.int dq), s2, s3, .val (.ref aat), .val (.ref ast), .val (.ref aks), .val (.int (3 : Int32)), s8, s9, .val (.ref rd), .unset, .unset, .unset, .unset] [(.ref b13), (.ref rd)])) rfl (by rw [hml]; rfl) (Steps.refl _) (argsL := [(.ref b13)]) (rest := []) (lenOf pd_13 rfl) rfl (Nat.le_refl _) (dd at_258) (fun _ _ => ⟨rfl, rfl, (by decide : 6 + 0 ≤ _), (by decide : 42 + 0 ≤ _)⟩)
    dsimp only [Pt.U, Pt.locs, Pt.cells, Pt.slots, Q_rmRs_r] at X16 l16 y16 z16 st16 hQ16
    subst l16 y16 z16
    obtain ⟨rfl, N16q, K16q, QE16_0, QF16_0, QF16_1, QF16_2, QF16_3, QF16_4, QF16_5, QF16_6, QF16_7, QF16_8, QF16_9, QF16_10, QF16_11⟩ := hQ16
    have N16 := Fr.app N15 N16q
    have f16_S_st_OBJECT := own_staK f15_S_st_OBJECT K16q (allS (nst_of f15_E_rd) all0)
    have f16_S_st_ARRAY := own_staK f15_S_st_ARRAY K16q (allS (nst_of f15_E_rd) all0)
    have f16_S_st_NUMBER := own_staK f15_S_st_NUMBER K16q (allS (nst_of f15_E_rd) all0)
    have f16_S_st_TRUE := own_staK f15_S_st_TRUE K16q (allS (nst_of f15_E_rd) all0)
    have f16_S_tb := own_staK f15_S_tb K16q (allS (nst_of f15_E_rd) all0)
    have f16_V_tb := Arv.keep f15_V_tb K16q (ninS ne_tb_rd nin0)
    have f16_E_rd := Exa.keep f15_E_rd K16q
    have f16_V_ba := Arv.keep f15_V_ba K16q (ninS ne_ba_rd nin0)
    have f16_V_aat := Arv.keep f15_V_aat K16q (ninS ne_aat_rd nin0)
    have f16_V_ast := Arv.keep f15_V_ast K16q (ninS ne_ast_rd nin0)
    have f16_V_aks := Arv.keep f15_V_aks K16q (ninS ne_aks_rd nin0)
    have f16_E_b13 := Exa.keep QE15_0 K16q
    have f16_F_position_b13 := Fld.keep QF15_0 K16q (ninS (Ne.symm ne_rd_b13) nin0)
    have f16_F_depth_b13 := Fld.keep QF15_1 K16q (ninS (Ne.symm ne_rd_b13) nin0)
    have SZ16 := Nat.le_trans SZ15 K16q.1
    refine Gz.tr st16 ?_
    exact sgC3 (s0) dq (s2) (s3) (.val (.ref aat)) ast aks (s8) (s9) rd st_OBJECT st_ARRAY st_NUMBER st_TRUE tb k_tb ba md fi ts xs xe es as_ ig k_ba k_ast k_aks n0 X16 hx hZ hw hby hml hown hret hlk rfl N16 SZ16 f16_S_st_OBJECT f16_S_st_ARRAY f16_S_st_NUMBER f16_S_st_TRUE ne_st_OBJECT_st_ARRAY ne_st_OBJECT_st_NUMBER ne_st_OBJECT_st_TRUE ne_st_ARRAY_st_NUMBER ne_st_ARRAY_st_TRUE f16_S_tb f16_V_tb QE16_0 QF16_0 QF16_1 QF16_2 QF16_3 QF16_4 QF16_5 QF16_6 QF16_7 QF16_8 QF16_9 QF16_10 QF16_11 g_rd f16_V_ba ne_ba_rd f16_V_ast f16_V_aks ne_ast_rd ne_aks_rd ne_tb_rd hdm
  · refine Gz.aload 245 X0 hx (dd at_243) rfl rfl rfl ?_
    obtain ⟨T17, h17, X17, e17, E17, A17, D17, -, st17⟩ := newO X0 hx hZ hown (ww hw 81 rfl) (ww hw 82 rfl) (ww hw 83 rfl) e0 (g := (mkF m 245 #[s0, .val (.int dq), s2, s3, .val (.ref aat), .val (.ref ast), .val (.ref aks), .val (.int (4 : Int32)), s8, s9, .val (.ref rd), .unset, .unset, .unset, .unset] [(.ref rd)])) rfl (dd at_245) (by decide) (by decide)
    obtain ⟨b17, g17⟩ : ∃ z, z = hS.size := ⟨_, rfl⟩
    rw [← g17] at A17 D17 st17
    have ne_tb_b17 : tb ≠ b17 := Nat.ne_of_lt (Nat.lt_of_lt_of_le (V_tb).lt (Nat.le_of_eq g17.symm))
    have ne_rd_b17 : rd ≠ b17 := Nat.ne_of_lt (Nat.lt_of_lt_of_le (E_rd).lt (Nat.le_of_eq g17.symm))
    have ne_ba_b17 : ba ≠ b17 := Nat.ne_of_lt (Nat.lt_of_lt_of_le (V_ba).lt (Nat.le_of_eq g17.symm))
    have ne_aat_b17 : aat ≠ b17 := Nat.ne_of_lt (Nat.lt_of_lt_of_le (V_aat).lt (Nat.le_of_eq g17.symm))
    have ne_ast_b17 : ast ≠ b17 := Nat.ne_of_lt (Nat.lt_of_lt_of_le (V_ast).lt (Nat.le_of_eq g17.symm))
    have ne_aks_b17 : aks ≠ b17 := Nat.ne_of_lt (Nat.lt_of_lt_of_le (V_aks).lt (Nat.le_of_eq g17.symm))
    have g_b17 : n0 ≤ b17 := Nat.le_trans Z0 (Nat.le_of_eq g17.symm)
    have SZ17 : n0 ≤ h17.size := Nat.le_trans Z0 E17.1
    have f17_S_st_OBJECT := Sta.ext E17 S_st_OBJECT
    have f17_S_st_ARRAY := Sta.ext E17 S_st_ARRAY
    have f17_S_st_NUMBER := Sta.ext E17 S_st_NUMBER
    have f17_S_st_TRUE := Sta.ext E17 S_st_TRUE
    have f17_S_tb := Sta.ext E17 S_tb
    have f17_V_tb := Arv.ext V_tb E17
    have f17_E_rd := Exa.ext E17 E_rd
    have f17_F_bytes_rd := Fld.ext E17 F_bytes_rd
    have f17_F_maxDepth_rd := Fld.ext E17 F_maxDepth_rd
    have f17_F_position_rd := Fld.ext E17 F_position_rd
    have f17_F_depth_rd := Fld.ext E17 F_depth_rd
    have f17_F_first_rd := Fld.ext E17 F_first_rd
    have f17_F_token_rd := Fld.ext E17 F_token_rd
    have f17_F_tokenStart_rd := Fld.ext E17 F_tokenStart_rd
    have f17_F_textStart_rd := Fld.ext E17 F_textStart_rd
    have f17_F_textEnd_rd := Fld.ext E17 F_textEnd_rd
    have f17_F_escaped_rd := Fld.ext E17 F_escaped_rd
    have f17_F_ascii_rd := Fld.ext E17 F_ascii_rd
    have f17_F_integral_rd := Fld.ext E17 F_integral_rd
    have f17_V_ba := Arv.ext V_ba E17
    have f17_V_aat := Arv.ext V_aat E17
    have f17_V_ast := Arv.ext V_ast E17
    have f17_V_aks := Arv.ext V_aks E17
    have F_position_b17 : Fld Z h17 b17 cs2 "position" "I" (.int (0 : Int32)) := D17 (Or.inr (ww hw 94 rfl)) (ty := .int) (by decide)
    have F_depth_b17 : Fld Z h17 b17 cs2 "depth" "I" (.int (0 : Int32)) := D17 (Or.inr (ww hw 96 rfl)) (ty := .int) (by decide)
    refine Gz.st st17 ?_
    refine Gz.dup 249 X17 hx (dd at_248) rfl rfl ?_
    refine Gz.aload 251 X17 hx (dd at_249) rfl rfl rfl ?_
    refine Gz.iload 253 X17 hx (dd at_251) rfl rfl ?_
    obtain ⟨c18, A18, q18, S18, N18, H18, G18⟩ := id f17_V_aat
    have hin18 : ¬ ((4 : Int32) < 0 ∨ c18.slots.size ≤ ((4 : Int32)).toNatClampNeg) := inb_of S18 ⟨by decide, by decide⟩
    refine Gz.ldI 254 X17 hx hZ (dd at_253) e17 A18 hin18 (Has.at H18 hin18 (rfl : _ = ((.int (5 : Int32)) : Value))) rfl ?_
    refine Gz.iloadN 255 X17 hx (dd at_254) rfl rfl ?_
    obtain ⟨_, _, ⟨T19, L19, k19, n19⟩, -, X19, ⟨Lc19, hQ19, l19, y19, z19⟩, st19⟩ := X17.specialBack hx (y := ym3) rfl hown (mvT hZ (ww hw 84 rfl)) (mvT hZ (ww hw 85 rfl)) (mvT hZ (ww hw 86 rfl)) (by decide) (backOf (W := 2) (rm11 l Z av0 hw [] b17 (5 : Int32) dq  h17 n0 SZ17 A17 F_position_b17 F_depth_b17 g_b17) hZ (ww hw 86 rfl) (ww hw 83 rfl) (by decide) (by decide)) (g := (mkF m 255 #[s0, .val (.int dq), s2, s3, .val (.ref aat), .val (.ref ast), .val (.ref aks), .val (.int (4 : Int32)), s8, s9, .val (.ref rd), .unset, .unset, .unset, .unset] [(.int dq), (.int (5 : Int32)), (.ref b17), (.ref b17), (.ref rd)])) rfl (by rw [hml]; rfl) (Steps.refl _) (a := b17) (argsL := [(.int (5 : Int32)), (.int dq)]) (rest := [(.ref b17), (.ref rd)]) (lenOf pd_3 rfl) rfl (Nat.le_refl _) (dd at_255) (fun _ _ => ⟨rfl, e17, (by decide : 6 + 0 ≤ _), (by decide : 42 + 0 ≤ _)⟩)
    dsimp only [Pt.U, Pt.locs, Pt.cells, Pt.slots, Q_rm11] at X19 l19 y19 z19 st19 hQ19
    subst l19 y19 z19
    obtain ⟨rfl, N19q, K19q, QE19_0, QF19_0, QF19_1⟩ := hQ19
    have N19 := Fr.app N0 N19q
    have f19_S_st_OBJECT := own_staK f17_S_st_OBJECT K19q (allS (nst_of A17) all0)
    have f19_S_st_ARRAY := own_staK f17_S_st_ARRAY K19q (allS (nst_of A17) all0)
    have f19_S_st_NUMBER := own_staK f17_S_st_NUMBER K19q (allS (nst_of A17) all0)
    have f19_S_st_TRUE := own_staK f17_S_st_TRUE K19q (allS (nst_of A17) all0)
    have f19_S_tb := own_staK f17_S_tb K19q (allS (nst_of A17) all0)
    have f19_V_tb := Arv.keep f17_V_tb K19q (ninS ne_tb_b17 nin0)
    have f19_E_rd := Exa.keep f17_E_rd K19q
    have f19_F_bytes_rd := Fld.keep f17_F_bytes_rd K19q (ninS ne_rd_b17 nin0)
    have f19_F_maxDepth_rd := Fld.keep f17_F_maxDepth_rd K19q (ninS ne_rd_b17 nin0)
    have f19_F_position_rd := Fld.keep f17_F_position_rd K19q (ninS ne_rd_b17 nin0)
    have f19_F_depth_rd := Fld.keep f17_F_depth_rd K19q (ninS ne_rd_b17 nin0)
    have f19_F_first_rd := Fld.keep f17_F_first_rd K19q (ninS ne_rd_b17 nin0)
    have f19_F_token_rd := Fld.keep f17_F_token_rd K19q (ninS ne_rd_b17 nin0)
    have f19_F_tokenStart_rd := Fld.keep f17_F_tokenStart_rd K19q (ninS ne_rd_b17 nin0)
    have f19_F_textStart_rd := Fld.keep f17_F_textStart_rd K19q (ninS ne_rd_b17 nin0)
    have f19_F_textEnd_rd := Fld.keep f17_F_textEnd_rd K19q (ninS ne_rd_b17 nin0)
    have f19_F_escaped_rd := Fld.keep f17_F_escaped_rd K19q (ninS ne_rd_b17 nin0)
    have f19_F_ascii_rd := Fld.keep f17_F_ascii_rd K19q (ninS ne_rd_b17 nin0)
    have f19_F_integral_rd := Fld.keep f17_F_integral_rd K19q (ninS ne_rd_b17 nin0)
    have f19_V_ba := Arv.keep f17_V_ba K19q (ninS ne_ba_b17 nin0)
    have f19_V_aat := Arv.keep f17_V_aat K19q (ninS ne_aat_b17 nin0)
    have f19_V_ast := Arv.keep f17_V_ast K19q (ninS ne_ast_b17 nin0)
    have f19_V_aks := Arv.keep f17_V_aks K19q (ninS ne_aks_b17 nin0)
    have f19_Eb17 := Exa.keep A17 K19q
    have SZ19 := Nat.le_trans SZ17 K19q.1
    refine Gz.tr st19 ?_
    obtain ⟨cq20, kq20, q20a, q20b, q20c⟩ := isOf hZ rfl f19_E_rd
    obtain ⟨_, _, ⟨T20, L20, k20, n20⟩, -, X20, ⟨Lc20, hQ20, l20, y20, z20⟩, st20⟩ := X19.virtualBack hx (y := ym16) (z := ym16) hown (mvT hZ (ww hw 97 rfl)) (mvT hZ (ww hw 98 rfl)) (notFace_of_selects (args := #[]) (mvT hZ (ww hw 100 rfl))) (mvT hZ (ww hw 100 rfl)) (mvT hZ (ww hw 99 rfl)) (by decide) (backOf (W := 0) (rmRs_r l Z av0 hw [] rd b17 ba md ps dp fi tk ts xs xe es as_ ig k_ba (5 : Int32) dq T19.heap n0 SZ19 f19_E_rd f19_F_bytes_rd f19_F_maxDepth_rd f19_F_position_rd f19_F_depth_rd f19_F_first_rd f19_F_token_rd f19_F_tokenStart_rd f19_F_textStart_rd f19_F_textEnd_rd f19_F_escaped_rd f19_F_ascii_rd f19_F_integral_rd g_rd f19_V_ba ne_ba_rd QE19_0 QF19_0 QF19_1 (Ne.symm ne_rd_b17)) hZ (ww hw 101 rfl) (ww hw 15 rfl) (by decide) (by decide)) q20a q20c (g := (mkF m 258 #[s0, .val (.int dq), s2, s3, .val (.ref aat), .val (.ref ast), .val (.ref aks), .val (.int (4 : Int32)), s8, s9, .val (.ref rd), .unset, .unset, .unset, .unset] [(.ref b17), (.ref rd)])) rfl (by rw [hml]; rfl) (Steps.refl _) (argsL := [(.ref b17)]) (rest := []) (lenOf pd_13 rfl) rfl (Nat.le_refl _) (dd at_258) (fun _ _ => ⟨rfl, rfl, (by decide : 6 + 0 ≤ _), (by decide : 42 + 0 ≤ _)⟩)
    dsimp only [Pt.U, Pt.locs, Pt.cells, Pt.slots, Q_rmRs_r] at X20 l20 y20 z20 st20 hQ20
    subst l20 y20 z20
    obtain ⟨rfl, N20q, K20q, QE20_0, QF20_0, QF20_1, QF20_2, QF20_3, QF20_4, QF20_5, QF20_6, QF20_7, QF20_8, QF20_9, QF20_10, QF20_11⟩ := hQ20
    have N20 := Fr.app N19 N20q
    have f20_S_st_OBJECT := own_staK f19_S_st_OBJECT K20q (allS (nst_of f19_E_rd) all0)
    have f20_S_st_ARRAY := own_staK f19_S_st_ARRAY K20q (allS (nst_of f19_E_rd) all0)
    have f20_S_st_NUMBER := own_staK f19_S_st_NUMBER K20q (allS (nst_of f19_E_rd) all0)
    have f20_S_st_TRUE := own_staK f19_S_st_TRUE K20q (allS (nst_of f19_E_rd) all0)
    have f20_S_tb := own_staK f19_S_tb K20q (allS (nst_of f19_E_rd) all0)
    have f20_V_tb := Arv.keep f19_V_tb K20q (ninS ne_tb_rd nin0)
    have f20_E_rd := Exa.keep f19_E_rd K20q
    have f20_V_ba := Arv.keep f19_V_ba K20q (ninS ne_ba_rd nin0)
    have f20_V_aat := Arv.keep f19_V_aat K20q (ninS ne_aat_rd nin0)
    have f20_V_ast := Arv.keep f19_V_ast K20q (ninS ne_ast_rd nin0)
    have f20_V_aks := Arv.keep f19_V_aks K20q (ninS ne_aks_rd nin0)
    have f20_E_b17 := Exa.keep QE19_0 K20q
    have f20_F_position_b17 := Fld.keep QF19_0 K20q (ninS (Ne.symm ne_rd_b17) nin0)
    have f20_F_depth_b17 := Fld.keep QF19_1 K20q (ninS (Ne.symm ne_rd_b17) nin0)
    have SZ20 := Nat.le_trans SZ19 K20q.1
    refine Gz.tr st20 ?_
    exact sgC4 (s0) dq (s2) (s3) (.val (.ref aat)) ast aks (s8) (s9) rd st_OBJECT st_ARRAY st_NUMBER st_TRUE tb k_tb ba md fi ts xs xe es as_ ig k_ba k_ast k_aks n0 X20 hx hZ hw hby hml hown hret hlk rfl N20 SZ20 f20_S_st_OBJECT f20_S_st_ARRAY f20_S_st_NUMBER f20_S_st_TRUE ne_st_OBJECT_st_ARRAY ne_st_OBJECT_st_NUMBER ne_st_OBJECT_st_TRUE ne_st_ARRAY_st_NUMBER ne_st_ARRAY_st_TRUE f20_S_tb f20_V_tb QE20_0 QF20_0 QF20_1 QF20_2 QF20_3 QF20_4 QF20_5 QF20_6 QF20_7 QF20_8 QF20_9 QF20_10 QF20_11 g_rd f20_V_ba ne_ba_rd f20_V_ast f20_V_aks ne_ast_rd ne_aks_rd ne_tb_rd hdm
  · refine Gz.aload 245 X0 hx (dd at_243) rfl rfl rfl ?_
    obtain ⟨T21, h21, X21, e21, E21, A21, D21, -, st21⟩ := newO X0 hx hZ hown (ww hw 81 rfl) (ww hw 82 rfl) (ww hw 83 rfl) e0 (g := (mkF m 245 #[s0, .val (.int dq), s2, s3, .val (.ref aat), .val (.ref ast), .val (.ref aks), .val (.int (5 : Int32)), s8, s9, .val (.ref rd), .unset, .unset, .unset, .unset] [(.ref rd)])) rfl (dd at_245) (by decide) (by decide)
    obtain ⟨b21, g21⟩ : ∃ z, z = hS.size := ⟨_, rfl⟩
    rw [← g21] at A21 D21 st21
    have ne_tb_b21 : tb ≠ b21 := Nat.ne_of_lt (Nat.lt_of_lt_of_le (V_tb).lt (Nat.le_of_eq g21.symm))
    have ne_rd_b21 : rd ≠ b21 := Nat.ne_of_lt (Nat.lt_of_lt_of_le (E_rd).lt (Nat.le_of_eq g21.symm))
    have ne_ba_b21 : ba ≠ b21 := Nat.ne_of_lt (Nat.lt_of_lt_of_le (V_ba).lt (Nat.le_of_eq g21.symm))
    have ne_aat_b21 : aat ≠ b21 := Nat.ne_of_lt (Nat.lt_of_lt_of_le (V_aat).lt (Nat.le_of_eq g21.symm))
    have ne_ast_b21 : ast ≠ b21 := Nat.ne_of_lt (Nat.lt_of_lt_of_le (V_ast).lt (Nat.le_of_eq g21.symm))
    have ne_aks_b21 : aks ≠ b21 := Nat.ne_of_lt (Nat.lt_of_lt_of_le (V_aks).lt (Nat.le_of_eq g21.symm))
    have g_b21 : n0 ≤ b21 := Nat.le_trans Z0 (Nat.le_of_eq g21.symm)
    have SZ21 : n0 ≤ h21.size := Nat.le_trans Z0 E21.1
    have f21_S_st_OBJECT := Sta.ext E21 S_st_OBJECT
    have f21_S_st_ARRAY := Sta.ext E21 S_st_ARRAY
    have f21_S_st_NUMBER := Sta.ext E21 S_st_NUMBER
    have f21_S_st_TRUE := Sta.ext E21 S_st_TRUE
    have f21_S_tb := Sta.ext E21 S_tb
    have f21_V_tb := Arv.ext V_tb E21
    have f21_E_rd := Exa.ext E21 E_rd
    have f21_F_bytes_rd := Fld.ext E21 F_bytes_rd
    have f21_F_maxDepth_rd := Fld.ext E21 F_maxDepth_rd
    have f21_F_position_rd := Fld.ext E21 F_position_rd
    have f21_F_depth_rd := Fld.ext E21 F_depth_rd
    have f21_F_first_rd := Fld.ext E21 F_first_rd
    have f21_F_token_rd := Fld.ext E21 F_token_rd
    have f21_F_tokenStart_rd := Fld.ext E21 F_tokenStart_rd
    have f21_F_textStart_rd := Fld.ext E21 F_textStart_rd
    have f21_F_textEnd_rd := Fld.ext E21 F_textEnd_rd
    have f21_F_escaped_rd := Fld.ext E21 F_escaped_rd
    have f21_F_ascii_rd := Fld.ext E21 F_ascii_rd
    have f21_F_integral_rd := Fld.ext E21 F_integral_rd
    have f21_V_ba := Arv.ext V_ba E21
    have f21_V_aat := Arv.ext V_aat E21
    have f21_V_ast := Arv.ext V_ast E21
    have f21_V_aks := Arv.ext V_aks E21
    have F_position_b21 : Fld Z h21 b21 cs2 "position" "I" (.int (0 : Int32)) := D21 (Or.inr (ww hw 94 rfl)) (ty := .int) (by decide)
    have F_depth_b21 : Fld Z h21 b21 cs2 "depth" "I" (.int (0 : Int32)) := D21 (Or.inr (ww hw 96 rfl)) (ty := .int) (by decide)
    refine Gz.st st21 ?_
    refine Gz.dup 249 X21 hx (dd at_248) rfl rfl ?_
    refine Gz.aload 251 X21 hx (dd at_249) rfl rfl rfl ?_
    refine Gz.iload 253 X21 hx (dd at_251) rfl rfl ?_
    obtain ⟨c22, A22, q22, S22, N22, H22, G22⟩ := id f21_V_aat
    have hin22 : ¬ ((5 : Int32) < 0 ∨ c22.slots.size ≤ ((5 : Int32)).toNatClampNeg) := inb_of S22 ⟨by decide, by decide⟩
    refine Gz.ldI 254 X21 hx hZ (dd at_253) e21 A22 hin22 (Has.at H22 hin22 (rfl : _ = ((.int (6 : Int32)) : Value))) rfl ?_
    refine Gz.iloadN 255 X21 hx (dd at_254) rfl rfl ?_
    obtain ⟨_, _, ⟨T23, L23, k23, n23⟩, -, X23, ⟨Lc23, hQ23, l23, y23, z23⟩, st23⟩ := X21.specialBack hx (y := ym3) rfl hown (mvT hZ (ww hw 84 rfl)) (mvT hZ (ww hw 85 rfl)) (mvT hZ (ww hw 86 rfl)) (by decide) (backOf (W := 2) (rm11 l Z av0 hw [] b21 (6 : Int32) dq  h21 n0 SZ21 A21 F_position_b21 F_depth_b21 g_b21) hZ (ww hw 86 rfl) (ww hw 83 rfl) (by decide) (by decide)) (g := (mkF m 255 #[s0, .val (.int dq), s2, s3, .val (.ref aat), .val (.ref ast), .val (.ref aks), .val (.int (5 : Int32)), s8, s9, .val (.ref rd), .unset, .unset, .unset, .unset] [(.int dq), (.int (6 : Int32)), (.ref b21), (.ref b21), (.ref rd)])) rfl (by rw [hml]; rfl) (Steps.refl _) (a := b21) (argsL := [(.int (6 : Int32)), (.int dq)]) (rest := [(.ref b21), (.ref rd)]) (lenOf pd_3 rfl) rfl (Nat.le_refl _) (dd at_255) (fun _ _ => ⟨rfl, e21, (by decide : 6 + 0 ≤ _), (by decide : 42 + 0 ≤ _)⟩)
    dsimp only [Pt.U, Pt.locs, Pt.cells, Pt.slots, Q_rm11] at X23 l23 y23 z23 st23 hQ23
    subst l23 y23 z23
    obtain ⟨rfl, N23q, K23q, QE23_0, QF23_0, QF23_1⟩ := hQ23
    have N23 := Fr.app N0 N23q
    have f23_S_st_OBJECT := own_staK f21_S_st_OBJECT K23q (allS (nst_of A21) all0)
    have f23_S_st_ARRAY := own_staK f21_S_st_ARRAY K23q (allS (nst_of A21) all0)
    have f23_S_st_NUMBER := own_staK f21_S_st_NUMBER K23q (allS (nst_of A21) all0)
    have f23_S_st_TRUE := own_staK f21_S_st_TRUE K23q (allS (nst_of A21) all0)
    have f23_S_tb := own_staK f21_S_tb K23q (allS (nst_of A21) all0)
    have f23_V_tb := Arv.keep f21_V_tb K23q (ninS ne_tb_b21 nin0)
    have f23_E_rd := Exa.keep f21_E_rd K23q
    have f23_F_bytes_rd := Fld.keep f21_F_bytes_rd K23q (ninS ne_rd_b21 nin0)
    have f23_F_maxDepth_rd := Fld.keep f21_F_maxDepth_rd K23q (ninS ne_rd_b21 nin0)
    have f23_F_position_rd := Fld.keep f21_F_position_rd K23q (ninS ne_rd_b21 nin0)
    have f23_F_depth_rd := Fld.keep f21_F_depth_rd K23q (ninS ne_rd_b21 nin0)
    have f23_F_first_rd := Fld.keep f21_F_first_rd K23q (ninS ne_rd_b21 nin0)
    have f23_F_token_rd := Fld.keep f21_F_token_rd K23q (ninS ne_rd_b21 nin0)
    have f23_F_tokenStart_rd := Fld.keep f21_F_tokenStart_rd K23q (ninS ne_rd_b21 nin0)
    have f23_F_textStart_rd := Fld.keep f21_F_textStart_rd K23q (ninS ne_rd_b21 nin0)
    have f23_F_textEnd_rd := Fld.keep f21_F_textEnd_rd K23q (ninS ne_rd_b21 nin0)
    have f23_F_escaped_rd := Fld.keep f21_F_escaped_rd K23q (ninS ne_rd_b21 nin0)
    have f23_F_ascii_rd := Fld.keep f21_F_ascii_rd K23q (ninS ne_rd_b21 nin0)
    have f23_F_integral_rd := Fld.keep f21_F_integral_rd K23q (ninS ne_rd_b21 nin0)
    have f23_V_ba := Arv.keep f21_V_ba K23q (ninS ne_ba_b21 nin0)
    have f23_V_aat := Arv.keep f21_V_aat K23q (ninS ne_aat_b21 nin0)
    have f23_V_ast := Arv.keep f21_V_ast K23q (ninS ne_ast_b21 nin0)
    have f23_V_aks := Arv.keep f21_V_aks K23q (ninS ne_aks_b21 nin0)
    have f23_Eb21 := Exa.keep A21 K23q
    have SZ23 := Nat.le_trans SZ21 K23q.1
    refine Gz.tr st23 ?_
    obtain ⟨cq24, kq24, q24a, q24b, q24c⟩ := isOf hZ rfl f23_E_rd
    obtain ⟨_, _, ⟨T24, L24, k24, n24⟩, -, X24, ⟨Lc24, hQ24, l24, y24, z24⟩, st24⟩ := X23.virtualBack hx (y := ym16) (z := ym16) hown (mvT hZ (ww hw 97 rfl)) (mvT hZ (ww hw 98 rfl)) (notFace_of_selects (args := #[]) (mvT hZ (ww hw 100 rfl))) (mvT hZ (ww hw 100 rfl)) (mvT hZ (ww hw 99 rfl)) (by decide) (backOf (W := 0) (rmRs_r l Z av0 hw [] rd b21 ba md ps dp fi tk ts xs xe es as_ ig k_ba (6 : Int32) dq T23.heap n0 SZ23 f23_E_rd f23_F_bytes_rd f23_F_maxDepth_rd f23_F_position_rd f23_F_depth_rd f23_F_first_rd f23_F_token_rd f23_F_tokenStart_rd f23_F_textStart_rd f23_F_textEnd_rd f23_F_escaped_rd f23_F_ascii_rd f23_F_integral_rd g_rd f23_V_ba ne_ba_rd QE23_0 QF23_0 QF23_1 (Ne.symm ne_rd_b21)) hZ (ww hw 101 rfl) (ww hw 15 rfl) (by decide) (by decide)) q24a q24c (g := (mkF m 258 #[s0, .val (.int dq), s2, s3, .val (.ref aat), .val (.ref ast), .val (.ref aks), .val (.int (5 : Int32)), s8, s9, .val (.ref rd), .unset, .unset, .unset, .unset] [(.ref b21), (.ref rd)])) rfl (by rw [hml]; rfl) (Steps.refl _) (argsL := [(.ref b21)]) (rest := []) (lenOf pd_13 rfl) rfl (Nat.le_refl _) (dd at_258) (fun _ _ => ⟨rfl, rfl, (by decide : 6 + 0 ≤ _), (by decide : 42 + 0 ≤ _)⟩)
    dsimp only [Pt.U, Pt.locs, Pt.cells, Pt.slots, Q_rmRs_r] at X24 l24 y24 z24 st24 hQ24
    subst l24 y24 z24
    obtain ⟨rfl, N24q, K24q, QE24_0, QF24_0, QF24_1, QF24_2, QF24_3, QF24_4, QF24_5, QF24_6, QF24_7, QF24_8, QF24_9, QF24_10, QF24_11⟩ := hQ24
    have N24 := Fr.app N23 N24q
    have f24_S_st_OBJECT := own_staK f23_S_st_OBJECT K24q (allS (nst_of f23_E_rd) all0)
    have f24_S_st_ARRAY := own_staK f23_S_st_ARRAY K24q (allS (nst_of f23_E_rd) all0)
    have f24_S_st_NUMBER := own_staK f23_S_st_NUMBER K24q (allS (nst_of f23_E_rd) all0)
    have f24_S_st_TRUE := own_staK f23_S_st_TRUE K24q (allS (nst_of f23_E_rd) all0)
    have f24_S_tb := own_staK f23_S_tb K24q (allS (nst_of f23_E_rd) all0)
    have f24_V_tb := Arv.keep f23_V_tb K24q (ninS ne_tb_rd nin0)
    have f24_E_rd := Exa.keep f23_E_rd K24q
    have f24_V_ba := Arv.keep f23_V_ba K24q (ninS ne_ba_rd nin0)
    have f24_V_aat := Arv.keep f23_V_aat K24q (ninS ne_aat_rd nin0)
    have f24_V_ast := Arv.keep f23_V_ast K24q (ninS ne_ast_rd nin0)
    have f24_V_aks := Arv.keep f23_V_aks K24q (ninS ne_aks_rd nin0)
    have f24_E_b21 := Exa.keep QE23_0 K24q
    have f24_F_position_b21 := Fld.keep QF23_0 K24q (ninS (Ne.symm ne_rd_b21) nin0)
    have f24_F_depth_b21 := Fld.keep QF23_1 K24q (ninS (Ne.symm ne_rd_b21) nin0)
    have SZ24 := Nat.le_trans SZ23 K24q.1
    refine Gz.tr st24 ?_
    exact sgC5 (s0) dq (s2) (s3) (.val (.ref aat)) ast aks (s8) (s9) rd st_OBJECT st_ARRAY st_NUMBER st_TRUE tb k_tb ba md fi ts xs xe es as_ ig k_ba k_ast k_aks n0 X24 hx hZ hw hby hml hown hret hlk rfl N24 SZ24 f24_S_st_OBJECT f24_S_st_ARRAY f24_S_st_NUMBER f24_S_st_TRUE ne_st_OBJECT_st_ARRAY ne_st_OBJECT_st_NUMBER ne_st_OBJECT_st_TRUE ne_st_ARRAY_st_NUMBER ne_st_ARRAY_st_TRUE f24_S_tb f24_V_tb QE24_0 QF24_0 QF24_1 QF24_2 QF24_3 QF24_4 QF24_5 QF24_6 QF24_7 QF24_8 QF24_9 QF24_10 QF24_11 g_rd f24_V_ba ne_ba_rd f24_V_ast f24_V_aks ne_ast_rd ne_aks_rd ne_tb_rd hdm
theorem pd_14 : parseMethodDescriptor "([BII)V" = some ⟨[(.array .byte), .int, .int], none⟩ := by decide +kernel
abbrev ym17 : MethodName := ⟨cs0, "<init>", "([BII)V"⟩
theorem ef_rmSw_1_r (m : MethodId) (a0 : Addr) : entryFrame m #[(.ref a0)] 2 = mkF m 0 #[.val (.ref a0), .unset] [] := by first | (simp [entryFrame, mkF, argsToLocals, Value.category]; done) | rfl
def Q_rmSw_1_r (Z : State) (a0 : Addr) (ba : Addr) (md : Int32) (dp : Int32) (fi : Int32) (tk : Addr) (ts : Int32) (xs : Int32) (xe : Int32) (es : Int32) (as_ : Int32) (ig : Int32) (k_ba : ClassId) (h0 : Heap) (n0 : Nat) (v : Option Value) (h : Heap) (L : List Loc) : Prop := v = some (.int (52 : Int32)) ∧ Fr n0 L ∧ Keep h0 h [a0] ∧ Exa Z h a0 cs0 ∧ Fld Z h a0 cs0 "bytes" "[B" (.ref ba) ∧ Fld Z h a0 cs0 "maxDepth" "I" (.int md) ∧ Fld Z h a0 cs0 "position" "I" (.int (2 : Int32)) ∧ Fld Z h a0 cs0 "depth" "I" (.int dp) ∧ Fld Z h a0 cs0 "first" "Z" (.int fi) ∧ Fld Z h a0 cs0 "token" "Lcom/example/bad_status/badstatus/model/JsonReader$Token;" (.ref tk) ∧ Fld Z h a0 cs0 "tokenStart" "I" (.int ts) ∧ Fld Z h a0 cs0 "textStart" "I" (.int xs) ∧ Fld Z h a0 cs0 "textEnd" "I" (.int xe) ∧ Fld Z h a0 cs0 "escaped" "Z" (.int es) ∧ Fld Z h a0 cs0 "ascii" "Z" (.int as_) ∧ Fld Z h a0 cs0 "integral" "Z" (.int ig)
set_option maxRecDepth 65536 in
set_option maxHeartbeats 40000000 in
theorem rmSw_1_r (l : Launch) (Z : State) (av0 : Array Value) (hw : ∀ d ∈ tables_1, d.before av0 Z = true) (ws : List Jvm.Cond) (a0 : Addr) (ba : Addr) (md : Int32) (dp : Int32) (fi : Int32) (tk : Addr) (ts : Int32) (xs : Int32) (xe : Int32) (es : Int32) (as_ : Int32) (ig : Int32) (k_ba : ClassId) (h0 : Heap) (n0 : Nat) (Z0 : n0 ≤ h0.size) (E_a0 : Exa Z h0 a0 cs0) (F_bytes_a0 : Fld Z h0 a0 cs0 "bytes" "[B" (.ref ba)) (F_maxDepth_a0 : Fld Z h0 a0 cs0 "maxDepth" "I" (.int md)) (F_position_a0 : Fld Z h0 a0 cs0 "position" "I" (.int (1 : Int32))) (F_depth_a0 : Fld Z h0 a0 cs0 "depth" "I" (.int dp)) (F_first_a0 : Fld Z h0 a0 cs0 "first" "Z" (.int fi)) (F_token_a0 : Fld Z h0 a0 cs0 "token" "Lcom/example/bad_status/badstatus/model/JsonReader$Token;" (.ref tk)) (F_tokenStart_a0 : Fld Z h0 a0 cs0 "tokenStart" "I" (.int ts)) (F_textStart_a0 : Fld Z h0 a0 cs0 "textStart" "I" (.int xs)) (F_textEnd_a0 : Fld Z h0 a0 cs0 "textEnd" "I" (.int xe)) (F_escaped_a0 : Fld Z h0 a0 cs0 "escaped" "Z" (.int es)) (F_ascii_a0 : Fld Z h0 a0 cs0 "ascii" "Z" (.int as_)) (F_integral_a0 : Fld Z h0 a0 cs0 "integral" "Z" (.int ig)) (g_a0 : n0 ≤ a0) (V_ba : Arv Z h0 ba k_ba .byte (10 : Int32) [(.int (91 : Int32)), (.int (32 : Int32)), (.int (52 : Int32)), (.int (50 : Int32)), (.int (44 : Int32)), (.int (91 : Int32)), (.int (116 : Int32)), (.int (114 : Int32)), (.int (117 : Int32)), (.int (101 : Int32))] (.int (0 : Int32))) (ne_ba_a0 : ba ≠ a0) :
    MetFree l (⟨cs0, "skipWhitespace", "()I"⟩ : MethodName) (head1 (Jvm.Cond.code (⟨cs0, "skipWhitespace", "()I"⟩ : MethodName) prog_11_method_14_code 2 (some .int) :: ws) ({ frames := 1, cells := 0, slots := 0, locals := 12 } : Room)) (fun a U => a = #[(.ref a0)] ∧ Z.Warmed39 U.vm ∧ U.heap = h0) (fun _ _ _ _ _ => True) (fun _ U o U' => ∃ v L, o = .returned v ∧ Q_rmSw_1_r Z a0 ba md dp fi tk ts xs xe es as_ ig k_ba h0 n0 v U'.heap L ∧ FrameEnd U o U' L ({ frames := 1, cells := 0, slots := 0, locals := 12 } : Room).cells ({ frames := 1, cells := 0, slots := 0, locals := 12 } : Room).slots) := by
  refine MetFree.of_bodySF (plainFor_of_name pn_0) hisR ?_
  intro p e s m args below meth c s₁ Bd hml0 hP hK
  obtain ⟨rfl, hZ, hh⟩ := hP
  have hx := Bd.exec
  have hby := Bd.bytes
  have hml : c.maxLocals = 2 := hml0
  have dd : ∀ {pc : Nat} {r : Except DecodeError (Instr × Nat)}, decode prog_11_method_14_code pc = r → decode c.code pc = r := fun q => hb hby q
  have hown : s.vm.findClass cs0 = some m.cls := findClass_of_methodNamed Bd.named
  have hnm := (name_of_methodNamed Bd.named Bd.method).1
  have X0 : Stand p l e ({ frames := 1, cells := 0, slots := 0, locals := 12 } : Room) s m #[(.ref a0)] below meth c s₁ [] 0 0 := Stand.of_body Bd
  have e0 : s₁.heap = h0 := by rw [← hh, Bd.state]; rfl
  have N0 := Fr.nil n0
  have hret := Bd.returns
  have hlk := Bd.notSynchronized
  show Gz p e below s ({ frames := 1, cells := 0, slots := 0, locals := 12 } : Room).cells ({ frames := 1, cells := 0, slots := 0, locals := 12 } : Room).slots (Q_rmSw_1_r Z a0 ba md dp fi tk ts xs xe es as_ ig k_ba h0 n0) (s₁.setTop (entryFrame m #[(.ref a0)] 2))
  refine Gz.enter (ef_rmSw_1_r m a0) ?_
  refine Gz.aloadN 1 X0 hx (dd d4_0) rfl rfl rfl ?_
  refine Gz.getF 4 X0 hx hZ hown (dd d4_1) (host := "") (Or.inl (ww hw 24 rfl)) Via.refl e0 F_position_a0 rfl fun T1 X1 e1 => ?_
  refine Gz.istoreN 5 #[.val (.ref a0), .val (.int (1 : Int32))] X1 hx (dd d4_4) rfl rfl ?_
  refine Gz.iloadN 6 X1 hx (dd d4_5) rfl rfl ?_
  refine Gz.aloadN 7 X1 hx (dd d4_6) rfl rfl rfl ?_
  refine Gz.getF 10 X1 hx hZ hown (dd d4_7) (host := "") (Or.inl (ww hw 22 rfl)) Via.refl e1 F_bytes_a0 rfl fun T2 X2 e2 => ?_
  obtain ⟨c3, A3, -, S3, N3, -, -⟩ := id V_ba
  refine Gz.alen 11 X2 hx hZ (dd d4_10) e2 A3 S3 N3 rfl ?_
  refine Gz.icmpNo 14 X2 hx (dd d4_11) (tlt (by decide : (1 : Int32) < (10 : Int32))).2.1 rfl ?_
  refine Gz.aloadN 15 X2 hx (dd d4_14) rfl rfl rfl ?_
  refine Gz.getF 18 X2 hx hZ hown (dd d4_15) (host := "") (Or.inl (ww hw 22 rfl)) Via.refl e2 F_bytes_a0 rfl fun T4 X4 e4 => ?_
  refine Gz.iloadN 19 X4 hx (dd d4_18) rfl rfl ?_
  obtain ⟨c5, A5, q5, S5, N5, H5, G5⟩ := id V_ba
  have hin5 : ¬ ((1 : Int32) < 0 ∨ c5.slots.size ≤ ((1 : Int32)).toNatClampNeg) := inb_of S5 ⟨by decide, by decide⟩
  refine Gz.ldB 20 X4 hx hZ (dd d4_19) e4 A5 hin5 (Has.at H5 hin5 (rfl : _ = ((.int (32 : Int32)) : Value))) rfl ?_
  obtain ⟨_, _, ⟨T6, L6, k6, n6⟩, -, X6, ⟨Lc6, hQ6, l6, y6, z6⟩, st6⟩ := Jvm.LawKit.callS X4 hx (y := ym6) hown (mvT hZ (ww hw 37 rfl)) (mvT hZ (ww hw 38 rfl)) (mvT hZ (ww hw 15 rfl)) (mvT hZ (ww hw 39 rfl)) (by decide) (backOf (W := 0) (rm5 l Z av0 hw [] (32 : Int32)  h0 n0 Z0 ) hZ (ww hw 39 rfl) (ww hw 15 rfl) (by decide) (by decide)) (g := (mkF m 20 #[.val (.ref a0), .val (.int (1 : Int32))] [(.int (32 : Int32))])) rfl (by rw [hml]; rfl) (argsL := [(.int (32 : Int32))]) (rest := []) (lenOf pd_6 rfl) rfl (Nat.le_refl _) (dd d4_20) (fun _ _ => ⟨rfl, e4, (by decide : 0 + 0 ≤ _), (by decide : 0 + 0 ≤ _)⟩)
  dsimp only [Pt.U, Pt.locs, Pt.cells, Pt.slots, Q_rm5] at X6 l6 y6 z6 st6 hQ6
  subst l6 y6 z6
  rw [show (fWs (32 : Int32)) = (1 : Int32) from (by unfold fWs; rw [if_neg (by decide : ¬ ((32 : Int32) < (32 : Int32))), if_pos (by decide : (32 : Int32) = (32 : Int32))]; try decide)] at hQ6
  obtain ⟨rfl, N6q, e6⟩ := hQ6
  have N6 := Fr.app N0 N6q
  refine Gz.st st6 ?_
  refine Gz.ifNo 26 X6 hx (dd d4_23) ((if0 _ _).trans (feq (by decide : ¬ ((1 : Int32) = (0 : Int32)))).1) rfl ?_
  refine Gz.iinc 29 #[.val (.ref a0), .val (.int (2 : Int32))] X6 hx (dd d4_26) rfl rfl rfl ?_
  refine Gz.goto 5 X6 hx (dd d4_29) (by decide) (by decide) ?_
  refine Gz.iloadN 6 X6 hx (dd d4_5) rfl rfl ?_
  refine Gz.aloadN 7 X6 hx (dd d4_6) rfl rfl rfl ?_
  refine Gz.getF 10 X6 hx hZ hown (dd d4_7) (host := "") (Or.inl (ww hw 22 rfl)) Via.refl e6 F_bytes_a0 rfl fun T7 X7 e7 => ?_
  obtain ⟨c8, A8, -, S8, N8, -, -⟩ := id V_ba
  refine Gz.alen 11 X7 hx hZ (dd d4_10) e7 A8 S8 N8 rfl ?_
  refine Gz.icmpNo 14 X7 hx (dd d4_11) (tlt (by decide : (2 : Int32) < (10 : Int32))).2.1 rfl ?_
  refine Gz.aloadN 15 X7 hx (dd d4_14) rfl rfl rfl ?_
  refine Gz.getF 18 X7 hx hZ hown (dd d4_15) (host := "") (Or.inl (ww hw 22 rfl)) Via.refl e7 F_bytes_a0 rfl fun T9 X9 e9 => ?_
  refine Gz.iloadN 19 X9 hx (dd d4_18) rfl rfl ?_
  obtain ⟨c10, A10, q10, S10, N10, H10, G10⟩ := id V_ba
  have hin10 : ¬ ((2 : Int32) < 0 ∨ c10.slots.size ≤ ((2 : Int32)).toNatClampNeg) := inb_of S10 ⟨by decide, by decide⟩
  refine Gz.ldB 20 X9 hx hZ (dd d4_19) e9 A10 hin10 (Has.at H10 hin10 (rfl : _ = ((.int (52 : Int32)) : Value))) rfl ?_
  obtain ⟨_, _, ⟨T11, L11, k11, n11⟩, -, X11, ⟨Lc11, hQ11, l11, y11, z11⟩, st11⟩ := Jvm.LawKit.callS X9 hx (y := ym6) hown (mvT hZ (ww hw 37 rfl)) (mvT hZ (ww hw 38 rfl)) (mvT hZ (ww hw 15 rfl)) (mvT hZ (ww hw 39 rfl)) (by decide) (backOf (W := 0) (rm5 l Z av0 hw [] (52 : Int32)  h0 n0 Z0 ) hZ (ww hw 39 rfl) (ww hw 15 rfl) (by decide) (by decide)) (g := (mkF m 20 #[.val (.ref a0), .val (.int (2 : Int32))] [(.int (52 : Int32))])) rfl (by rw [hml]; rfl) (argsL := [(.int (52 : Int32))]) (rest := []) (lenOf pd_6 rfl) rfl (Nat.le_refl _) (dd d4_20) (fun _ _ => ⟨rfl, e9, (by decide : 0 + 0 ≤ _), (by decide : 0 + 0 ≤ _)⟩)
  dsimp only [Pt.U, Pt.locs, Pt.cells, Pt.slots, Q_rm5] at X11 l11 y11 z11 st11 hQ11
  subst l11 y11 z11
  rw [show (fWs (52 : Int32)) = (0 : Int32) from (by unfold fWs; rw [if_pos (by decide : (32 : Int32) < (52 : Int32))]; try decide)] at hQ11
  obtain ⟨rfl, N11q, e11⟩ := hQ11
  have N11 := Fr.app N6 N11q
  refine Gz.st st11 ?_
  refine Gz.ifYes 32 X11 hx (dd d4_23) ((if0 _ _).trans (teq (by decide : (0 : Int32) = (0 : Int32))).1) (by decide) (by decide) ?_
  refine Gz.aloadN 33 X11 hx (dd d4_32) rfl rfl rfl ?_
  refine Gz.iloadN 34 X11 hx (dd d4_33) rfl rfl ?_
  refine Gz.putF 37 X11 hx hZ hown .int (dd d4_34) (host := "") (Or.inl (ww hw 24 rfl)) Via.refl e11 F_position_a0 E_a0 (Or.inl (ww hw 25 rfl)) (ww hw 14 rfl) (by decide) rfl rfl rfl fun T12 h12 X12 e12 W12 => ?_
  have f12_E_a0 := Exa.wr W12 E_a0
  have f12_F_bytes_a0 := Fld.other W12 F_bytes_a0 (Or.inr (Ne.symm <| sn1 hw))
  have f12_F_maxDepth_a0 := Fld.other W12 F_maxDepth_a0 (Or.inr (sn11 hw))
  have f12_F_depth_a0 := Fld.other W12 F_depth_a0 (Or.inr (sn12 hw))
  have f12_F_first_a0 := Fld.other W12 F_first_a0 (Or.inr (sn13 hw))
  have f12_F_token_a0 := Fld.other W12 F_token_a0 (Or.inr (sn14 hw))
  have f12_F_tokenStart_a0 := Fld.other W12 F_tokenStart_a0 (Or.inr (sn15 hw))
  have f12_F_textStart_a0 := Fld.other W12 F_textStart_a0 (Or.inr (sn16 hw))
  have f12_F_textEnd_a0 := Fld.other W12 F_textEnd_a0 (Or.inr (sn17 hw))
  have f12_F_escaped_a0 := Fld.other W12 F_escaped_a0 (Or.inr (sn18 hw))
  have f12_F_ascii_a0 := Fld.other W12 F_ascii_a0 (Or.inr (sn19 hw))
  have f12_F_integral_a0 := Fld.other W12 F_integral_a0 (Or.inr (sn20 hw))
  have f12_V_ba := Arv.other V_ba W12 ne_ba_a0
  have f12_F_position_a0 := Fld.same W12 F_position_a0
  have N12 := Fr.snoc X12 N11 g_a0
  have SZ12 : n0 ≤ h12.size := Nat.le_trans Z0 (Keep.of_wr W12).1
  have K12 := Keep.wr (Keep.refl h0 [a0]) W12 (Or.inl (List.mem_of_getElem? (i := 0) rfl))
  refine Gz.iloadN 38 X12 hx (dd d4_37) rfl rfl ?_
  refine Gz.aloadN 39 X12 hx (dd d4_38) rfl rfl rfl ?_
  refine Gz.getF 42 X12 hx hZ hown (dd d4_39) (host := "") (Or.inl (ww hw 22 rfl)) Via.refl e12 f12_F_bytes_a0 rfl fun T13 X13 e13 => ?_
  obtain ⟨c14, A14, -, S14, N14, -, -⟩ := id f12_V_ba
  refine Gz.alen 43 X13 hx hZ (dd d4_42) e13 A14 S14 N14 rfl ?_
  refine Gz.icmpNo 46 X13 hx (dd d4_43) (tlt (by decide : (2 : Int32) < (10 : Int32))).2.1 rfl ?_
  refine Gz.aloadN 47 X13 hx (dd d4_46) rfl rfl rfl ?_
  refine Gz.getF 50 X13 hx hZ hown (dd d4_47) (host := "") (Or.inl (ww hw 22 rfl)) Via.refl e13 f12_F_bytes_a0 rfl fun T15 X15 e15 => ?_
  refine Gz.iloadN 51 X15 hx (dd d4_50) rfl rfl ?_
  obtain ⟨c16, A16, q16, S16, N16, H16, G16⟩ := id f12_V_ba
  have hin16 : ¬ ((2 : Int32) < 0 ∨ c16.slots.size ≤ ((2 : Int32)).toNatClampNeg) := inb_of S16 ⟨by decide, by decide⟩
  refine Gz.ldB 52 X15 hx hZ (dd d4_51) e15 A16 hin16 (Has.at H16 hin16 (rfl : _ = ((.int (52 : Int32)) : Value))) rfl ?_
  refine Gz.sipush 55 (255 : Int32) X15 hx (dd d4_52) rfl rfl ?_
  refine Gz.iandV 56 (52 : Int32) X15 hx (dd d4_55) rfl rfl ?_
  refine Gz.goto 60 X15 hx (dd d4_56) (by decide) (by decide) ?_
  refine Gz.fin X15 (v := some (.int (52 : Int32))) (fun h => by rw [hret] at h; cases h) hlk (by decide) (by decide) (fun fs hr => retI X15 hx hret (dd d4_60) hr) ?_
  rw [e15]
  exact ⟨rfl, N12, K12, f12_E_a0, f12_F_bytes_a0, f12_F_maxDepth_a0, f12_F_position_a0, f12_F_depth_a0, f12_F_first_a0, f12_F_token_a0, f12_F_tokenStart_a0, f12_F_textStart_a0, f12_F_textEnd_a0, f12_F_escaped_a0, f12_F_ascii_a0, f12_F_integral_a0⟩
theorem ef_rmSw_2_r (m : MethodId) (a0 : Addr) : entryFrame m #[(.ref a0)] 2 = mkF m 0 #[.val (.ref a0), .unset] [] := by first | (simp [entryFrame, mkF, argsToLocals, Value.category]; done) | rfl
def Q_rmSw_2_r (Z : State) (a0 : Addr) (ba : Addr) (md : Int32) (dp : Int32) (fi : Int32) (tk : Addr) (ts : Int32) (xs : Int32) (xe : Int32) (es : Int32) (as_ : Int32) (ig : Int32) (k_ba : ClassId) (h0 : Heap) (n0 : Nat) (v : Option Value) (h : Heap) (L : List Loc) : Prop := v = some (.int (52 : Int32)) ∧ Fr n0 L ∧ Keep h0 h [a0] ∧ Exa Z h a0 cs0 ∧ Fld Z h a0 cs0 "bytes" "[B" (.ref ba) ∧ Fld Z h a0 cs0 "maxDepth" "I" (.int md) ∧ Fld Z h a0 cs0 "position" "I" (.int (2 : Int32)) ∧ Fld Z h a0 cs0 "depth" "I" (.int dp) ∧ Fld Z h a0 cs0 "first" "Z" (.int fi) ∧ Fld Z h a0 cs0 "token" "Lcom/example/bad_status/badstatus/model/JsonReader$Token;" (.ref tk) ∧ Fld Z h a0 cs0 "tokenStart" "I" (.int ts) ∧ Fld Z h a0 cs0 "textStart" "I" (.int xs) ∧ Fld Z h a0 cs0 "textEnd" "I" (.int xe) ∧ Fld Z h a0 cs0 "escaped" "Z" (.int es) ∧ Fld Z h a0 cs0 "ascii" "Z" (.int as_) ∧ Fld Z h a0 cs0 "integral" "Z" (.int ig)
set_option maxRecDepth 65536 in
set_option maxHeartbeats 40000000 in
theorem rmSw_2_r (l : Launch) (Z : State) (av0 : Array Value) (hw : ∀ d ∈ tables_1, d.before av0 Z = true) (ws : List Jvm.Cond) (a0 : Addr) (ba : Addr) (md : Int32) (dp : Int32) (fi : Int32) (tk : Addr) (ts : Int32) (xs : Int32) (xe : Int32) (es : Int32) (as_ : Int32) (ig : Int32) (k_ba : ClassId) (h0 : Heap) (n0 : Nat) (Z0 : n0 ≤ h0.size) (E_a0 : Exa Z h0 a0 cs0) (F_bytes_a0 : Fld Z h0 a0 cs0 "bytes" "[B" (.ref ba)) (F_maxDepth_a0 : Fld Z h0 a0 cs0 "maxDepth" "I" (.int md)) (F_position_a0 : Fld Z h0 a0 cs0 "position" "I" (.int (2 : Int32))) (F_depth_a0 : Fld Z h0 a0 cs0 "depth" "I" (.int dp)) (F_first_a0 : Fld Z h0 a0 cs0 "first" "Z" (.int fi)) (F_token_a0 : Fld Z h0 a0 cs0 "token" "Lcom/example/bad_status/badstatus/model/JsonReader$Token;" (.ref tk)) (F_tokenStart_a0 : Fld Z h0 a0 cs0 "tokenStart" "I" (.int ts)) (F_textStart_a0 : Fld Z h0 a0 cs0 "textStart" "I" (.int xs)) (F_textEnd_a0 : Fld Z h0 a0 cs0 "textEnd" "I" (.int xe)) (F_escaped_a0 : Fld Z h0 a0 cs0 "escaped" "Z" (.int es)) (F_ascii_a0 : Fld Z h0 a0 cs0 "ascii" "Z" (.int as_)) (F_integral_a0 : Fld Z h0 a0 cs0 "integral" "Z" (.int ig)) (g_a0 : n0 ≤ a0) (V_ba : Arv Z h0 ba k_ba .byte (10 : Int32) [(.int (91 : Int32)), (.int (32 : Int32)), (.int (52 : Int32)), (.int (50 : Int32)), (.int (44 : Int32)), (.int (91 : Int32)), (.int (116 : Int32)), (.int (114 : Int32)), (.int (117 : Int32)), (.int (101 : Int32))] (.int (0 : Int32))) (ne_ba_a0 : ba ≠ a0) :
    MetFree l (⟨cs0, "skipWhitespace", "()I"⟩ : MethodName) (head1 (Jvm.Cond.code (⟨cs0, "skipWhitespace", "()I"⟩ : MethodName) prog_11_method_14_code 2 (some .int) :: ws) ({ frames := 1, cells := 0, slots := 0, locals := 12 } : Room)) (fun a U => a = #[(.ref a0)] ∧ Z.Warmed39 U.vm ∧ U.heap = h0) (fun _ _ _ _ _ => True) (fun _ U o U' => ∃ v L, o = .returned v ∧ Q_rmSw_2_r Z a0 ba md dp fi tk ts xs xe es as_ ig k_ba h0 n0 v U'.heap L ∧ FrameEnd U o U' L ({ frames := 1, cells := 0, slots := 0, locals := 12 } : Room).cells ({ frames := 1, cells := 0, slots := 0, locals := 12 } : Room).slots) := by
  refine MetFree.of_bodySF (plainFor_of_name pn_0) hisR ?_
  intro p e s m args below meth c s₁ Bd hml0 hP hK
  obtain ⟨rfl, hZ, hh⟩ := hP
  have hx := Bd.exec
  have hby := Bd.bytes
  have hml : c.maxLocals = 2 := hml0
  have dd : ∀ {pc : Nat} {r : Except DecodeError (Instr × Nat)}, decode prog_11_method_14_code pc = r → decode c.code pc = r := fun q => hb hby q
  have hown : s.vm.findClass cs0 = some m.cls := findClass_of_methodNamed Bd.named
  have hnm := (name_of_methodNamed Bd.named Bd.method).1
  have X0 : Stand p l e ({ frames := 1, cells := 0, slots := 0, locals := 12 } : Room) s m #[(.ref a0)] below meth c s₁ [] 0 0 := Stand.of_body Bd
  have e0 : s₁.heap = h0 := by rw [← hh, Bd.state]; rfl
  have N0 := Fr.nil n0
  have hret := Bd.returns
  have hlk := Bd.notSynchronized
  show Gz p e below s ({ frames := 1, cells := 0, slots := 0, locals := 12 } : Room).cells ({ frames := 1, cells := 0, slots := 0, locals := 12 } : Room).slots (Q_rmSw_2_r Z a0 ba md dp fi tk ts xs xe es as_ ig k_ba h0 n0) (s₁.setTop (entryFrame m #[(.ref a0)] 2))
  refine Gz.enter (ef_rmSw_2_r m a0) ?_
  refine Gz.aloadN 1 X0 hx (dd d4_0) rfl rfl rfl ?_
  refine Gz.getF 4 X0 hx hZ hown (dd d4_1) (host := "") (Or.inl (ww hw 24 rfl)) Via.refl e0 F_position_a0 rfl fun T1 X1 e1 => ?_
  refine Gz.istoreN 5 #[.val (.ref a0), .val (.int (2 : Int32))] X1 hx (dd d4_4) rfl rfl ?_
  refine Gz.iloadN 6 X1 hx (dd d4_5) rfl rfl ?_
  refine Gz.aloadN 7 X1 hx (dd d4_6) rfl rfl rfl ?_
  refine Gz.getF 10 X1 hx hZ hown (dd d4_7) (host := "") (Or.inl (ww hw 22 rfl)) Via.refl e1 F_bytes_a0 rfl fun T2 X2 e2 => ?_
  obtain ⟨c3, A3, -, S3, N3, -, -⟩ := id V_ba
  refine Gz.alen 11 X2 hx hZ (dd d4_10) e2 A3 S3 N3 rfl ?_
  refine Gz.icmpNo 14 X2 hx (dd d4_11) (tlt (by decide : (2 : Int32) < (10 : Int32))).2.1 rfl ?_
  refine Gz.aloadN 15 X2 hx (dd d4_14) rfl rfl rfl ?_
  refine Gz.getF 18 X2 hx hZ hown (dd d4_15) (host := "") (Or.inl (ww hw 22 rfl)) Via.refl e2 F_bytes_a0 rfl fun T4 X4 e4 => ?_
  refine Gz.iloadN 19 X4 hx (dd d4_18) rfl rfl ?_
  obtain ⟨c5, A5, q5, S5, N5, H5, G5⟩ := id V_ba
  have hin5 : ¬ ((2 : Int32) < 0 ∨ c5.slots.size ≤ ((2 : Int32)).toNatClampNeg) := inb_of S5 ⟨by decide, by decide⟩
  refine Gz.ldB 20 X4 hx hZ (dd d4_19) e4 A5 hin5 (Has.at H5 hin5 (rfl : _ = ((.int (52 : Int32)) : Value))) rfl ?_
  obtain ⟨_, _, ⟨T6, L6, k6, n6⟩, -, X6, ⟨Lc6, hQ6, l6, y6, z6⟩, st6⟩ := Jvm.LawKit.callS X4 hx (y := ym6) hown (mvT hZ (ww hw 37 rfl)) (mvT hZ (ww hw 38 rfl)) (mvT hZ (ww hw 15 rfl)) (mvT hZ (ww hw 39 rfl)) (by decide) (backOf (W := 0) (rm5 l Z av0 hw [] (52 : Int32)  h0 n0 Z0 ) hZ (ww hw 39 rfl) (ww hw 15 rfl) (by decide) (by decide)) (g := (mkF m 20 #[.val (.ref a0), .val (.int (2 : Int32))] [(.int (52 : Int32))])) rfl (by rw [hml]; rfl) (argsL := [(.int (52 : Int32))]) (rest := []) (lenOf pd_6 rfl) rfl (Nat.le_refl _) (dd d4_20) (fun _ _ => ⟨rfl, e4, (by decide : 0 + 0 ≤ _), (by decide : 0 + 0 ≤ _)⟩)
  dsimp only [Pt.U, Pt.locs, Pt.cells, Pt.slots, Q_rm5] at X6 l6 y6 z6 st6 hQ6
  subst l6 y6 z6
  rw [show (fWs (52 : Int32)) = (0 : Int32) from (by unfold fWs; rw [if_pos (by decide : (32 : Int32) < (52 : Int32))]; try decide)] at hQ6
  obtain ⟨rfl, N6q, e6⟩ := hQ6
  have N6 := Fr.app N0 N6q
  refine Gz.st st6 ?_
  refine Gz.ifYes 32 X6 hx (dd d4_23) ((if0 _ _).trans (teq (by decide : (0 : Int32) = (0 : Int32))).1) (by decide) (by decide) ?_
  refine Gz.aloadN 33 X6 hx (dd d4_32) rfl rfl rfl ?_
  refine Gz.iloadN 34 X6 hx (dd d4_33) rfl rfl ?_
  refine Gz.putF 37 X6 hx hZ hown .int (dd d4_34) (host := "") (Or.inl (ww hw 24 rfl)) Via.refl e6 F_position_a0 E_a0 (Or.inl (ww hw 25 rfl)) (ww hw 14 rfl) (by decide) rfl rfl rfl fun T7 h7 X7 e7 W7 => ?_
  have f7_E_a0 := Exa.wr W7 E_a0
  have f7_F_bytes_a0 := Fld.other W7 F_bytes_a0 (Or.inr (Ne.symm <| sn1 hw))
  have f7_F_maxDepth_a0 := Fld.other W7 F_maxDepth_a0 (Or.inr (sn11 hw))
  have f7_F_depth_a0 := Fld.other W7 F_depth_a0 (Or.inr (sn12 hw))
  have f7_F_first_a0 := Fld.other W7 F_first_a0 (Or.inr (sn13 hw))
  have f7_F_token_a0 := Fld.other W7 F_token_a0 (Or.inr (sn14 hw))
  have f7_F_tokenStart_a0 := Fld.other W7 F_tokenStart_a0 (Or.inr (sn15 hw))
  have f7_F_textStart_a0 := Fld.other W7 F_textStart_a0 (Or.inr (sn16 hw))
  have f7_F_textEnd_a0 := Fld.other W7 F_textEnd_a0 (Or.inr (sn17 hw))
  have f7_F_escaped_a0 := Fld.other W7 F_escaped_a0 (Or.inr (sn18 hw))
  have f7_F_ascii_a0 := Fld.other W7 F_ascii_a0 (Or.inr (sn19 hw))
  have f7_F_integral_a0 := Fld.other W7 F_integral_a0 (Or.inr (sn20 hw))
  have f7_V_ba := Arv.other V_ba W7 ne_ba_a0
  have f7_F_position_a0 := Fld.same W7 F_position_a0
  have N7 := Fr.snoc X7 N6 g_a0
  have SZ7 : n0 ≤ h7.size := Nat.le_trans Z0 (Keep.of_wr W7).1
  have K7 := Keep.wr (Keep.refl h0 [a0]) W7 (Or.inl (List.mem_of_getElem? (i := 0) rfl))
  refine Gz.iloadN 38 X7 hx (dd d4_37) rfl rfl ?_
  refine Gz.aloadN 39 X7 hx (dd d4_38) rfl rfl rfl ?_
  refine Gz.getF 42 X7 hx hZ hown (dd d4_39) (host := "") (Or.inl (ww hw 22 rfl)) Via.refl e7 f7_F_bytes_a0 rfl fun T8 X8 e8 => ?_
  obtain ⟨c9, A9, -, S9, N9, -, -⟩ := id f7_V_ba
  refine Gz.alen 43 X8 hx hZ (dd d4_42) e8 A9 S9 N9 rfl ?_
  refine Gz.icmpNo 46 X8 hx (dd d4_43) (tlt (by decide : (2 : Int32) < (10 : Int32))).2.1 rfl ?_
  refine Gz.aloadN 47 X8 hx (dd d4_46) rfl rfl rfl ?_
  refine Gz.getF 50 X8 hx hZ hown (dd d4_47) (host := "") (Or.inl (ww hw 22 rfl)) Via.refl e8 f7_F_bytes_a0 rfl fun T10 X10 e10 => ?_
  refine Gz.iloadN 51 X10 hx (dd d4_50) rfl rfl ?_
  obtain ⟨c11, A11, q11, S11, N11, H11, G11⟩ := id f7_V_ba
  have hin11 : ¬ ((2 : Int32) < 0 ∨ c11.slots.size ≤ ((2 : Int32)).toNatClampNeg) := inb_of S11 ⟨by decide, by decide⟩
  refine Gz.ldB 52 X10 hx hZ (dd d4_51) e10 A11 hin11 (Has.at H11 hin11 (rfl : _ = ((.int (52 : Int32)) : Value))) rfl ?_
  refine Gz.sipush 55 (255 : Int32) X10 hx (dd d4_52) rfl rfl ?_
  refine Gz.iandV 56 (52 : Int32) X10 hx (dd d4_55) rfl rfl ?_
  refine Gz.goto 60 X10 hx (dd d4_56) (by decide) (by decide) ?_
  refine Gz.fin X10 (v := some (.int (52 : Int32))) (fun h => by rw [hret] at h; cases h) hlk (by decide) (by decide) (fun fs hr => retI X10 hx hret (dd d4_60) hr) ?_
  rw [e10]
  exact ⟨rfl, N7, K7, f7_E_a0, f7_F_bytes_a0, f7_F_maxDepth_a0, f7_F_position_a0, f7_F_depth_a0, f7_F_first_a0, f7_F_token_a0, f7_F_tokenStart_a0, f7_F_textStart_a0, f7_F_textEnd_a0, f7_F_escaped_a0, f7_F_ascii_a0, f7_F_integral_a0⟩
theorem ef_rmRn_2_r (m : MethodId) (a0 : Addr) : entryFrame m #[(.ref a0)] 5 = mkF m 0 #[.val (.ref a0), .unset, .unset, .unset, .unset] [] := by first | (simp [entryFrame, mkF, argsToLocals, Value.category]; done) | rfl
def Q_rmRn_2_r (Z : State) (a0 : Addr) (ba : Addr) (md : Int32) (dp : Int32) (fi : Int32) (tk : Addr) (ts : Int32) (xs : Int32) (xe : Int32) (es : Int32) (as_ : Int32) (ig : Int32) (k_ba : ClassId) (h0 : Heap) (n0 : Nat) (v : Option Value) (h : Heap) (L : List Loc) : Prop := v = none ∧ Fr n0 L ∧ Keep h0 h [a0] ∧ Exa Z h a0 cs0 ∧ Fld Z h a0 cs0 "bytes" "[B" (.ref ba) ∧ Fld Z h a0 cs0 "maxDepth" "I" (.int md) ∧ Fld Z h a0 cs0 "position" "I" (.int (4 : Int32)) ∧ Fld Z h a0 cs0 "depth" "I" (.int dp) ∧ Fld Z h a0 cs0 "first" "Z" (.int (0 : Int32)) ∧ Fld Z h a0 cs0 "token" "Lcom/example/bad_status/badstatus/model/JsonReader$Token;" (.ref tk) ∧ Fld Z h a0 cs0 "tokenStart" "I" (.int ts) ∧ Fld Z h a0 cs0 "textStart" "I" (.int (2 : Int32)) ∧ Fld Z h a0 cs0 "textEnd" "I" (.int (4 : Int32)) ∧ Fld Z h a0 cs0 "escaped" "Z" (.int (0 : Int32)) ∧ Fld Z h a0 cs0 "ascii" "Z" (.int (1 : Int32)) ∧ Fld Z h a0 cs0 "integral" "Z" (.int (1 : Int32))
set_option maxRecDepth 65536 in
set_option maxHeartbeats 40000000 in
theorem rmRn_2_r (l : Launch) (Z : State) (av0 : Array Value) (hw : ∀ d ∈ tables_1, d.before av0 Z = true) (ws : List Jvm.Cond) (a0 : Addr) (ba : Addr) (md : Int32) (dp : Int32) (fi : Int32) (tk : Addr) (ts : Int32) (xs : Int32) (xe : Int32) (es : Int32) (as_ : Int32) (ig : Int32) (k_ba : ClassId) (h0 : Heap) (n0 : Nat) (Z0 : n0 ≤ h0.size) (E_a0 : Exa Z h0 a0 cs0) (F_bytes_a0 : Fld Z h0 a0 cs0 "bytes" "[B" (.ref ba)) (F_maxDepth_a0 : Fld Z h0 a0 cs0 "maxDepth" "I" (.int md)) (F_position_a0 : Fld Z h0 a0 cs0 "position" "I" (.int (2 : Int32))) (F_depth_a0 : Fld Z h0 a0 cs0 "depth" "I" (.int dp)) (F_first_a0 : Fld Z h0 a0 cs0 "first" "Z" (.int fi)) (F_token_a0 : Fld Z h0 a0 cs0 "token" "Lcom/example/bad_status/badstatus/model/JsonReader$Token;" (.ref tk)) (F_tokenStart_a0 : Fld Z h0 a0 cs0 "tokenStart" "I" (.int ts)) (F_textStart_a0 : Fld Z h0 a0 cs0 "textStart" "I" (.int xs)) (F_textEnd_a0 : Fld Z h0 a0 cs0 "textEnd" "I" (.int xe)) (F_escaped_a0 : Fld Z h0 a0 cs0 "escaped" "Z" (.int es)) (F_ascii_a0 : Fld Z h0 a0 cs0 "ascii" "Z" (.int as_)) (F_integral_a0 : Fld Z h0 a0 cs0 "integral" "Z" (.int ig)) (g_a0 : n0 ≤ a0) (V_ba : Arv Z h0 ba k_ba .byte (10 : Int32) [(.int (91 : Int32)), (.int (32 : Int32)), (.int (52 : Int32)), (.int (50 : Int32)), (.int (44 : Int32)), (.int (91 : Int32)), (.int (116 : Int32)), (.int (114 : Int32)), (.int (117 : Int32)), (.int (101 : Int32))] (.int (0 : Int32))) (ne_ba_a0 : ba ≠ a0) :
    MetFree l (⟨cs0, "readNumber", "()V"⟩ : MethodName) (head1 (Jvm.Cond.code (⟨cs0, "readNumber", "()V"⟩ : MethodName) prog_11_method_26_code 5 none :: ws) ({ frames := 2, cells := 0, slots := 0, locals := 26 } : Room)) (fun a U => a = #[(.ref a0)] ∧ Z.Warmed39 U.vm ∧ U.heap = h0) (fun _ _ _ _ _ => True) (fun _ U o U' => ∃ v L, o = .returned v ∧ Q_rmRn_2_r Z a0 ba md dp fi tk ts xs xe es as_ ig k_ba h0 n0 v U'.heap L ∧ FrameEnd U o U' L ({ frames := 2, cells := 0, slots := 0, locals := 26 } : Room).cells ({ frames := 2, cells := 0, slots := 0, locals := 26 } : Room).slots) := by
  refine MetFree.of_bodySF (plainFor_of_name pn_0) hisR ?_
  intro p e s m args below meth c s₁ Bd hml0 hP hK
  obtain ⟨rfl, hZ, hh⟩ := hP
  have hx := Bd.exec
  have hby := Bd.bytes
  have hml : c.maxLocals = 5 := hml0
  have dd : ∀ {pc : Nat} {r : Except DecodeError (Instr × Nat)}, decode prog_11_method_26_code pc = r → decode c.code pc = r := fun q => hb hby q
  have hown : s.vm.findClass cs0 = some m.cls := findClass_of_methodNamed Bd.named
  have hnm := (name_of_methodNamed Bd.named Bd.method).1
  have X0 : Stand p l e ({ frames := 2, cells := 0, slots := 0, locals := 26 } : Room) s m #[(.ref a0)] below meth c s₁ [] 0 0 := Stand.of_body Bd
  have e0 : s₁.heap = h0 := by rw [← hh, Bd.state]; rfl
  have N0 := Fr.nil n0
  have hret := Bd.returns
  have hlk := Bd.notSynchronized
  show Gz p e below s ({ frames := 2, cells := 0, slots := 0, locals := 26 } : Room).cells ({ frames := 2, cells := 0, slots := 0, locals := 26 } : Room).slots (Q_rmRn_2_r Z a0 ba md dp fi tk ts xs xe es as_ ig k_ba h0 n0) (s₁.setTop (entryFrame m #[(.ref a0)] 5))
  refine Gz.enter (ef_rmRn_2_r m a0) ?_
  refine Gz.aloadN 1 X0 hx (dd d9_0) rfl rfl rfl ?_
  refine Gz.getF 4 X0 hx hZ hown (dd d9_1) (host := "") (Or.inl (ww hw 24 rfl)) Via.refl e0 F_position_a0 rfl fun T1 X1 e1 => ?_
  refine Gz.istoreN 5 #[.val (.ref a0), .val (.int (2 : Int32)), .unset, .unset, .unset] X1 hx (dd d9_4) rfl rfl ?_
  refine Gz.aloadN 6 X1 hx (dd d9_5) rfl rfl rfl ?_
  refine Gz.getF 9 X1 hx hZ hown (dd d9_6) (host := "") (Or.inl (ww hw 22 rfl)) Via.refl e1 F_bytes_a0 rfl fun T2 X2 e2 => ?_
  refine Gz.iloadN 10 X2 hx (dd d9_9) rfl rfl ?_
  obtain ⟨c3, A3, q3, S3, N3, H3, G3⟩ := id V_ba
  have hin3 : ¬ ((2 : Int32) < 0 ∨ c3.slots.size ≤ ((2 : Int32)).toNatClampNeg) := inb_of S3 ⟨by decide, by decide⟩
  refine Gz.ldB 11 X2 hx hZ (dd d9_10) e2 A3 hin3 (Has.at H3 hin3 (rfl : _ = ((.int (52 : Int32)) : Value))) rfl ?_
  refine Gz.bipush 13 (45 : Int32) X2 hx (dd d9_11) rfl rfl ?_
  refine Gz.icmpYes 22 X2 hx (dd d9_13) (feq (by decide : ¬ ((52 : Int32) = (45 : Int32)))).2 (by decide) (by decide) ?_
  refine Gz.iloadN 23 X2 hx (dd d9_22) rfl rfl ?_
  refine Gz.istoreN 24 #[.val (.ref a0), .val (.int (2 : Int32)), .val (.int (2 : Int32)), .unset, .unset] X2 hx (dd d9_23) rfl rfl ?_
  refine Gz.aloadN 25 X2 hx (dd d9_24) rfl rfl rfl ?_
  refine Gz.iloadN 26 X2 hx (dd d9_25) rfl rfl ?_
  obtain ⟨cq4, q4, q4'⟩ := E_a0.cell
  obtain ⟨_, _, ⟨T4, L4, k4, n4⟩, -, X4, ⟨Lc4, hQ4, l4, y4, z4⟩, st4⟩ := X2.privateBack hx (y := ym12) hown (mvT hZ (ww hw 66 rfl)) (mvT hZ (ww hw 67 rfl)) (own_selp (y := ym12) (y' := ym8) rfl (mvT hZ (ww hw 31 rfl)) (mvT hZ (ww hw 30 rfl)) (mvT hZ (ww hw 67 rfl)) (Cond.privateMethod_at (mvP hZ (ww hw 68 rfl) (args := #[]))) (by decide)) (Cond.privateMethod_at (mvP hZ (ww hw 68 rfl) (args := #[]))) (mvT hZ (ww hw 69 rfl)) (by decide) (backOf (W := 0) (rmDe_2 l Z av0 hw [] a0 ba k_ba h0 n0 Z0 F_bytes_a0 V_ba) hZ (ww hw 69 rfl) (ww hw 15 rfl) (by decide) (by decide)) (g := (mkF m 26 #[.val (.ref a0), .val (.int (2 : Int32)), .val (.int (2 : Int32)), .unset, .unset] [(.int (2 : Int32)), (.ref a0)])) rfl (by rw [hml]; rfl) (Steps.refl _) (a := a0) (by rw [e2]; exact q4) q4' (argsL := [(.int (2 : Int32))]) (rest := []) (lenOf pd_10 rfl) rfl (Nat.le_refl _) (dd d9_26) (fun _ _ => ⟨rfl, e2, (by decide : 0 + 0 ≤ _), (by decide : 0 + 0 ≤ _)⟩)
  dsimp only [Pt.U, Pt.locs, Pt.cells, Pt.slots, Q_rmDe_2] at X4 l4 y4 z4 st4 hQ4
  subst l4 y4 z4
  rw [show (fDe_2 a0 ba) = (4 : Int32) from (by unfold fDe_2; rfl)] at hQ4
  obtain ⟨rfl, N4q, e4⟩ := hQ4
  have N4 := Fr.app N0 N4q
  refine Gz.tr st4 ?_
  refine Gz.istoreN 30 #[.val (.ref a0), .val (.int (2 : Int32)), .val (.int (2 : Int32)), .val (.int (4 : Int32)), .unset] X4 hx (dd d9_29) rfl rfl ?_
  refine Gz.iloadN 31 X4 hx (dd d9_30) rfl rfl ?_
  refine Gz.iloadN 32 X4 hx (dd d9_31) rfl rfl ?_
  refine Gz.icmpNo 35 X4 hx (dd d9_32) (feq (by decide : ¬ ((4 : Int32) = (2 : Int32)))).1 rfl ?_
  refine Gz.aloadN 36 X4 hx (dd d9_35) rfl rfl rfl ?_
  refine Gz.getF 39 X4 hx hZ hown (dd d9_36) (host := "") (Or.inl (ww hw 22 rfl)) Via.refl e4 F_bytes_a0 rfl fun T5 X5 e5 => ?_
  refine Gz.iloadN 40 X5 hx (dd d9_39) rfl rfl ?_
  obtain ⟨c6, A6, q6, S6, N6, H6, G6⟩ := id V_ba
  have hin6 : ¬ ((2 : Int32) < 0 ∨ c6.slots.size ≤ ((2 : Int32)).toNatClampNeg) := inb_of S6 ⟨by decide, by decide⟩
  refine Gz.ldB 41 X5 hx hZ (dd d9_40) e5 A6 hin6 (Has.at H6 hin6 (rfl : _ = ((.int (52 : Int32)) : Value))) rfl ?_
  refine Gz.bipush 43 (48 : Int32) X5 hx (dd d9_41) rfl rfl ?_
  refine Gz.icmpYes 57 X5 hx (dd d9_43) (feq (by decide : ¬ ((52 : Int32) = (48 : Int32)))).2 (by decide) (by decide) ?_
  refine Gz.iconst 58 (1 : Int32) X5 hx (dd d9_57) rfl rfl ?_
  refine Gz.istore 60 #[.val (.ref a0), .val (.int (2 : Int32)), .val (.int (2 : Int32)), .val (.int (4 : Int32)), .val (.int (1 : Int32))] X5 hx (dd d9_58) rfl rfl ?_
  refine Gz.iloadN 61 X5 hx (dd d9_60) rfl rfl ?_
  refine Gz.aloadN 62 X5 hx (dd d9_61) rfl rfl rfl ?_
  refine Gz.getF 65 X5 hx hZ hown (dd d9_62) (host := "") (Or.inl (ww hw 22 rfl)) Via.refl e5 F_bytes_a0 rfl fun T7 X7 e7 => ?_
  obtain ⟨c8, A8, -, S8, N8, -, -⟩ := id V_ba
  refine Gz.alen 66 X7 hx hZ (dd d9_65) e7 A8 S8 N8 rfl ?_
  refine Gz.icmpNo 69 X7 hx (dd d9_66) (tlt (by decide : (4 : Int32) < (10 : Int32))).2.1 rfl ?_
  refine Gz.aloadN 70 X7 hx (dd d9_69) rfl rfl rfl ?_
  refine Gz.getF 73 X7 hx hZ hown (dd d9_70) (host := "") (Or.inl (ww hw 22 rfl)) Via.refl e7 F_bytes_a0 rfl fun T9 X9 e9 => ?_
  refine Gz.iloadN 74 X9 hx (dd d9_73) rfl rfl ?_
  obtain ⟨c10, A10, q10, S10, N10, H10, G10⟩ := id V_ba
  have hin10 : ¬ ((4 : Int32) < 0 ∨ c10.slots.size ≤ ((4 : Int32)).toNatClampNeg) := inb_of S10 ⟨by decide, by decide⟩
  refine Gz.ldB 75 X9 hx hZ (dd d9_74) e9 A10 hin10 (Has.at H10 hin10 (rfl : _ = ((.int (44 : Int32)) : Value))) rfl ?_
  refine Gz.bipush 77 (46 : Int32) X9 hx (dd d9_75) rfl rfl ?_
  refine Gz.icmpYes 102 X9 hx (dd d9_77) (feq (by decide : ¬ ((44 : Int32) = (46 : Int32)))).2 (by decide) (by decide) ?_
  refine Gz.iloadN 103 X9 hx (dd d9_102) rfl rfl ?_
  refine Gz.aloadN 104 X9 hx (dd d9_103) rfl rfl rfl ?_
  refine Gz.getF 107 X9 hx hZ hown (dd d9_104) (host := "") (Or.inl (ww hw 22 rfl)) Via.refl e9 F_bytes_a0 rfl fun T11 X11 e11 => ?_
  obtain ⟨c12, A12, -, S12, N12, -, -⟩ := id V_ba
  refine Gz.alen 108 X11 hx hZ (dd d9_107) e11 A12 S12 N12 rfl ?_
  refine Gz.icmpNo 111 X11 hx (dd d9_108) (tlt (by decide : (4 : Int32) < (10 : Int32))).2.1 rfl ?_
  refine Gz.aloadN 112 X11 hx (dd d9_111) rfl rfl rfl ?_
  refine Gz.getF 115 X11 hx hZ hown (dd d9_112) (host := "") (Or.inl (ww hw 22 rfl)) Via.refl e11 F_bytes_a0 rfl fun T13 X13 e13 => ?_
  refine Gz.iloadN 116 X13 hx (dd d9_115) rfl rfl ?_
  obtain ⟨c14, A14, q14, S14, N14, H14, G14⟩ := id V_ba
  have hin14 : ¬ ((4 : Int32) < 0 ∨ c14.slots.size ≤ ((4 : Int32)).toNatClampNeg) := inb_of S14 ⟨by decide, by decide⟩
  refine Gz.ldB 117 X13 hx hZ (dd d9_116) e13 A14 hin14 (Has.at H14 hin14 (rfl : _ = ((.int (44 : Int32)) : Value))) rfl ?_
  refine Gz.bipush 119 (101 : Int32) X13 hx (dd d9_117) rfl rfl ?_
  refine Gz.icmpNo 122 X13 hx (dd d9_119) (feq (by decide : ¬ ((44 : Int32) = (101 : Int32)))).1 rfl ?_
  refine Gz.aloadN 123 X13 hx (dd d9_122) rfl rfl rfl ?_
  refine Gz.getF 126 X13 hx hZ hown (dd d9_123) (host := "") (Or.inl (ww hw 22 rfl)) Via.refl e13 F_bytes_a0 rfl fun T15 X15 e15 => ?_
  refine Gz.iloadN 127 X15 hx (dd d9_126) rfl rfl ?_
  obtain ⟨c16, A16, q16, S16, N16, H16, G16⟩ := id V_ba
  have hin16 : ¬ ((4 : Int32) < 0 ∨ c16.slots.size ≤ ((4 : Int32)).toNatClampNeg) := inb_of S16 ⟨by decide, by decide⟩
  refine Gz.ldB 128 X15 hx hZ (dd d9_127) e15 A16 hin16 (Has.at H16 hin16 (rfl : _ = ((.int (44 : Int32)) : Value))) rfl ?_
  refine Gz.bipush 130 (69 : Int32) X15 hx (dd d9_128) rfl rfl ?_
  refine Gz.icmpYes 189 X15 hx (dd d9_130) (feq (by decide : ¬ ((44 : Int32) = (69 : Int32)))).2 (by decide) (by decide) ?_
  refine Gz.aloadN 190 X15 hx (dd d9_189) rfl rfl rfl ?_
  refine Gz.iloadN 191 X15 hx (dd d9_190) rfl rfl ?_
  refine Gz.putF 194 X15 hx hZ hown .int (dd d9_191) (host := "") (Or.inl (ww hw 70 rfl)) Via.refl e15 F_textStart_a0 E_a0 (Or.inl (ww hw 71 rfl)) (ww hw 14 rfl) (by decide) rfl rfl rfl fun T17 h17 X17 e17 W17 => ?_
  have f17_E_a0 := Exa.wr W17 E_a0
  have f17_F_bytes_a0 := Fld.other W17 F_bytes_a0 (Or.inr (Ne.symm <| sn6 hw))
  have f17_F_maxDepth_a0 := Fld.other W17 F_maxDepth_a0 (Or.inr (Ne.symm <| sn25 hw))
  have f17_F_position_a0 := Fld.other W17 F_position_a0 (Or.inr (Ne.symm <| sn16 hw))
  have f17_F_depth_a0 := Fld.other W17 F_depth_a0 (Or.inr (Ne.symm <| sn41 hw))
  have f17_F_first_a0 := Fld.other W17 F_first_a0 (Or.inr (Ne.symm <| sn47 hw))
  have f17_F_token_a0 := Fld.other W17 F_token_a0 (Or.inr (Ne.symm <| sn52 hw))
  have f17_F_tokenStart_a0 := Fld.other W17 F_tokenStart_a0 (Or.inr (Ne.symm <| sn34 hw))
  have f17_F_textEnd_a0 := Fld.other W17 F_textEnd_a0 (Or.inr (sn57 hw))
  have f17_F_escaped_a0 := Fld.other W17 F_escaped_a0 (Or.inr (sn58 hw))
  have f17_F_ascii_a0 := Fld.other W17 F_ascii_a0 (Or.inr (sn59 hw))
  have f17_F_integral_a0 := Fld.other W17 F_integral_a0 (Or.inr (sn60 hw))
  have f17_V_ba := Arv.other V_ba W17 ne_ba_a0
  have f17_F_textStart_a0 := Fld.same W17 F_textStart_a0
  have N17 := Fr.snoc X17 N4 g_a0
  have SZ17 : n0 ≤ h17.size := Nat.le_trans Z0 (Keep.of_wr W17).1
  have K17 := Keep.wr (Keep.refl h0 [a0]) W17 (Or.inl (List.mem_of_getElem? (i := 0) rfl))
  refine Gz.aloadN 195 X17 hx (dd d9_194) rfl rfl rfl ?_
  refine Gz.iloadN 196 X17 hx (dd d9_195) rfl rfl ?_
  refine Gz.putF 199 X17 hx hZ hown .int (dd d9_196) (host := "") (Or.inl (ww hw 72 rfl)) Via.refl e17 f17_F_textEnd_a0 f17_E_a0 (Or.inl (ww hw 73 rfl)) (ww hw 14 rfl) (by decide) rfl rfl rfl fun T18 h18 X18 e18 W18 => ?_
  have f18_E_a0 := Exa.wr W18 f17_E_a0
  have f18_F_bytes_a0 := Fld.other W18 f17_F_bytes_a0 (Or.inr (Ne.symm <| sn7 hw))
  have f18_F_maxDepth_a0 := Fld.other W18 f17_F_maxDepth_a0 (Or.inr (Ne.symm <| sn26 hw))
  have f18_F_position_a0 := Fld.other W18 f17_F_position_a0 (Or.inr (Ne.symm <| sn17 hw))
  have f18_F_depth_a0 := Fld.other W18 f17_F_depth_a0 (Or.inr (Ne.symm <| sn42 hw))
  have f18_F_first_a0 := Fld.other W18 f17_F_first_a0 (Or.inr (Ne.symm <| sn48 hw))
  have f18_F_token_a0 := Fld.other W18 f17_F_token_a0 (Or.inr (Ne.symm <| sn53 hw))
  have f18_F_tokenStart_a0 := Fld.other W18 f17_F_tokenStart_a0 (Or.inr (Ne.symm <| sn35 hw))
  have f18_F_textStart_a0 := Fld.other W18 f17_F_textStart_a0 (Or.inr (Ne.symm <| sn57 hw))
  have f18_F_escaped_a0 := Fld.other W18 f17_F_escaped_a0 (Or.inr (sn61 hw))
  have f18_F_ascii_a0 := Fld.other W18 f17_F_ascii_a0 (Or.inr (sn62 hw))
  have f18_F_integral_a0 := Fld.other W18 f17_F_integral_a0 (Or.inr (sn63 hw))
  have f18_V_ba := Arv.other f17_V_ba W18 ne_ba_a0
  have f18_F_textEnd_a0 := Fld.same W18 f17_F_textEnd_a0
  have N18 := Fr.snoc X18 N17 g_a0
  have SZ18 : n0 ≤ h18.size := Nat.le_trans SZ17 (Keep.of_wr W18).1
  have K18 := Keep.wr K17 W18 (Or.inl (List.mem_of_getElem? (i := 0) rfl))
  refine Gz.aloadN 200 X18 hx (dd d9_199) rfl rfl rfl ?_
  refine Gz.iconst 201 (0 : Int32) X18 hx (dd d9_200) rfl rfl ?_
  refine Gz.putF 204 X18 hx hZ hown .boolean (dd d9_201) (host := "") (Or.inl (ww hw 74 rfl)) Via.refl e18 f18_F_escaped_a0 f18_E_a0 (Or.inl (ww hw 75 rfl)) (ww hw 14 rfl) (by decide) rfl rfl rfl fun T19 h19 X19 e19 W19 => ?_
  have f19_E_a0 := Exa.wr W19 f18_E_a0
  have f19_F_bytes_a0 := Fld.other W19 f18_F_bytes_a0 (Or.inr (Ne.symm <| sn8 hw))
  have f19_F_maxDepth_a0 := Fld.other W19 f18_F_maxDepth_a0 (Or.inr (Ne.symm <| sn27 hw))
  have f19_F_position_a0 := Fld.other W19 f18_F_position_a0 (Or.inr (Ne.symm <| sn18 hw))
  have f19_F_depth_a0 := Fld.other W19 f18_F_depth_a0 (Or.inr (Ne.symm <| sn43 hw))
  have f19_F_first_a0 := Fld.other W19 f18_F_first_a0 (Or.inr (Ne.symm <| sn49 hw))
  have f19_F_token_a0 := Fld.other W19 f18_F_token_a0 (Or.inr (Ne.symm <| sn54 hw))
  have f19_F_tokenStart_a0 := Fld.other W19 f18_F_tokenStart_a0 (Or.inr (Ne.symm <| sn36 hw))
  have f19_F_textStart_a0 := Fld.other W19 f18_F_textStart_a0 (Or.inr (Ne.symm <| sn58 hw))
  have f19_F_textEnd_a0 := Fld.other W19 f18_F_textEnd_a0 (Or.inr (Ne.symm <| sn61 hw))
  have f19_F_ascii_a0 := Fld.other W19 f18_F_ascii_a0 (Or.inr (sn64 hw))
  have f19_F_integral_a0 := Fld.other W19 f18_F_integral_a0 (Or.inr (sn65 hw))
  have f19_V_ba := Arv.other f18_V_ba W19 ne_ba_a0
  have f19_F_escaped_a0 := Fld.same W19 f18_F_escaped_a0
  have N19 := Fr.snoc X19 N18 g_a0
  have SZ19 : n0 ≤ h19.size := Nat.le_trans SZ18 (Keep.of_wr W19).1
  have K19 := Keep.wr K18 W19 (Or.inl (List.mem_of_getElem? (i := 0) rfl))
  refine Gz.aloadN 205 X19 hx (dd d9_204) rfl rfl rfl ?_
  refine Gz.iconst 206 (1 : Int32) X19 hx (dd d9_205) rfl rfl ?_
  refine Gz.putF 209 X19 hx hZ hown .boolean (dd d9_206) (host := "") (Or.inl (ww hw 76 rfl)) Via.refl e19 f19_F_ascii_a0 f19_E_a0 (Or.inl (ww hw 77 rfl)) (ww hw 14 rfl) (by decide) rfl rfl rfl fun T20 h20 X20 e20 W20 => ?_
  have f20_E_a0 := Exa.wr W20 f19_E_a0
  have f20_F_bytes_a0 := Fld.other W20 f19_F_bytes_a0 (Or.inr (Ne.symm <| sn9 hw))
  have f20_F_maxDepth_a0 := Fld.other W20 f19_F_maxDepth_a0 (Or.inr (Ne.symm <| sn28 hw))
  have f20_F_position_a0 := Fld.other W20 f19_F_position_a0 (Or.inr (Ne.symm <| sn19 hw))
  have f20_F_depth_a0 := Fld.other W20 f19_F_depth_a0 (Or.inr (Ne.symm <| sn44 hw))
  have f20_F_first_a0 := Fld.other W20 f19_F_first_a0 (Or.inr (Ne.symm <| sn50 hw))
  have f20_F_token_a0 := Fld.other W20 f19_F_token_a0 (Or.inr (Ne.symm <| sn55 hw))
  have f20_F_tokenStart_a0 := Fld.other W20 f19_F_tokenStart_a0 (Or.inr (Ne.symm <| sn37 hw))
  have f20_F_textStart_a0 := Fld.other W20 f19_F_textStart_a0 (Or.inr (Ne.symm <| sn59 hw))
  have f20_F_textEnd_a0 := Fld.other W20 f19_F_textEnd_a0 (Or.inr (Ne.symm <| sn62 hw))
  have f20_F_escaped_a0 := Fld.other W20 f19_F_escaped_a0 (Or.inr (Ne.symm <| sn64 hw))
  have f20_F_integral_a0 := Fld.other W20 f19_F_integral_a0 (Or.inr (sn66 hw))
  have f20_V_ba := Arv.other f19_V_ba W20 ne_ba_a0
  have f20_F_ascii_a0 := Fld.same W20 f19_F_ascii_a0
  have N20 := Fr.snoc X20 N19 g_a0
  have SZ20 : n0 ≤ h20.size := Nat.le_trans SZ19 (Keep.of_wr W20).1
  have K20 := Keep.wr K19 W20 (Or.inl (List.mem_of_getElem? (i := 0) rfl))
  refine Gz.aloadN 210 X20 hx (dd d9_209) rfl rfl rfl ?_
  refine Gz.iload 212 X20 hx (dd d9_210) rfl rfl ?_
  refine Gz.putF 215 X20 hx hZ hown .boolean (dd d9_212) (host := "") (Or.inl (ww hw 78 rfl)) Via.refl e20 f20_F_integral_a0 f20_E_a0 (Or.inl (ww hw 79 rfl)) (ww hw 14 rfl) (by decide) rfl rfl rfl fun T21 h21 X21 e21 W21 => ?_
  have f21_E_a0 := Exa.wr W21 f20_E_a0
  have f21_F_bytes_a0 := Fld.other W21 f20_F_bytes_a0 (Or.inr (Ne.symm <| sn10 hw))
  have f21_F_maxDepth_a0 := Fld.other W21 f20_F_maxDepth_a0 (Or.inr (Ne.symm <| sn29 hw))
  have f21_F_position_a0 := Fld.other W21 f20_F_position_a0 (Or.inr (Ne.symm <| sn20 hw))
  have f21_F_depth_a0 := Fld.other W21 f20_F_depth_a0 (Or.inr (Ne.symm <| sn45 hw))
  have f21_F_first_a0 := Fld.other W21 f20_F_first_a0 (Or.inr (Ne.symm <| sn51 hw))
  have f21_F_token_a0 := Fld.other W21 f20_F_token_a0 (Or.inr (Ne.symm <| sn56 hw))
  have f21_F_tokenStart_a0 := Fld.other W21 f20_F_tokenStart_a0 (Or.inr (Ne.symm <| sn38 hw))
  have f21_F_textStart_a0 := Fld.other W21 f20_F_textStart_a0 (Or.inr (Ne.symm <| sn60 hw))
  have f21_F_textEnd_a0 := Fld.other W21 f20_F_textEnd_a0 (Or.inr (Ne.symm <| sn63 hw))
  have f21_F_escaped_a0 := Fld.other W21 f20_F_escaped_a0 (Or.inr (Ne.symm <| sn65 hw))
  have f21_F_ascii_a0 := Fld.other W21 f20_F_ascii_a0 (Or.inr (Ne.symm <| sn66 hw))
  have f21_V_ba := Arv.other f20_V_ba W21 ne_ba_a0
  have f21_F_integral_a0 := Fld.same W21 f20_F_integral_a0
  have N21 := Fr.snoc X21 N20 g_a0
  have SZ21 : n0 ≤ h21.size := Nat.le_trans SZ20 (Keep.of_wr W21).1
  have K21 := Keep.wr K20 W21 (Or.inl (List.mem_of_getElem? (i := 0) rfl))
  refine Gz.aloadN 216 X21 hx (dd d9_215) rfl rfl rfl ?_
  refine Gz.iloadN 217 X21 hx (dd d9_216) rfl rfl ?_
  refine Gz.putF 220 X21 hx hZ hown .int (dd d9_217) (host := "") (Or.inl (ww hw 24 rfl)) Via.refl e21 f21_F_position_a0 f21_E_a0 (Or.inl (ww hw 25 rfl)) (ww hw 14 rfl) (by decide) rfl rfl rfl fun T22 h22 X22 e22 W22 => ?_
  have f22_E_a0 := Exa.wr W22 f21_E_a0
  have f22_F_bytes_a0 := Fld.other W22 f21_F_bytes_a0 (Or.inr (Ne.symm <| sn1 hw))
  have f22_F_maxDepth_a0 := Fld.other W22 f21_F_maxDepth_a0 (Or.inr (sn11 hw))
  have f22_F_depth_a0 := Fld.other W22 f21_F_depth_a0 (Or.inr (sn12 hw))
  have f22_F_first_a0 := Fld.other W22 f21_F_first_a0 (Or.inr (sn13 hw))
  have f22_F_token_a0 := Fld.other W22 f21_F_token_a0 (Or.inr (sn14 hw))
  have f22_F_tokenStart_a0 := Fld.other W22 f21_F_tokenStart_a0 (Or.inr (sn15 hw))
  have f22_F_textStart_a0 := Fld.other W22 f21_F_textStart_a0 (Or.inr (sn16 hw))
  have f22_F_textEnd_a0 := Fld.other W22 f21_F_textEnd_a0 (Or.inr (sn17 hw))
  have f22_F_escaped_a0 := Fld.other W22 f21_F_escaped_a0 (Or.inr (sn18 hw))
  have f22_F_ascii_a0 := Fld.other W22 f21_F_ascii_a0 (Or.inr (sn19 hw))
  have f22_F_integral_a0 := Fld.other W22 f21_F_integral_a0 (Or.inr (sn20 hw))
  have f22_V_ba := Arv.other f21_V_ba W22 ne_ba_a0
  have f22_F_position_a0 := Fld.same W22 f21_F_position_a0
  have N22 := Fr.snoc X22 N21 g_a0
  have SZ22 : n0 ≤ h22.size := Nat.le_trans SZ21 (Keep.of_wr W22).1
  have K22 := Keep.wr K21 W22 (Or.inl (List.mem_of_getElem? (i := 0) rfl))
  refine Gz.aloadN 221 X22 hx (dd d9_220) rfl rfl rfl ?_
  refine Gz.iconst 222 (0 : Int32) X22 hx (dd d9_221) rfl rfl ?_
  refine Gz.putF 225 X22 hx hZ hown .boolean (dd d9_222) (host := "") (Or.inl (ww hw 49 rfl)) Via.refl e22 f22_F_first_a0 f22_E_a0 (Or.inl (ww hw 50 rfl)) (ww hw 14 rfl) (by decide) rfl rfl rfl fun T23 h23 X23 e23 W23 => ?_
  have f23_E_a0 := Exa.wr W23 f22_E_a0
  have f23_F_bytes_a0 := Fld.other W23 f22_F_bytes_a0 (Or.inr (Ne.symm <| sn3 hw))
  have f23_F_maxDepth_a0 := Fld.other W23 f22_F_maxDepth_a0 (Or.inr (Ne.symm <| sn22 hw))
  have f23_F_position_a0 := Fld.other W23 f22_F_position_a0 (Or.inr (Ne.symm <| sn13 hw))
  have f23_F_depth_a0 := Fld.other W23 f22_F_depth_a0 (Or.inr (Ne.symm <| sn39 hw))
  have f23_F_token_a0 := Fld.other W23 f22_F_token_a0 (Or.inr (sn46 hw))
  have f23_F_tokenStart_a0 := Fld.other W23 f22_F_tokenStart_a0 (Or.inr (Ne.symm <| sn32 hw))
  have f23_F_textStart_a0 := Fld.other W23 f22_F_textStart_a0 (Or.inr (sn47 hw))
  have f23_F_textEnd_a0 := Fld.other W23 f22_F_textEnd_a0 (Or.inr (sn48 hw))
  have f23_F_escaped_a0 := Fld.other W23 f22_F_escaped_a0 (Or.inr (sn49 hw))
  have f23_F_ascii_a0 := Fld.other W23 f22_F_ascii_a0 (Or.inr (sn50 hw))
  have f23_F_integral_a0 := Fld.other W23 f22_F_integral_a0 (Or.inr (sn51 hw))
  have f23_V_ba := Arv.other f22_V_ba W23 ne_ba_a0
  have f23_F_first_a0 := Fld.same W23 f22_F_first_a0
  have N23 := Fr.snoc X23 N22 g_a0
  have SZ23 : n0 ≤ h23.size := Nat.le_trans SZ22 (Keep.of_wr W23).1
  have K23 := Keep.wr K22 W23 (Or.inl (List.mem_of_getElem? (i := 0) rfl))
  refine Gz.fin X23 (v := none) (fun _ => rfl) hlk (by decide) (by decide) (fun fs hr => X23.returnOut hx hret (dd d9_225) hr) ?_
  rw [e23]
  exact ⟨rfl, N23, K23, f23_E_a0, f23_F_bytes_a0, f23_F_maxDepth_a0, f23_F_position_a0, f23_F_depth_a0, f23_F_first_a0, f23_F_token_a0, f23_F_tokenStart_a0, f23_F_textStart_a0, f23_F_textEnd_a0, f23_F_escaped_a0, f23_F_ascii_a0, f23_F_integral_a0⟩
theorem ef_rmNx_2_r (m : MethodId) (a0 : Addr) : entryFrame m #[(.ref a0)] 3 = mkF m 0 #[.val (.ref a0), .unset, .unset] [] := by first | (simp [entryFrame, mkF, argsToLocals, Value.category]; done) | rfl
def Q_rmNx_2_r (Z : State) (a0 : Addr) (ba : Addr) (md : Int32) (dp : Int32) (fi : Int32) (tk : Addr) (ts : Int32) (xs : Int32) (xe : Int32) (es : Int32) (as_ : Int32) (ig : Int32) (k_ba : ClassId) (s_NUMBER : Addr) (h0 : Heap) (n0 : Nat) (v : Option Value) (h : Heap) (L : List Loc) : Prop := v = some (.ref s_NUMBER) ∧ Fr n0 L ∧ Keep h0 h [a0] ∧ Exa Z h a0 cs0 ∧ Fld Z h a0 cs0 "bytes" "[B" (.ref ba) ∧ Fld Z h a0 cs0 "maxDepth" "I" (.int md) ∧ Fld Z h a0 cs0 "position" "I" (.int (4 : Int32)) ∧ Fld Z h a0 cs0 "depth" "I" (.int dp) ∧ Fld Z h a0 cs0 "first" "Z" (.int (0 : Int32)) ∧ Fld Z h a0 cs0 "token" "Lcom/example/bad_status/badstatus/model/JsonReader$Token;" (.ref s_NUMBER) ∧ Fld Z h a0 cs0 "tokenStart" "I" (.int (2 : Int32)) ∧ Fld Z h a0 cs0 "textStart" "I" (.int (2 : Int32)) ∧ Fld Z h a0 cs0 "textEnd" "I" (.int (4 : Int32)) ∧ Fld Z h a0 cs0 "escaped" "Z" (.int (0 : Int32)) ∧ Fld Z h a0 cs0 "ascii" "Z" (.int (1 : Int32)) ∧ Fld Z h a0 cs0 "integral" "Z" (.int (1 : Int32))
set_option maxRecDepth 65536 in
set_option maxHeartbeats 40000000 in
theorem rmNx_2_r (l : Launch) (Z : State) (av0 : Array Value) (hw : ∀ d ∈ tables_1, d.before av0 Z = true) (ws : List Jvm.Cond) (a0 : Addr) (ba : Addr) (md : Int32) (dp : Int32) (fi : Int32) (tk : Addr) (ts : Int32) (xs : Int32) (xe : Int32) (es : Int32) (as_ : Int32) (ig : Int32) (k_ba : ClassId) (s_NUMBER : Addr) (h0 : Heap) (n0 : Nat) (Z0 : n0 ≤ h0.size) (E_a0 : Exa Z h0 a0 cs0) (F_bytes_a0 : Fld Z h0 a0 cs0 "bytes" "[B" (.ref ba)) (F_maxDepth_a0 : Fld Z h0 a0 cs0 "maxDepth" "I" (.int md)) (F_position_a0 : Fld Z h0 a0 cs0 "position" "I" (.int (2 : Int32))) (F_depth_a0 : Fld Z h0 a0 cs0 "depth" "I" (.int dp)) (F_first_a0 : Fld Z h0 a0 cs0 "first" "Z" (.int fi)) (F_token_a0 : Fld Z h0 a0 cs0 "token" "Lcom/example/bad_status/badstatus/model/JsonReader$Token;" (.ref tk)) (F_tokenStart_a0 : Fld Z h0 a0 cs0 "tokenStart" "I" (.int ts)) (F_textStart_a0 : Fld Z h0 a0 cs0 "textStart" "I" (.int xs)) (F_textEnd_a0 : Fld Z h0 a0 cs0 "textEnd" "I" (.int xe)) (F_escaped_a0 : Fld Z h0 a0 cs0 "escaped" "Z" (.int es)) (F_ascii_a0 : Fld Z h0 a0 cs0 "ascii" "Z" (.int as_)) (F_integral_a0 : Fld Z h0 a0 cs0 "integral" "Z" (.int ig)) (g_a0 : n0 ≤ a0) (V_ba : Arv Z h0 ba k_ba .byte (10 : Int32) [(.int (91 : Int32)), (.int (32 : Int32)), (.int (52 : Int32)), (.int (50 : Int32)), (.int (44 : Int32)), (.int (91 : Int32)), (.int (116 : Int32)), (.int (114 : Int32)), (.int (117 : Int32)), (.int (101 : Int32))] (.int (0 : Int32))) (ne_ba_a0 : ba ≠ a0) (S_s_NUMBER : Sta Z h0 cs1 "NUMBER" "Lcom/example/bad_status/badstatus/model/JsonReader$Token;" (.ref s_NUMBER)) :
    MetFree l (⟨cs0, "next", "()Lcom/example/bad_status/badstatus/model/JsonReader$Token;"⟩ : MethodName) (head1 (Jvm.Cond.code (⟨cs0, "next", "()Lcom/example/bad_status/badstatus/model/JsonReader$Token;"⟩ : MethodName) prog_11_method_2_code 3 (some (.object cs1)) :: ws) ({ frames := 3, cells := 0, slots := 0, locals := 42 } : Room)) (fun a U => a = #[(.ref a0)] ∧ Z.Warmed39 U.vm ∧ U.heap = h0) (fun _ _ _ _ _ => True) (fun _ U o U' => ∃ v L, o = .returned v ∧ Q_rmNx_2_r Z a0 ba md dp fi tk ts xs xe es as_ ig k_ba s_NUMBER h0 n0 v U'.heap L ∧ FrameEnd U o U' L ({ frames := 3, cells := 0, slots := 0, locals := 42 } : Room).cells ({ frames := 3, cells := 0, slots := 0, locals := 42 } : Room).slots) := by
  refine MetFree.of_bodySF (plainFor_of_name pn_0) hisR ?_
  intro p e s m args below meth c s₁ Bd hml0 hP hK
  obtain ⟨rfl, hZ, hh⟩ := hP
  have hx := Bd.exec
  have hby := Bd.bytes
  have hml : c.maxLocals = 3 := hml0
  have dd : ∀ {pc : Nat} {r : Except DecodeError (Instr × Nat)}, decode prog_11_method_2_code pc = r → decode c.code pc = r := fun q => hb hby q
  have hown : s.vm.findClass cs0 = some m.cls := findClass_of_methodNamed Bd.named
  have hnm := (name_of_methodNamed Bd.named Bd.method).1
  have X0 : Stand p l e ({ frames := 3, cells := 0, slots := 0, locals := 42 } : Room) s m #[(.ref a0)] below meth c s₁ [] 0 0 := Stand.of_body Bd
  have e0 : s₁.heap = h0 := by rw [← hh, Bd.state]; rfl
  have N0 := Fr.nil n0
  have hret := Bd.returns
  have hlk := Bd.notSynchronized
  show Gz p e below s ({ frames := 3, cells := 0, slots := 0, locals := 42 } : Room).cells ({ frames := 3, cells := 0, slots := 0, locals := 42 } : Room).slots (Q_rmNx_2_r Z a0 ba md dp fi tk ts xs xe es as_ ig k_ba s_NUMBER h0 n0) (s₁.setTop (entryFrame m #[(.ref a0)] 3))
  refine Gz.enter (ef_rmNx_2_r m a0) ?_
  refine Gz.aloadN 1 X0 hx (dd d3_0) rfl rfl rfl ?_
  obtain ⟨cq1, q1, q1'⟩ := E_a0.cell
  obtain ⟨_, _, ⟨T1, L1, k1, n1⟩, -, X1, ⟨Lc1, hQ1, l1, y1, z1⟩, st1⟩ := X0.privateBack hx (y := ym7) hown (mvT hZ (ww hw 33 rfl)) (mvT hZ (ww hw 34 rfl)) (own_selp (y := ym7) (y' := ym8) rfl (mvT hZ (ww hw 31 rfl)) (mvT hZ (ww hw 30 rfl)) (mvT hZ (ww hw 34 rfl)) (Cond.privateMethod_at (mvP hZ (ww hw 35 rfl) (args := #[]))) (by decide)) (Cond.privateMethod_at (mvP hZ (ww hw 35 rfl) (args := #[]))) (mvT hZ (ww hw 36 rfl)) (by decide) (backOf (W := 0) (rmSw_2_r l Z av0 hw [] a0 ba md dp fi tk ts xs xe es as_ ig k_ba h0 n0 Z0 E_a0 F_bytes_a0 F_maxDepth_a0 F_position_a0 F_depth_a0 F_first_a0 F_token_a0 F_tokenStart_a0 F_textStart_a0 F_textEnd_a0 F_escaped_a0 F_ascii_a0 F_integral_a0 g_a0 V_ba ne_ba_a0) hZ (ww hw 36 rfl) (ww hw 15 rfl) (by decide) (by decide)) (g := (mkF m 1 #[.val (.ref a0), .unset, .unset] [(.ref a0)])) rfl (by rw [hml]; rfl) (Steps.refl _) (a := a0) (by rw [e0]; exact q1) q1' (argsL := []) (rest := []) (lenOf pd_5 rfl) rfl (Nat.le_refl _) (dd d3_1) (fun _ _ => ⟨rfl, e0, (by decide : 0 + 0 ≤ _), (by decide : 0 + 0 ≤ _)⟩)
  dsimp only [Pt.U, Pt.locs, Pt.cells, Pt.slots, Q_rmSw_2_r] at X1 l1 y1 z1 st1 hQ1
  subst l1 y1 z1
  obtain ⟨rfl, N1q, K1q, QE1_0, QF1_0, QF1_1, QF1_2, QF1_3, QF1_4, QF1_5, QF1_6, QF1_7, QF1_8, QF1_9, QF1_10, QF1_11⟩ := hQ1
  have N1 := Fr.app N0 N1q
  have f1_E_a0 := Exa.keep E_a0 K1q
  have f1_V_ba := Arv.keep V_ba K1q (ninS ne_ba_a0 nin0)
  have f1_S_s_NUMBER := own_staK S_s_NUMBER K1q (allS (nst_of E_a0) all0)
  have SZ1 := Nat.le_trans Z0 K1q.1
  have K1 := Keep.trans (Keep.refl h0 [a0]) K1q (allS (Or.inl (List.mem_of_getElem? (i := 0) rfl)) all0)
  refine Gz.tr st1 ?_
  refine Gz.istoreN 5 #[.val (.ref a0), .val (.int (52 : Int32)), .unset] X1 hx (dd d3_4) rfl rfl ?_
  refine Gz.aloadN 6 X1 hx (dd d3_5) rfl rfl rfl ?_
  refine Gz.aloadN 7 X1 hx (dd d3_6) rfl rfl rfl ?_
  refine Gz.getF 10 X1 hx hZ hown (dd d3_7) (host := "") (Or.inl (ww hw 24 rfl)) Via.refl rfl QF1_2 rfl fun T2 X2 e2 => ?_
  refine Gz.putF 13 X2 hx hZ hown .int (dd d3_10) (host := "") (Or.inl (ww hw 40 rfl)) Via.refl e2 QF1_6 QE1_0 (Or.inl (ww hw 41 rfl)) (ww hw 14 rfl) (by decide) rfl rfl rfl fun T3 h3 X3 e3 W3 => ?_
  have f3_E_a0 := Exa.wr W3 QE1_0
  have f3_V_ba := Arv.other f1_V_ba W3 ne_ba_a0
  have f3_S_s_NUMBER := Sta.wr W3 f1_S_s_NUMBER
  have f3_F_bytes_a0 := Fld.other W3 QF1_0 (Or.inr (Ne.symm <| sn5 hw))
  have f3_F_maxDepth_a0 := Fld.other W3 QF1_1 (Or.inr (Ne.symm <| sn24 hw))
  have f3_F_position_a0 := Fld.other W3 QF1_2 (Or.inr (Ne.symm <| sn15 hw))
  have f3_F_depth_a0 := Fld.other W3 QF1_3 (Or.inr (sn31 hw))
  have f3_F_first_a0 := Fld.other W3 QF1_4 (Or.inr (sn32 hw))
  have f3_F_token_a0 := Fld.other W3 QF1_5 (Or.inr (sn33 hw))
  have f3_F_textStart_a0 := Fld.other W3 QF1_7 (Or.inr (sn34 hw))
  have f3_F_textEnd_a0 := Fld.other W3 QF1_8 (Or.inr (sn35 hw))
  have f3_F_escaped_a0 := Fld.other W3 QF1_9 (Or.inr (sn36 hw))
  have f3_F_ascii_a0 := Fld.other W3 QF1_10 (Or.inr (sn37 hw))
  have f3_F_integral_a0 := Fld.other W3 QF1_11 (Or.inr (sn38 hw))
  have f3_F_tokenStart_a0 := Fld.same W3 QF1_6
  have N3 := Fr.snoc X3 N1 g_a0
  have SZ3 : n0 ≤ h3.size := Nat.le_trans SZ1 (Keep.of_wr W3).1
  have K3 := Keep.wr K1 W3 (Or.inl (List.mem_of_getElem? (i := 0) rfl))
  refine Gz.iloadN 14 X3 hx (dd d3_13) rfl rfl ?_
  refine Gz.st (fun t k => X3.lookupswitchMiss hx (g := (mkF m 14 #[.val (.ref a0), .val (.int (52 : Int32)), .unset] [(.int (52 : Int32))])) rfl (k := (52 : Int32)) (rest := []) rfl (dd d3_14) (by decide) (by decide) (by show (0 : Int) ≤ ((14 : Nat) : Int) + 133; decide) t k) ?_
  show Gz p e below s _ _ _ (T3.setTop (mkF m 147 #[.val (.ref a0), .val (.int (52 : Int32)), .unset] []))
  refine Gz.iloadN 148 X3 hx (dd d3_147) rfl rfl ?_
  refine Gz.bipush 150 (45 : Int32) X3 hx (dd d3_148) rfl rfl ?_
  refine Gz.icmpNo 153 X3 hx (dd d3_150) (feq (by decide : ¬ ((52 : Int32) = (45 : Int32)))).1 rfl ?_
  refine Gz.iloadN 154 X3 hx (dd d3_153) rfl rfl ?_
  obtain ⟨_, _, ⟨T4, L4, k4, n4⟩, -, X4, ⟨Lc4, hQ4, l4, y4, z4⟩, st4⟩ := Jvm.LawKit.callS X3 hx (y := ym11) hown (mvT hZ (ww hw 59 rfl)) (mvT hZ (ww hw 60 rfl)) (mvT hZ (ww hw 15 rfl)) (mvT hZ (ww hw 61 rfl)) (by decide) (backOf (W := 0) (rm8 l Z av0 hw [] (52 : Int32)  h3 n0 SZ3 ) hZ (ww hw 61 rfl) (ww hw 15 rfl) (by decide) (by decide)) (g := (mkF m 154 #[.val (.ref a0), .val (.int (52 : Int32)), .unset] [(.int (52 : Int32))])) rfl (by rw [hml]; rfl) (argsL := [(.int (52 : Int32))]) (rest := []) (lenOf pd_9 rfl) rfl (Nat.le_refl _) (dd d3_154) (fun _ _ => ⟨rfl, e3, (by decide : 0 + 0 ≤ _), (by decide : 0 + 0 ≤ _)⟩)
  dsimp only [Pt.U, Pt.locs, Pt.cells, Pt.slots, Q_rm8] at X4 l4 y4 z4 st4 hQ4
  subst l4 y4 z4
  rw [show (fDg (52 : Int32)) = (1 : Int32) from (by unfold fDg; rw [if_neg (by decide : ¬ ((52 : Int32) < (48 : Int32))), if_neg (by decide : ¬ ((57 : Int32) < (52 : Int32)))]; try decide)] at hQ4
  obtain ⟨rfl, N4q, e4⟩ := hQ4
  have N4 := Fr.app N3 N4q
  refine Gz.st st4 ?_
  refine Gz.ifYes 165 X4 hx (dd d3_157) ((if0 _ _).trans (feq (by decide : ¬ ((1 : Int32) = (0 : Int32)))).2) (by decide) (by decide) ?_
  refine Gz.aloadN 166 X4 hx (dd d3_165) rfl rfl rfl ?_
  obtain ⟨cq5, q5, q5'⟩ := f3_E_a0.cell
  obtain ⟨_, _, ⟨T5, L5, k5, n5⟩, -, X5, ⟨Lc5, hQ5, l5, y5, z5⟩, st5⟩ := X4.privateBack hx (y := ym13) hown (mvT hZ (ww hw 62 rfl)) (mvT hZ (ww hw 63 rfl)) (own_selp (y := ym13) (y' := ym8) rfl (mvT hZ (ww hw 31 rfl)) (mvT hZ (ww hw 30 rfl)) (mvT hZ (ww hw 63 rfl)) (Cond.privateMethod_at (mvP hZ (ww hw 64 rfl) (args := #[]))) (by decide)) (Cond.privateMethod_at (mvP hZ (ww hw 64 rfl) (args := #[]))) (mvT hZ (ww hw 65 rfl)) (by decide) (backOf (W := 0) (rmRn_2_r l Z av0 hw [] a0 ba md dp fi tk (2 : Int32) xs xe es as_ ig k_ba h3 n0 SZ3 f3_E_a0 f3_F_bytes_a0 f3_F_maxDepth_a0 f3_F_position_a0 f3_F_depth_a0 f3_F_first_a0 f3_F_token_a0 f3_F_tokenStart_a0 f3_F_textStart_a0 f3_F_textEnd_a0 f3_F_escaped_a0 f3_F_ascii_a0 f3_F_integral_a0 g_a0 f3_V_ba ne_ba_a0) hZ (ww hw 65 rfl) (ww hw 15 rfl) (by decide) (by decide)) (g := (mkF m 166 #[.val (.ref a0), .val (.int (52 : Int32)), .unset] [(.ref a0)])) rfl (by rw [hml]; rfl) (Steps.refl _) (a := a0) (by rw [e4]; exact q5) q5' (argsL := []) (rest := []) (lenOf pd_2 rfl) rfl (Nat.le_refl _) (dd d3_166) (fun _ _ => ⟨rfl, e4, (by decide : 0 + 0 ≤ _), (by decide : 0 + 0 ≤ _)⟩)
  dsimp only [Pt.U, Pt.locs, Pt.cells, Pt.slots, Q_rmRn_2_r] at X5 l5 y5 z5 st5 hQ5
  subst l5 y5 z5
  obtain ⟨rfl, N5q, K5q, QE5_0, QF5_0, QF5_1, QF5_2, QF5_3, QF5_4, QF5_5, QF5_6, QF5_7, QF5_8, QF5_9, QF5_10, QF5_11⟩ := hQ5
  have N5 := Fr.app N4 N5q
  have f5_E_a0 := Exa.keep f3_E_a0 K5q
  have f5_V_ba := Arv.keep f3_V_ba K5q (ninS ne_ba_a0 nin0)
  have f5_S_s_NUMBER := own_staK f3_S_s_NUMBER K5q (allS (nst_of f3_E_a0) all0)
  have SZ5 := Nat.le_trans SZ3 K5q.1
  have K5 := Keep.trans K3 K5q (allS (Or.inl (List.mem_of_getElem? (i := 0) rfl)) all0)
  refine Gz.tr st5 ?_
  refine Gz.getS 172 X5 hx hZ hown (dd d3_169) (host := "") (Or.inl (ww hw 80 rfl)) Via.refl rfl f5_S_s_NUMBER rfl fun T6 X6 e6 => ?_
  refine Gz.astoreN 173 #[.val (.ref a0), .val (.int (52 : Int32)), .val (.ref s_NUMBER)] X6 hx (dd d3_172) rfl rfl rfl ?_
  refine Gz.aloadN 174 X6 hx (dd d3_173) rfl rfl rfl ?_
  refine Gz.aloadN 175 X6 hx (dd d3_174) rfl rfl rfl ?_
  refine Gz.putF 178 X6 hx hZ hown (.object cs1) (dd d3_175) (host := "") (Or.inl (ww hw 51 rfl)) Via.refl e6 QF5_5 QE5_0 (Or.inl (ww hw 52 rfl)) (ww hw 14 rfl) (by decide) rfl rfl rfl fun T7 h7 X7 e7 W7 => ?_
  have f7_E_a0 := Exa.wr W7 QE5_0
  have f7_V_ba := Arv.other f5_V_ba W7 ne_ba_a0
  have f7_S_s_NUMBER := Sta.wr W7 f5_S_s_NUMBER
  have f7_F_bytes_a0 := Fld.other W7 QF5_0 (Or.inr (Ne.symm <| sn4 hw))
  have f7_F_maxDepth_a0 := Fld.other W7 QF5_1 (Or.inr (Ne.symm <| sn23 hw))
  have f7_F_position_a0 := Fld.other W7 QF5_2 (Or.inr (Ne.symm <| sn14 hw))
  have f7_F_depth_a0 := Fld.other W7 QF5_3 (Or.inr (Ne.symm <| sn40 hw))
  have f7_F_first_a0 := Fld.other W7 QF5_4 (Or.inr (Ne.symm <| sn46 hw))
  have f7_F_tokenStart_a0 := Fld.other W7 QF5_6 (Or.inr (Ne.symm <| sn33 hw))
  have f7_F_textStart_a0 := Fld.other W7 QF5_7 (Or.inr (sn52 hw))
  have f7_F_textEnd_a0 := Fld.other W7 QF5_8 (Or.inr (sn53 hw))
  have f7_F_escaped_a0 := Fld.other W7 QF5_9 (Or.inr (sn54 hw))
  have f7_F_ascii_a0 := Fld.other W7 QF5_10 (Or.inr (sn55 hw))
  have f7_F_integral_a0 := Fld.other W7 QF5_11 (Or.inr (sn56 hw))
  have f7_F_token_a0 := Fld.same W7 QF5_5
  have N7 := Fr.snoc X7 N5 g_a0
  have SZ7 : n0 ≤ h7.size := Nat.le_trans SZ5 (Keep.of_wr W7).1
  have K7 := Keep.wr K5 W7 (Or.inl (List.mem_of_getElem? (i := 0) rfl))
  refine Gz.aloadN 179 X7 hx (dd d3_178) rfl rfl rfl ?_
  refine Gz.fin X7 (v := some (.ref s_NUMBER)) (fun h => by rw [hret] at h; cases h) hlk (by decide) (by decide) (fun fs hr => retA X7 hx hret (dd d3_179) hr rfl rfl) ?_
  rw [e7]
  exact ⟨rfl, N7, K7, f7_E_a0, f7_F_bytes_a0, f7_F_maxDepth_a0, f7_F_position_a0, f7_F_depth_a0, f7_F_first_a0, f7_F_token_a0, f7_F_tokenStart_a0, f7_F_textStart_a0, f7_F_textEnd_a0, f7_F_escaped_a0, f7_F_ascii_a0, f7_F_integral_a0⟩
theorem d7_0 : decode prog_11_method_4_code 0 = .ok (.aload_n 0, 1) := by decide +kernel
theorem d7_1 : decode prog_11_method_4_code 1 = .ok (.invokevirtual 22, 3) := by decide +kernel
theorem d7_4 : decode prog_11_method_4_code 4 = .ok (.istore_n 1, 1) := by decide +kernel
theorem d7_5 : decode prog_11_method_4_code 5 = .ok (.aconst_null, 1) := by decide +kernel
theorem d7_6 : decode prog_11_method_4_code 6 = .ok (.astore_n 2, 1) := by decide +kernel
theorem d7_7 : decode prog_11_method_4_code 7 = .ok (.iload_n 1, 1) := by decide +kernel
theorem d7_8 : decode prog_11_method_4_code 8 = .ok (.bipush 93, 2) := by decide +kernel
theorem d7_10 : decode prog_11_method_4_code 10 = .ok (.if_icmp .eq 24, 3) := by decide +kernel
theorem d7_13 : decode prog_11_method_4_code 13 = .ok (.aload_n 0, 1) := by decide +kernel
theorem d7_14 : decode prog_11_method_4_code 14 = .ok (.getfield 84, 3) := by decide +kernel
theorem d7_17 : decode prog_11_method_4_code 17 = .ok (.ifCond .ne 9, 3) := by decide +kernel
theorem d7_26 : decode prog_11_method_4_code 26 = .ok (.aload_n 0, 1) := by decide +kernel
theorem d7_27 : decode prog_11_method_4_code 27 = .ok (.invokevirtual 99, 3) := by decide +kernel
theorem d7_30 : decode prog_11_method_4_code 30 = .ok (.astore_n 2, 1) := by decide +kernel
theorem d7_31 : decode prog_11_method_4_code 31 = .ok (.goto 7, 3) := by decide +kernel
theorem d7_38 : decode prog_11_method_4_code 38 = .ok (.aload_n 2, 1) := by decide +kernel
theorem d7_39 : decode prog_11_method_4_code 39 = .ok (.areturn, 1) := by decide +kernel
theorem ef_rmNe_1_r_1 (m : MethodId) (a0 : Addr) : entryFrame m #[(.ref a0)] 3 = mkF m 0 #[.val (.ref a0), .unset, .unset] [] := by first | (simp [entryFrame, mkF, argsToLocals, Value.category]; done) | rfl
def Q_rmNe_1_r_1 (Z : State) (a0 : Addr) (ba : Addr) (md : Int32) (dp : Int32) (tk : Addr) (ts : Int32) (xs : Int32) (xe : Int32) (es : Int32) (as_ : Int32) (ig : Int32) (k_ba : ClassId) (s_NUMBER : Addr) (h0 : Heap) (n0 : Nat) (v : Option Value) (h : Heap) (L : List Loc) : Prop := v = some (.ref s_NUMBER) ∧ Fr n0 L ∧ Keep h0 h [a0] ∧ Exa Z h a0 cs0 ∧ Fld Z h a0 cs0 "bytes" "[B" (.ref ba) ∧ Fld Z h a0 cs0 "maxDepth" "I" (.int md) ∧ Fld Z h a0 cs0 "position" "I" (.int (4 : Int32)) ∧ Fld Z h a0 cs0 "depth" "I" (.int dp) ∧ Fld Z h a0 cs0 "first" "Z" (.int (0 : Int32)) ∧ Fld Z h a0 cs0 "token" "Lcom/example/bad_status/badstatus/model/JsonReader$Token;" (.ref s_NUMBER) ∧ Fld Z h a0 cs0 "tokenStart" "I" (.int (2 : Int32)) ∧ Fld Z h a0 cs0 "textStart" "I" (.int (2 : Int32)) ∧ Fld Z h a0 cs0 "textEnd" "I" (.int (4 : Int32)) ∧ Fld Z h a0 cs0 "escaped" "Z" (.int (0 : Int32)) ∧ Fld Z h a0 cs0 "ascii" "Z" (.int (1 : Int32)) ∧ Fld Z h a0 cs0 "integral" "Z" (.int (1 : Int32))
set_option maxRecDepth 65536 in
set_option maxHeartbeats 40000000 in
theorem rmNe_1_r_1 (l : Launch) (Z : State) (av0 : Array Value) (hw : ∀ d ∈ tables_1, d.before av0 Z = true) (ws : List Jvm.Cond) (a0 : Addr) (ba : Addr) (md : Int32) (dp : Int32) (tk : Addr) (ts : Int32) (xs : Int32) (xe : Int32) (es : Int32) (as_ : Int32) (ig : Int32) (k_ba : ClassId) (s_NUMBER : Addr) (h0 : Heap) (n0 : Nat) (Z0 : n0 ≤ h0.size) (E_a0 : Exa Z h0 a0 cs0) (F_bytes_a0 : Fld Z h0 a0 cs0 "bytes" "[B" (.ref ba)) (F_maxDepth_a0 : Fld Z h0 a0 cs0 "maxDepth" "I" (.int md)) (F_position_a0 : Fld Z h0 a0 cs0 "position" "I" (.int (1 : Int32))) (F_depth_a0 : Fld Z h0 a0 cs0 "depth" "I" (.int dp)) (F_first_a0 : Fld Z h0 a0 cs0 "first" "Z" (.int (1 : Int32))) (F_token_a0 : Fld Z h0 a0 cs0 "token" "Lcom/example/bad_status/badstatus/model/JsonReader$Token;" (.ref tk)) (F_tokenStart_a0 : Fld Z h0 a0 cs0 "tokenStart" "I" (.int ts)) (F_textStart_a0 : Fld Z h0 a0 cs0 "textStart" "I" (.int xs)) (F_textEnd_a0 : Fld Z h0 a0 cs0 "textEnd" "I" (.int xe)) (F_escaped_a0 : Fld Z h0 a0 cs0 "escaped" "Z" (.int es)) (F_ascii_a0 : Fld Z h0 a0 cs0 "ascii" "Z" (.int as_)) (F_integral_a0 : Fld Z h0 a0 cs0 "integral" "Z" (.int ig)) (g_a0 : n0 ≤ a0) (V_ba : Arv Z h0 ba k_ba .byte (10 : Int32) [(.int (91 : Int32)), (.int (32 : Int32)), (.int (52 : Int32)), (.int (50 : Int32)), (.int (44 : Int32)), (.int (91 : Int32)), (.int (116 : Int32)), (.int (114 : Int32)), (.int (117 : Int32)), (.int (101 : Int32))] (.int (0 : Int32))) (ne_ba_a0 : ba ≠ a0) (S_s_NUMBER : Sta Z h0 cs1 "NUMBER" "Lcom/example/bad_status/badstatus/model/JsonReader$Token;" (.ref s_NUMBER)) :
    MetFree l (⟨cs0, "nextElement", "()Lcom/example/bad_status/badstatus/model/JsonReader$Token;"⟩ : MethodName) (head1 (Jvm.Cond.code (⟨cs0, "nextElement", "()Lcom/example/bad_status/badstatus/model/JsonReader$Token;"⟩ : MethodName) prog_11_method_4_code 3 (some (.object cs1)) :: ws) ({ frames := 4, cells := 0, slots := 0, locals := 56 } : Room)) (fun a U => a = #[(.ref a0)] ∧ Z.Warmed39 U.vm ∧ U.heap = h0) (fun _ _ _ _ _ => True) (fun _ U o U' => ∃ v L, o = .returned v ∧ Q_rmNe_1_r_1 Z a0 ba md dp tk ts xs xe es as_ ig k_ba s_NUMBER h0 n0 v U'.heap L ∧ FrameEnd U o U' L ({ frames := 4, cells := 0, slots := 0, locals := 56 } : Room).cells ({ frames := 4, cells := 0, slots := 0, locals := 56 } : Room).slots) := by
  refine MetFree.of_bodySF (plainFor_of_name pn_0) hisR ?_
  intro p e s m args below meth c s₁ Bd hml0 hP hK
  obtain ⟨rfl, hZ, hh⟩ := hP
  have hx := Bd.exec
  have hby := Bd.bytes
  have hml : c.maxLocals = 3 := hml0
  have dd : ∀ {pc : Nat} {r : Except DecodeError (Instr × Nat)}, decode prog_11_method_4_code pc = r → decode c.code pc = r := fun q => hb hby q
  have hown : s.vm.findClass cs0 = some m.cls := findClass_of_methodNamed Bd.named
  have hnm := (name_of_methodNamed Bd.named Bd.method).1
  have X0 : Stand p l e ({ frames := 4, cells := 0, slots := 0, locals := 56 } : Room) s m #[(.ref a0)] below meth c s₁ [] 0 0 := Stand.of_body Bd
  have e0 : s₁.heap = h0 := by rw [← hh, Bd.state]; rfl
  have N0 := Fr.nil n0
  have hret := Bd.returns
  have hlk := Bd.notSynchronized
  show Gz p e below s ({ frames := 4, cells := 0, slots := 0, locals := 56 } : Room).cells ({ frames := 4, cells := 0, slots := 0, locals := 56 } : Room).slots (Q_rmNe_1_r_1 Z a0 ba md dp tk ts xs xe es as_ ig k_ba s_NUMBER h0 n0) (s₁.setTop (entryFrame m #[(.ref a0)] 3))
  refine Gz.enter (ef_rmNe_1_r_1 m a0) ?_
  refine Gz.aloadN 1 X0 hx (dd d7_0) rfl rfl rfl ?_
  obtain ⟨cq1, q1, q1'⟩ := E_a0.cell
  obtain ⟨_, _, ⟨T1, L1, k1, n1⟩, -, X1, ⟨Lc1, hQ1, l1, y1, z1⟩, st1⟩ := X0.privateBack hx (y := ym7) hown (mvT hZ (ww hw 33 rfl)) (mvT hZ (ww hw 34 rfl)) (own_selp (y := ym7) (y' := ym8) rfl (mvT hZ (ww hw 31 rfl)) (mvT hZ (ww hw 30 rfl)) (mvT hZ (ww hw 34 rfl)) (Cond.privateMethod_at (mvP hZ (ww hw 35 rfl) (args := #[]))) (by decide)) (Cond.privateMethod_at (mvP hZ (ww hw 35 rfl) (args := #[]))) (mvT hZ (ww hw 36 rfl)) (by decide) (backOf (W := 0) (rmSw_1_r l Z av0 hw [] a0 ba md dp (1 : Int32) tk ts xs xe es as_ ig k_ba h0 n0 Z0 E_a0 F_bytes_a0 F_maxDepth_a0 F_position_a0 F_depth_a0 F_first_a0 F_token_a0 F_tokenStart_a0 F_textStart_a0 F_textEnd_a0 F_escaped_a0 F_ascii_a0 F_integral_a0 g_a0 V_ba ne_ba_a0) hZ (ww hw 36 rfl) (ww hw 15 rfl) (by decide) (by decide)) (g := (mkF m 1 #[.val (.ref a0), .unset, .unset] [(.ref a0)])) rfl (by rw [hml]; rfl) (Steps.refl _) (a := a0) (by rw [e0]; exact q1) q1' (argsL := []) (rest := []) (lenOf pd_5 rfl) rfl (Nat.le_refl _) (dd d7_1) (fun _ _ => ⟨rfl, e0, (by decide : 0 + 0 ≤ _), (by decide : 0 + 0 ≤ _)⟩)
  dsimp only [Pt.U, Pt.locs, Pt.cells, Pt.slots, Q_rmSw_1_r] at X1 l1 y1 z1 st1 hQ1
  subst l1 y1 z1
  obtain ⟨rfl, N1q, K1q, QE1_0, QF1_0, QF1_1, QF1_2, QF1_3, QF1_4, QF1_5, QF1_6, QF1_7, QF1_8, QF1_9, QF1_10, QF1_11⟩ := hQ1
  have N1 := Fr.app N0 N1q
  have f1_E_a0 := Exa.keep E_a0 K1q
  have f1_V_ba := Arv.keep V_ba K1q (ninS ne_ba_a0 nin0)
  have f1_S_s_NUMBER := own_staK S_s_NUMBER K1q (allS (nst_of E_a0) all0)
  have SZ1 := Nat.le_trans Z0 K1q.1
  have K1 := Keep.trans (Keep.refl h0 [a0]) K1q (allS (Or.inl (List.mem_of_getElem? (i := 0) rfl)) all0)
  refine Gz.tr st1 ?_
  refine Gz.istoreN 5 #[.val (.ref a0), .val (.int (52 : Int32)), .unset] X1 hx (dd d7_4) rfl rfl ?_
  refine Gz.aconstNull 6 X1 hx (dd d7_5) rfl ?_
  refine Gz.astoreN 7 #[.val (.ref a0), .val (.int (52 : Int32)), .val .null] X1 hx (dd d7_6) rfl rfl rfl ?_
  refine Gz.iloadN 8 X1 hx (dd d7_7) rfl rfl ?_
  refine Gz.bipush 10 (93 : Int32) X1 hx (dd d7_8) rfl rfl ?_
  refine Gz.icmpNo 13 X1 hx (dd d7_10) (feq (by decide : ¬ ((52 : Int32) = (93 : Int32)))).1 rfl ?_
  refine Gz.aloadN 14 X1 hx (dd d7_13) rfl rfl rfl ?_
  refine Gz.getF 17 X1 hx hZ hown (dd d7_14) (host := "") (Or.inl (ww hw 49 rfl)) Via.refl rfl QF1_4 rfl fun T2 X2 e2 => ?_
  refine Gz.ifYes 26 X2 hx (dd d7_17) ((if0 _ _).trans (feq (by decide : ¬ ((1 : Int32) = (0 : Int32)))).2) (by decide) (by decide) ?_
  refine Gz.aloadN 27 X2 hx (dd d7_26) rfl rfl rfl ?_
  obtain ⟨cq3, kq3, q3a, q3b, q3c⟩ := isOf hZ e2 QE1_0
  obtain ⟨_, _, ⟨T3, L3, k3, n3⟩, -, X3, ⟨Lc3, hQ3, l3, y3, z3⟩, st3⟩ := X2.virtualBack hx (y := ym8) (z := ym8) hown (mvT hZ (ww hw 58 rfl)) (mvT hZ (ww hw 29 rfl)) (notFace_of_selects (args := #[]) (mvT hZ (ww hw 31 rfl))) (mvT hZ (ww hw 31 rfl)) (mvT hZ (ww hw 30 rfl)) (by decide) (backOf (W := 0) (rmNx_2_r l Z av0 hw [] a0 ba md dp (1 : Int32) tk ts xs xe es as_ ig k_ba s_NUMBER T1.heap n0 SZ1 QE1_0 QF1_0 QF1_1 QF1_2 QF1_3 QF1_4 QF1_5 QF1_6 QF1_7 QF1_8 QF1_9 QF1_10 QF1_11 g_a0 f1_V_ba ne_ba_a0 f1_S_s_NUMBER) hZ (ww hw 32 rfl) (ww hw 15 rfl) (by decide) (by decide)) q3a q3c (g := (mkF m 27 #[.val (.ref a0), .val (.int (52 : Int32)), .val .null] [(.ref a0)])) rfl (by rw [hml]; rfl) (Steps.refl _) (argsL := []) (rest := []) (lenOf pd_8 rfl) rfl (Nat.le_refl _) (dd d7_27) (fun _ _ => ⟨rfl, e2, (by decide : 0 + 0 ≤ _), (by decide : 0 + 0 ≤ _)⟩)
  dsimp only [Pt.U, Pt.locs, Pt.cells, Pt.slots, Q_rmNx_2_r] at X3 l3 y3 z3 st3 hQ3
  subst l3 y3 z3
  obtain ⟨rfl, N3q, K3q, QE3_0, QF3_0, QF3_1, QF3_2, QF3_3, QF3_4, QF3_5, QF3_6, QF3_7, QF3_8, QF3_9, QF3_10, QF3_11⟩ := hQ3
  have N3 := Fr.app N1 N3q
  have f3_E_a0 := Exa.keep QE1_0 K3q
  have f3_V_ba := Arv.keep f1_V_ba K3q (ninS ne_ba_a0 nin0)
  have f3_S_s_NUMBER := own_staK f1_S_s_NUMBER K3q (allS (nst_of QE1_0) all0)
  have SZ3 := Nat.le_trans SZ1 K3q.1
  have K3 := Keep.trans K1 K3q (allS (Or.inl (List.mem_of_getElem? (i := 0) rfl)) all0)
  refine Gz.tr st3 ?_
  refine Gz.astoreN 31 #[.val (.ref a0), .val (.int (52 : Int32)), .val (.ref s_NUMBER)] X3 hx (dd d7_30) rfl rfl rfl ?_
  refine Gz.goto 38 X3 hx (dd d7_31) (by decide) (by decide) ?_
  refine Gz.aloadN 39 X3 hx (dd d7_38) rfl rfl rfl ?_
  refine Gz.fin X3 (v := some (.ref s_NUMBER)) (fun h => by rw [hret] at h; cases h) hlk (by decide) (by decide) (fun fs hr => retA X3 hx hret (dd d7_39) hr rfl rfl) ?_
  exact ⟨rfl, N3, K3, QE3_0, QF3_0, QF3_1, QF3_2, QF3_3, QF3_4, QF3_5, QF3_6, QF3_7, QF3_8, QF3_9, QF3_10, QF3_11⟩
abbrev ym18 : MethodName := ⟨cs0, "nextElement", "()Lcom/example/bad_status/badstatus/model/JsonReader$Token;"⟩
theorem ef_rmSw_4_r (m : MethodId) (a0 : Addr) : entryFrame m #[(.ref a0)] 2 = mkF m 0 #[.val (.ref a0), .unset] [] := by first | (simp [entryFrame, mkF, argsToLocals, Value.category]; done) | rfl
def Q_rmSw_4_r (Z : State) (a0 : Addr) (ba : Addr) (md : Int32) (dp : Int32) (fi : Int32) (tk : Addr) (ts : Int32) (xs : Int32) (xe : Int32) (es : Int32) (as_ : Int32) (ig : Int32) (k_ba : ClassId) (h0 : Heap) (n0 : Nat) (v : Option Value) (h : Heap) (L : List Loc) : Prop := v = some (.int (44 : Int32)) ∧ Fr n0 L ∧ Keep h0 h [a0] ∧ Exa Z h a0 cs0 ∧ Fld Z h a0 cs0 "bytes" "[B" (.ref ba) ∧ Fld Z h a0 cs0 "maxDepth" "I" (.int md) ∧ Fld Z h a0 cs0 "position" "I" (.int (4 : Int32)) ∧ Fld Z h a0 cs0 "depth" "I" (.int dp) ∧ Fld Z h a0 cs0 "first" "Z" (.int fi) ∧ Fld Z h a0 cs0 "token" "Lcom/example/bad_status/badstatus/model/JsonReader$Token;" (.ref tk) ∧ Fld Z h a0 cs0 "tokenStart" "I" (.int ts) ∧ Fld Z h a0 cs0 "textStart" "I" (.int xs) ∧ Fld Z h a0 cs0 "textEnd" "I" (.int xe) ∧ Fld Z h a0 cs0 "escaped" "Z" (.int es) ∧ Fld Z h a0 cs0 "ascii" "Z" (.int as_) ∧ Fld Z h a0 cs0 "integral" "Z" (.int ig)
set_option maxRecDepth 65536 in
set_option maxHeartbeats 40000000 in
theorem rmSw_4_r (l : Launch) (Z : State) (av0 : Array Value) (hw : ∀ d ∈ tables_1, d.before av0 Z = true) (ws : List Jvm.Cond) (a0 : Addr) (ba : Addr) (md : Int32) (dp : Int32) (fi : Int32) (tk : Addr) (ts : Int32) (xs : Int32) (xe : Int32) (es : Int32) (as_ : Int32) (ig : Int32) (k_ba : ClassId) (h0 : Heap) (n0 : Nat) (Z0 : n0 ≤ h0.size) (E_a0 : Exa Z h0 a0 cs0) (F_bytes_a0 : Fld Z h0 a0 cs0 "bytes" "[B" (.ref ba)) (F_maxDepth_a0 : Fld Z h0 a0 cs0 "maxDepth" "I" (.int md)) (F_position_a0 : Fld Z h0 a0 cs0 "position" "I" (.int (4 : Int32))) (F_depth_a0 : Fld Z h0 a0 cs0 "depth" "I" (.int dp)) (F_first_a0 : Fld Z h0 a0 cs0 "first" "Z" (.int fi)) (F_token_a0 : Fld Z h0 a0 cs0 "token" "Lcom/example/bad_status/badstatus/model/JsonReader$Token;" (.ref tk)) (F_tokenStart_a0 : Fld Z h0 a0 cs0 "tokenStart" "I" (.int ts)) (F_textStart_a0 : Fld Z h0 a0 cs0 "textStart" "I" (.int xs)) (F_textEnd_a0 : Fld Z h0 a0 cs0 "textEnd" "I" (.int xe)) (F_escaped_a0 : Fld Z h0 a0 cs0 "escaped" "Z" (.int es)) (F_ascii_a0 : Fld Z h0 a0 cs0 "ascii" "Z" (.int as_)) (F_integral_a0 : Fld Z h0 a0 cs0 "integral" "Z" (.int ig)) (g_a0 : n0 ≤ a0) (V_ba : Arv Z h0 ba k_ba .byte (10 : Int32) [(.int (91 : Int32)), (.int (32 : Int32)), (.int (52 : Int32)), (.int (50 : Int32)), (.int (44 : Int32)), (.int (91 : Int32)), (.int (116 : Int32)), (.int (114 : Int32)), (.int (117 : Int32)), (.int (101 : Int32))] (.int (0 : Int32))) (ne_ba_a0 : ba ≠ a0) :
    MetFree l (⟨cs0, "skipWhitespace", "()I"⟩ : MethodName) (head1 (Jvm.Cond.code (⟨cs0, "skipWhitespace", "()I"⟩ : MethodName) prog_11_method_14_code 2 (some .int) :: ws) ({ frames := 1, cells := 0, slots := 0, locals := 12 } : Room)) (fun a U => a = #[(.ref a0)] ∧ Z.Warmed39 U.vm ∧ U.heap = h0) (fun _ _ _ _ _ => True) (fun _ U o U' => ∃ v L, o = .returned v ∧ Q_rmSw_4_r Z a0 ba md dp fi tk ts xs xe es as_ ig k_ba h0 n0 v U'.heap L ∧ FrameEnd U o U' L ({ frames := 1, cells := 0, slots := 0, locals := 12 } : Room).cells ({ frames := 1, cells := 0, slots := 0, locals := 12 } : Room).slots) := by
  refine MetFree.of_bodySF (plainFor_of_name pn_0) hisR ?_
  intro p e s m args below meth c s₁ Bd hml0 hP hK
  obtain ⟨rfl, hZ, hh⟩ := hP
  have hx := Bd.exec
  have hby := Bd.bytes
  have hml : c.maxLocals = 2 := hml0
  have dd : ∀ {pc : Nat} {r : Except DecodeError (Instr × Nat)}, decode prog_11_method_14_code pc = r → decode c.code pc = r := fun q => hb hby q
  have hown : s.vm.findClass cs0 = some m.cls := findClass_of_methodNamed Bd.named
  have hnm := (name_of_methodNamed Bd.named Bd.method).1
  have X0 : Stand p l e ({ frames := 1, cells := 0, slots := 0, locals := 12 } : Room) s m #[(.ref a0)] below meth c s₁ [] 0 0 := Stand.of_body Bd
  have e0 : s₁.heap = h0 := by rw [← hh, Bd.state]; rfl
  have N0 := Fr.nil n0
  have hret := Bd.returns
  have hlk := Bd.notSynchronized
  show Gz p e below s ({ frames := 1, cells := 0, slots := 0, locals := 12 } : Room).cells ({ frames := 1, cells := 0, slots := 0, locals := 12 } : Room).slots (Q_rmSw_4_r Z a0 ba md dp fi tk ts xs xe es as_ ig k_ba h0 n0) (s₁.setTop (entryFrame m #[(.ref a0)] 2))
  refine Gz.enter (ef_rmSw_4_r m a0) ?_
  refine Gz.aloadN 1 X0 hx (dd d4_0) rfl rfl rfl ?_
  refine Gz.getF 4 X0 hx hZ hown (dd d4_1) (host := "") (Or.inl (ww hw 24 rfl)) Via.refl e0 F_position_a0 rfl fun T1 X1 e1 => ?_
  refine Gz.istoreN 5 #[.val (.ref a0), .val (.int (4 : Int32))] X1 hx (dd d4_4) rfl rfl ?_
  refine Gz.iloadN 6 X1 hx (dd d4_5) rfl rfl ?_
  refine Gz.aloadN 7 X1 hx (dd d4_6) rfl rfl rfl ?_
  refine Gz.getF 10 X1 hx hZ hown (dd d4_7) (host := "") (Or.inl (ww hw 22 rfl)) Via.refl e1 F_bytes_a0 rfl fun T2 X2 e2 => ?_
  obtain ⟨c3, A3, -, S3, N3, -, -⟩ := id V_ba
  refine Gz.alen 11 X2 hx hZ (dd d4_10) e2 A3 S3 N3 rfl ?_
  refine Gz.icmpNo 14 X2 hx (dd d4_11) (tlt (by decide : (4 : Int32) < (10 : Int32))).2.1 rfl ?_
  refine Gz.aloadN 15 X2 hx (dd d4_14) rfl rfl rfl ?_
  refine Gz.getF 18 X2 hx hZ hown (dd d4_15) (host := "") (Or.inl (ww hw 22 rfl)) Via.refl e2 F_bytes_a0 rfl fun T4 X4 e4 => ?_
  refine Gz.iloadN 19 X4 hx (dd d4_18) rfl rfl ?_
  obtain ⟨c5, A5, q5, S5, N5, H5, G5⟩ := id V_ba
  have hin5 : ¬ ((4 : Int32) < 0 ∨ c5.slots.size ≤ ((4 : Int32)).toNatClampNeg) := inb_of S5 ⟨by decide, by decide⟩
  refine Gz.ldB 20 X4 hx hZ (dd d4_19) e4 A5 hin5 (Has.at H5 hin5 (rfl : _ = ((.int (44 : Int32)) : Value))) rfl ?_
  obtain ⟨_, _, ⟨T6, L6, k6, n6⟩, -, X6, ⟨Lc6, hQ6, l6, y6, z6⟩, st6⟩ := Jvm.LawKit.callS X4 hx (y := ym6) hown (mvT hZ (ww hw 37 rfl)) (mvT hZ (ww hw 38 rfl)) (mvT hZ (ww hw 15 rfl)) (mvT hZ (ww hw 39 rfl)) (by decide) (backOf (W := 0) (rm5 l Z av0 hw [] (44 : Int32)  h0 n0 Z0 ) hZ (ww hw 39 rfl) (ww hw 15 rfl) (by decide) (by decide)) (g := (mkF m 20 #[.val (.ref a0), .val (.int (4 : Int32))] [(.int (44 : Int32))])) rfl (by rw [hml]; rfl) (argsL := [(.int (44 : Int32))]) (rest := []) (lenOf pd_6 rfl) rfl (Nat.le_refl _) (dd d4_20) (fun _ _ => ⟨rfl, e4, (by decide : 0 + 0 ≤ _), (by decide : 0 + 0 ≤ _)⟩)
  dsimp only [Pt.U, Pt.locs, Pt.cells, Pt.slots, Q_rm5] at X6 l6 y6 z6 st6 hQ6
  subst l6 y6 z6
  rw [show (fWs (44 : Int32)) = (0 : Int32) from (by unfold fWs; rw [if_pos (by decide : (32 : Int32) < (44 : Int32))]; try decide)] at hQ6
  obtain ⟨rfl, N6q, e6⟩ := hQ6
  have N6 := Fr.app N0 N6q
  refine Gz.st st6 ?_
  refine Gz.ifYes 32 X6 hx (dd d4_23) ((if0 _ _).trans (teq (by decide : (0 : Int32) = (0 : Int32))).1) (by decide) (by decide) ?_
  refine Gz.aloadN 33 X6 hx (dd d4_32) rfl rfl rfl ?_
  refine Gz.iloadN 34 X6 hx (dd d4_33) rfl rfl ?_
  refine Gz.putF 37 X6 hx hZ hown .int (dd d4_34) (host := "") (Or.inl (ww hw 24 rfl)) Via.refl e6 F_position_a0 E_a0 (Or.inl (ww hw 25 rfl)) (ww hw 14 rfl) (by decide) rfl rfl rfl fun T7 h7 X7 e7 W7 => ?_
  have f7_E_a0 := Exa.wr W7 E_a0
  have f7_F_bytes_a0 := Fld.other W7 F_bytes_a0 (Or.inr (Ne.symm <| sn1 hw))
  have f7_F_maxDepth_a0 := Fld.other W7 F_maxDepth_a0 (Or.inr (sn11 hw))
  have f7_F_depth_a0 := Fld.other W7 F_depth_a0 (Or.inr (sn12 hw))
  have f7_F_first_a0 := Fld.other W7 F_first_a0 (Or.inr (sn13 hw))
  have f7_F_token_a0 := Fld.other W7 F_token_a0 (Or.inr (sn14 hw))
  have f7_F_tokenStart_a0 := Fld.other W7 F_tokenStart_a0 (Or.inr (sn15 hw))
  have f7_F_textStart_a0 := Fld.other W7 F_textStart_a0 (Or.inr (sn16 hw))
  have f7_F_textEnd_a0 := Fld.other W7 F_textEnd_a0 (Or.inr (sn17 hw))
  have f7_F_escaped_a0 := Fld.other W7 F_escaped_a0 (Or.inr (sn18 hw))
  have f7_F_ascii_a0 := Fld.other W7 F_ascii_a0 (Or.inr (sn19 hw))
  have f7_F_integral_a0 := Fld.other W7 F_integral_a0 (Or.inr (sn20 hw))
  have f7_V_ba := Arv.other V_ba W7 ne_ba_a0
  have f7_F_position_a0 := Fld.same W7 F_position_a0
  have N7 := Fr.snoc X7 N6 g_a0
  have SZ7 : n0 ≤ h7.size := Nat.le_trans Z0 (Keep.of_wr W7).1
  have K7 := Keep.wr (Keep.refl h0 [a0]) W7 (Or.inl (List.mem_of_getElem? (i := 0) rfl))
  refine Gz.iloadN 38 X7 hx (dd d4_37) rfl rfl ?_
  refine Gz.aloadN 39 X7 hx (dd d4_38) rfl rfl rfl ?_
  refine Gz.getF 42 X7 hx hZ hown (dd d4_39) (host := "") (Or.inl (ww hw 22 rfl)) Via.refl e7 f7_F_bytes_a0 rfl fun T8 X8 e8 => ?_
  obtain ⟨c9, A9, -, S9, N9, -, -⟩ := id f7_V_ba
  refine Gz.alen 43 X8 hx hZ (dd d4_42) e8 A9 S9 N9 rfl ?_
  refine Gz.icmpNo 46 X8 hx (dd d4_43) (tlt (by decide : (4 : Int32) < (10 : Int32))).2.1 rfl ?_
  refine Gz.aloadN 47 X8 hx (dd d4_46) rfl rfl rfl ?_
  refine Gz.getF 50 X8 hx hZ hown (dd d4_47) (host := "") (Or.inl (ww hw 22 rfl)) Via.refl e8 f7_F_bytes_a0 rfl fun T10 X10 e10 => ?_
  refine Gz.iloadN 51 X10 hx (dd d4_50) rfl rfl ?_
  obtain ⟨c11, A11, q11, S11, N11, H11, G11⟩ := id f7_V_ba
  have hin11 : ¬ ((4 : Int32) < 0 ∨ c11.slots.size ≤ ((4 : Int32)).toNatClampNeg) := inb_of S11 ⟨by decide, by decide⟩
  refine Gz.ldB 52 X10 hx hZ (dd d4_51) e10 A11 hin11 (Has.at H11 hin11 (rfl : _ = ((.int (44 : Int32)) : Value))) rfl ?_
  refine Gz.sipush 55 (255 : Int32) X10 hx (dd d4_52) rfl rfl ?_
  refine Gz.iandV 56 (44 : Int32) X10 hx (dd d4_55) rfl rfl ?_
  refine Gz.goto 60 X10 hx (dd d4_56) (by decide) (by decide) ?_
  refine Gz.fin X10 (v := some (.int (44 : Int32))) (fun h => by rw [hret] at h; cases h) hlk (by decide) (by decide) (fun fs hr => retI X10 hx hret (dd d4_60) hr) ?_
  rw [e10]
  exact ⟨rfl, N7, K7, f7_E_a0, f7_F_bytes_a0, f7_F_maxDepth_a0, f7_F_position_a0, f7_F_depth_a0, f7_F_first_a0, f7_F_token_a0, f7_F_tokenStart_a0, f7_F_textStart_a0, f7_F_textEnd_a0, f7_F_escaped_a0, f7_F_ascii_a0, f7_F_integral_a0⟩
theorem ef_rmSw_5_r (m : MethodId) (a0 : Addr) : entryFrame m #[(.ref a0)] 2 = mkF m 0 #[.val (.ref a0), .unset] [] := by first | (simp [entryFrame, mkF, argsToLocals, Value.category]; done) | rfl
def Q_rmSw_5_r (Z : State) (a0 : Addr) (ba : Addr) (md : Int32) (dp : Int32) (fi : Int32) (tk : Addr) (ts : Int32) (xs : Int32) (xe : Int32) (es : Int32) (as_ : Int32) (ig : Int32) (k_ba : ClassId) (h0 : Heap) (n0 : Nat) (v : Option Value) (h : Heap) (L : List Loc) : Prop := v = some (.int (91 : Int32)) ∧ Fr n0 L ∧ Keep h0 h [a0] ∧ Exa Z h a0 cs0 ∧ Fld Z h a0 cs0 "bytes" "[B" (.ref ba) ∧ Fld Z h a0 cs0 "maxDepth" "I" (.int md) ∧ Fld Z h a0 cs0 "position" "I" (.int (5 : Int32)) ∧ Fld Z h a0 cs0 "depth" "I" (.int dp) ∧ Fld Z h a0 cs0 "first" "Z" (.int fi) ∧ Fld Z h a0 cs0 "token" "Lcom/example/bad_status/badstatus/model/JsonReader$Token;" (.ref tk) ∧ Fld Z h a0 cs0 "tokenStart" "I" (.int ts) ∧ Fld Z h a0 cs0 "textStart" "I" (.int xs) ∧ Fld Z h a0 cs0 "textEnd" "I" (.int xe) ∧ Fld Z h a0 cs0 "escaped" "Z" (.int es) ∧ Fld Z h a0 cs0 "ascii" "Z" (.int as_) ∧ Fld Z h a0 cs0 "integral" "Z" (.int ig)
set_option maxRecDepth 65536 in
set_option maxHeartbeats 40000000 in
theorem rmSw_5_r (l : Launch) (Z : State) (av0 : Array Value) (hw : ∀ d ∈ tables_1, d.before av0 Z = true) (ws : List Jvm.Cond) (a0 : Addr) (ba : Addr) (md : Int32) (dp : Int32) (fi : Int32) (tk : Addr) (ts : Int32) (xs : Int32) (xe : Int32) (es : Int32) (as_ : Int32) (ig : Int32) (k_ba : ClassId) (h0 : Heap) (n0 : Nat) (Z0 : n0 ≤ h0.size) (E_a0 : Exa Z h0 a0 cs0) (F_bytes_a0 : Fld Z h0 a0 cs0 "bytes" "[B" (.ref ba)) (F_maxDepth_a0 : Fld Z h0 a0 cs0 "maxDepth" "I" (.int md)) (F_position_a0 : Fld Z h0 a0 cs0 "position" "I" (.int (5 : Int32))) (F_depth_a0 : Fld Z h0 a0 cs0 "depth" "I" (.int dp)) (F_first_a0 : Fld Z h0 a0 cs0 "first" "Z" (.int fi)) (F_token_a0 : Fld Z h0 a0 cs0 "token" "Lcom/example/bad_status/badstatus/model/JsonReader$Token;" (.ref tk)) (F_tokenStart_a0 : Fld Z h0 a0 cs0 "tokenStart" "I" (.int ts)) (F_textStart_a0 : Fld Z h0 a0 cs0 "textStart" "I" (.int xs)) (F_textEnd_a0 : Fld Z h0 a0 cs0 "textEnd" "I" (.int xe)) (F_escaped_a0 : Fld Z h0 a0 cs0 "escaped" "Z" (.int es)) (F_ascii_a0 : Fld Z h0 a0 cs0 "ascii" "Z" (.int as_)) (F_integral_a0 : Fld Z h0 a0 cs0 "integral" "Z" (.int ig)) (g_a0 : n0 ≤ a0) (V_ba : Arv Z h0 ba k_ba .byte (10 : Int32) [(.int (91 : Int32)), (.int (32 : Int32)), (.int (52 : Int32)), (.int (50 : Int32)), (.int (44 : Int32)), (.int (91 : Int32)), (.int (116 : Int32)), (.int (114 : Int32)), (.int (117 : Int32)), (.int (101 : Int32))] (.int (0 : Int32))) (ne_ba_a0 : ba ≠ a0) :
    MetFree l (⟨cs0, "skipWhitespace", "()I"⟩ : MethodName) (head1 (Jvm.Cond.code (⟨cs0, "skipWhitespace", "()I"⟩ : MethodName) prog_11_method_14_code 2 (some .int) :: ws) ({ frames := 1, cells := 0, slots := 0, locals := 12 } : Room)) (fun a U => a = #[(.ref a0)] ∧ Z.Warmed39 U.vm ∧ U.heap = h0) (fun _ _ _ _ _ => True) (fun _ U o U' => ∃ v L, o = .returned v ∧ Q_rmSw_5_r Z a0 ba md dp fi tk ts xs xe es as_ ig k_ba h0 n0 v U'.heap L ∧ FrameEnd U o U' L ({ frames := 1, cells := 0, slots := 0, locals := 12 } : Room).cells ({ frames := 1, cells := 0, slots := 0, locals := 12 } : Room).slots) := by
  refine MetFree.of_bodySF (plainFor_of_name pn_0) hisR ?_
  intro p e s m args below meth c s₁ Bd hml0 hP hK
  obtain ⟨rfl, hZ, hh⟩ := hP
  have hx := Bd.exec
  have hby := Bd.bytes
  have hml : c.maxLocals = 2 := hml0
  have dd : ∀ {pc : Nat} {r : Except DecodeError (Instr × Nat)}, decode prog_11_method_14_code pc = r → decode c.code pc = r := fun q => hb hby q
  have hown : s.vm.findClass cs0 = some m.cls := findClass_of_methodNamed Bd.named
  have hnm := (name_of_methodNamed Bd.named Bd.method).1
  have X0 : Stand p l e ({ frames := 1, cells := 0, slots := 0, locals := 12 } : Room) s m #[(.ref a0)] below meth c s₁ [] 0 0 := Stand.of_body Bd
  have e0 : s₁.heap = h0 := by rw [← hh, Bd.state]; rfl
  have N0 := Fr.nil n0
  have hret := Bd.returns
  have hlk := Bd.notSynchronized
  show Gz p e below s ({ frames := 1, cells := 0, slots := 0, locals := 12 } : Room).cells ({ frames := 1, cells := 0, slots := 0, locals := 12 } : Room).slots (Q_rmSw_5_r Z a0 ba md dp fi tk ts xs xe es as_ ig k_ba h0 n0) (s₁.setTop (entryFrame m #[(.ref a0)] 2))
  refine Gz.enter (ef_rmSw_5_r m a0) ?_
  refine Gz.aloadN 1 X0 hx (dd d4_0) rfl rfl rfl ?_
  refine Gz.getF 4 X0 hx hZ hown (dd d4_1) (host := "") (Or.inl (ww hw 24 rfl)) Via.refl e0 F_position_a0 rfl fun T1 X1 e1 => ?_
  refine Gz.istoreN 5 #[.val (.ref a0), .val (.int (5 : Int32))] X1 hx (dd d4_4) rfl rfl ?_
  refine Gz.iloadN 6 X1 hx (dd d4_5) rfl rfl ?_
  refine Gz.aloadN 7 X1 hx (dd d4_6) rfl rfl rfl ?_
  refine Gz.getF 10 X1 hx hZ hown (dd d4_7) (host := "") (Or.inl (ww hw 22 rfl)) Via.refl e1 F_bytes_a0 rfl fun T2 X2 e2 => ?_
  obtain ⟨c3, A3, -, S3, N3, -, -⟩ := id V_ba
  refine Gz.alen 11 X2 hx hZ (dd d4_10) e2 A3 S3 N3 rfl ?_
  refine Gz.icmpNo 14 X2 hx (dd d4_11) (tlt (by decide : (5 : Int32) < (10 : Int32))).2.1 rfl ?_
  refine Gz.aloadN 15 X2 hx (dd d4_14) rfl rfl rfl ?_
  refine Gz.getF 18 X2 hx hZ hown (dd d4_15) (host := "") (Or.inl (ww hw 22 rfl)) Via.refl e2 F_bytes_a0 rfl fun T4 X4 e4 => ?_
  refine Gz.iloadN 19 X4 hx (dd d4_18) rfl rfl ?_
  obtain ⟨c5, A5, q5, S5, N5, H5, G5⟩ := id V_ba
  have hin5 : ¬ ((5 : Int32) < 0 ∨ c5.slots.size ≤ ((5 : Int32)).toNatClampNeg) := inb_of S5 ⟨by decide, by decide⟩
  refine Gz.ldB 20 X4 hx hZ (dd d4_19) e4 A5 hin5 (Has.at H5 hin5 (rfl : _ = ((.int (91 : Int32)) : Value))) rfl ?_
  obtain ⟨_, _, ⟨T6, L6, k6, n6⟩, -, X6, ⟨Lc6, hQ6, l6, y6, z6⟩, st6⟩ := Jvm.LawKit.callS X4 hx (y := ym6) hown (mvT hZ (ww hw 37 rfl)) (mvT hZ (ww hw 38 rfl)) (mvT hZ (ww hw 15 rfl)) (mvT hZ (ww hw 39 rfl)) (by decide) (backOf (W := 0) (rm5 l Z av0 hw [] (91 : Int32)  h0 n0 Z0 ) hZ (ww hw 39 rfl) (ww hw 15 rfl) (by decide) (by decide)) (g := (mkF m 20 #[.val (.ref a0), .val (.int (5 : Int32))] [(.int (91 : Int32))])) rfl (by rw [hml]; rfl) (argsL := [(.int (91 : Int32))]) (rest := []) (lenOf pd_6 rfl) rfl (Nat.le_refl _) (dd d4_20) (fun _ _ => ⟨rfl, e4, (by decide : 0 + 0 ≤ _), (by decide : 0 + 0 ≤ _)⟩)
  dsimp only [Pt.U, Pt.locs, Pt.cells, Pt.slots, Q_rm5] at X6 l6 y6 z6 st6 hQ6
  subst l6 y6 z6
  rw [show (fWs (91 : Int32)) = (0 : Int32) from (by unfold fWs; rw [if_pos (by decide : (32 : Int32) < (91 : Int32))]; try decide)] at hQ6
  obtain ⟨rfl, N6q, e6⟩ := hQ6
  have N6 := Fr.app N0 N6q
  refine Gz.st st6 ?_
  refine Gz.ifYes 32 X6 hx (dd d4_23) ((if0 _ _).trans (teq (by decide : (0 : Int32) = (0 : Int32))).1) (by decide) (by decide) ?_
  refine Gz.aloadN 33 X6 hx (dd d4_32) rfl rfl rfl ?_
  refine Gz.iloadN 34 X6 hx (dd d4_33) rfl rfl ?_
  refine Gz.putF 37 X6 hx hZ hown .int (dd d4_34) (host := "") (Or.inl (ww hw 24 rfl)) Via.refl e6 F_position_a0 E_a0 (Or.inl (ww hw 25 rfl)) (ww hw 14 rfl) (by decide) rfl rfl rfl fun T7 h7 X7 e7 W7 => ?_
  have f7_E_a0 := Exa.wr W7 E_a0
  have f7_F_bytes_a0 := Fld.other W7 F_bytes_a0 (Or.inr (Ne.symm <| sn1 hw))
  have f7_F_maxDepth_a0 := Fld.other W7 F_maxDepth_a0 (Or.inr (sn11 hw))
  have f7_F_depth_a0 := Fld.other W7 F_depth_a0 (Or.inr (sn12 hw))
  have f7_F_first_a0 := Fld.other W7 F_first_a0 (Or.inr (sn13 hw))
  have f7_F_token_a0 := Fld.other W7 F_token_a0 (Or.inr (sn14 hw))
  have f7_F_tokenStart_a0 := Fld.other W7 F_tokenStart_a0 (Or.inr (sn15 hw))
  have f7_F_textStart_a0 := Fld.other W7 F_textStart_a0 (Or.inr (sn16 hw))
  have f7_F_textEnd_a0 := Fld.other W7 F_textEnd_a0 (Or.inr (sn17 hw))
  have f7_F_escaped_a0 := Fld.other W7 F_escaped_a0 (Or.inr (sn18 hw))
  have f7_F_ascii_a0 := Fld.other W7 F_ascii_a0 (Or.inr (sn19 hw))
  have f7_F_integral_a0 := Fld.other W7 F_integral_a0 (Or.inr (sn20 hw))
  have f7_V_ba := Arv.other V_ba W7 ne_ba_a0
  have f7_F_position_a0 := Fld.same W7 F_position_a0
  have N7 := Fr.snoc X7 N6 g_a0
  have SZ7 : n0 ≤ h7.size := Nat.le_trans Z0 (Keep.of_wr W7).1
  have K7 := Keep.wr (Keep.refl h0 [a0]) W7 (Or.inl (List.mem_of_getElem? (i := 0) rfl))
  refine Gz.iloadN 38 X7 hx (dd d4_37) rfl rfl ?_
  refine Gz.aloadN 39 X7 hx (dd d4_38) rfl rfl rfl ?_
  refine Gz.getF 42 X7 hx hZ hown (dd d4_39) (host := "") (Or.inl (ww hw 22 rfl)) Via.refl e7 f7_F_bytes_a0 rfl fun T8 X8 e8 => ?_
  obtain ⟨c9, A9, -, S9, N9, -, -⟩ := id f7_V_ba
  refine Gz.alen 43 X8 hx hZ (dd d4_42) e8 A9 S9 N9 rfl ?_
  refine Gz.icmpNo 46 X8 hx (dd d4_43) (tlt (by decide : (5 : Int32) < (10 : Int32))).2.1 rfl ?_
  refine Gz.aloadN 47 X8 hx (dd d4_46) rfl rfl rfl ?_
  refine Gz.getF 50 X8 hx hZ hown (dd d4_47) (host := "") (Or.inl (ww hw 22 rfl)) Via.refl e8 f7_F_bytes_a0 rfl fun T10 X10 e10 => ?_
  refine Gz.iloadN 51 X10 hx (dd d4_50) rfl rfl ?_
  obtain ⟨c11, A11, q11, S11, N11, H11, G11⟩ := id f7_V_ba
  have hin11 : ¬ ((5 : Int32) < 0 ∨ c11.slots.size ≤ ((5 : Int32)).toNatClampNeg) := inb_of S11 ⟨by decide, by decide⟩
  refine Gz.ldB 52 X10 hx hZ (dd d4_51) e10 A11 hin11 (Has.at H11 hin11 (rfl : _ = ((.int (91 : Int32)) : Value))) rfl ?_
  refine Gz.sipush 55 (255 : Int32) X10 hx (dd d4_52) rfl rfl ?_
  refine Gz.iandV 56 (91 : Int32) X10 hx (dd d4_55) rfl rfl ?_
  refine Gz.goto 60 X10 hx (dd d4_56) (by decide) (by decide) ?_
  refine Gz.fin X10 (v := some (.int (91 : Int32))) (fun h => by rw [hret] at h; cases h) hlk (by decide) (by decide) (fun fs hr => retI X10 hx hret (dd d4_60) hr) ?_
  rw [e10]
  exact ⟨rfl, N7, K7, f7_E_a0, f7_F_bytes_a0, f7_F_maxDepth_a0, f7_F_position_a0, f7_F_depth_a0, f7_F_first_a0, f7_F_token_a0, f7_F_tokenStart_a0, f7_F_textStart_a0, f7_F_textEnd_a0, f7_F_escaped_a0, f7_F_ascii_a0, f7_F_integral_a0⟩
theorem d17_0 : decode prog_11_method_16_code 0 = .ok (.iload_n 1, 1) := by decide +kernel
theorem d17_1 : decode prog_11_method_16_code 1 = .ok (.bipush 44, 2) := by decide +kernel
theorem d17_3 : decode prog_11_method_16_code 3 = .ok (.if_icmp .eq 8, 3) := by decide +kernel
theorem d17_11 : decode prog_11_method_16_code 11 = .ok (.aload_n 0, 1) := by decide +kernel
theorem d17_12 : decode prog_11_method_16_code 12 = .ok (.dup, 1) := by decide +kernel
theorem d17_13 : decode prog_11_method_16_code 13 = .ok (.getfield 15, 3) := by decide +kernel
theorem d17_16 : decode prog_11_method_16_code 16 = .ok (.iconst 1, 1) := by decide +kernel
theorem d17_17 : decode prog_11_method_16_code 17 = .ok (.iadd, 1) := by decide +kernel
theorem d17_18 : decode prog_11_method_16_code 18 = .ok (.putfield 15, 3) := by decide +kernel
theorem d17_21 : decode prog_11_method_16_code 21 = .ok (.aload_n 0, 1) := by decide +kernel
theorem d17_22 : decode prog_11_method_16_code 22 = .ok (.invokevirtual 22, 3) := by decide +kernel
theorem d17_25 : decode prog_11_method_16_code 25 = .ok (.ireturn, 1) := by decide +kernel
theorem ef_rmPc_4_r (m : MethodId) (a0 : Addr) : entryFrame m #[(.ref a0), (.int (44 : Int32))] 2 = mkF m 0 #[.val (.ref a0), .val (.int (44 : Int32))] [] := by first | (simp [entryFrame, mkF, argsToLocals, Value.category]; done) | rfl
def Q_rmPc_4_r (Z : State) (a0 : Addr) (ba : Addr) (md : Int32) (dp : Int32) (fi : Int32) (tk : Addr) (ts : Int32) (xs : Int32) (xe : Int32) (es : Int32) (as_ : Int32) (ig : Int32) (k_ba : ClassId) (h0 : Heap) (n0 : Nat) (v : Option Value) (h : Heap) (L : List Loc) : Prop := v = some (.int (91 : Int32)) ∧ Fr n0 L ∧ Keep h0 h [a0] ∧ Exa Z h a0 cs0 ∧ Fld Z h a0 cs0 "bytes" "[B" (.ref ba) ∧ Fld Z h a0 cs0 "maxDepth" "I" (.int md) ∧ Fld Z h a0 cs0 "position" "I" (.int (5 : Int32)) ∧ Fld Z h a0 cs0 "depth" "I" (.int dp) ∧ Fld Z h a0 cs0 "first" "Z" (.int fi) ∧ Fld Z h a0 cs0 "token" "Lcom/example/bad_status/badstatus/model/JsonReader$Token;" (.ref tk) ∧ Fld Z h a0 cs0 "tokenStart" "I" (.int ts) ∧ Fld Z h a0 cs0 "textStart" "I" (.int xs) ∧ Fld Z h a0 cs0 "textEnd" "I" (.int xe) ∧ Fld Z h a0 cs0 "escaped" "Z" (.int es) ∧ Fld Z h a0 cs0 "ascii" "Z" (.int as_) ∧ Fld Z h a0 cs0 "integral" "Z" (.int ig)
set_option maxRecDepth 65536 in
set_option maxHeartbeats 40000000 in
theorem rmPc_4_r (l : Launch) (Z : State) (av0 : Array Value) (hw : ∀ d ∈ tables_1, d.before av0 Z = true) (ws : List Jvm.Cond) (a0 : Addr) (ba : Addr) (md : Int32) (dp : Int32) (fi : Int32) (tk : Addr) (ts : Int32) (xs : Int32) (xe : Int32) (es : Int32) (as_ : Int32) (ig : Int32) (k_ba : ClassId) (h0 : Heap) (n0 : Nat) (Z0 : n0 ≤ h0.size) (E_a0 : Exa Z h0 a0 cs0) (F_bytes_a0 : Fld Z h0 a0 cs0 "bytes" "[B" (.ref ba)) (F_maxDepth_a0 : Fld Z h0 a0 cs0 "maxDepth" "I" (.int md)) (F_position_a0 : Fld Z h0 a0 cs0 "position" "I" (.int (4 : Int32))) (F_depth_a0 : Fld Z h0 a0 cs0 "depth" "I" (.int dp)) (F_first_a0 : Fld Z h0 a0 cs0 "first" "Z" (.int fi)) (F_token_a0 : Fld Z h0 a0 cs0 "token" "Lcom/example/bad_status/badstatus/model/JsonReader$Token;" (.ref tk)) (F_tokenStart_a0 : Fld Z h0 a0 cs0 "tokenStart" "I" (.int ts)) (F_textStart_a0 : Fld Z h0 a0 cs0 "textStart" "I" (.int xs)) (F_textEnd_a0 : Fld Z h0 a0 cs0 "textEnd" "I" (.int xe)) (F_escaped_a0 : Fld Z h0 a0 cs0 "escaped" "Z" (.int es)) (F_ascii_a0 : Fld Z h0 a0 cs0 "ascii" "Z" (.int as_)) (F_integral_a0 : Fld Z h0 a0 cs0 "integral" "Z" (.int ig)) (g_a0 : n0 ≤ a0) (V_ba : Arv Z h0 ba k_ba .byte (10 : Int32) [(.int (91 : Int32)), (.int (32 : Int32)), (.int (52 : Int32)), (.int (50 : Int32)), (.int (44 : Int32)), (.int (91 : Int32)), (.int (116 : Int32)), (.int (114 : Int32)), (.int (117 : Int32)), (.int (101 : Int32))] (.int (0 : Int32))) (ne_ba_a0 : ba ≠ a0) :
    MetFree l (⟨cs0, "pastComma", "(I)I"⟩ : MethodName) (head1 (Jvm.Cond.code (⟨cs0, "pastComma", "(I)I"⟩ : MethodName) prog_11_method_16_code 2 (some .int) :: ws) ({ frames := 2, cells := 0, slots := 0, locals := 25 } : Room)) (fun a U => a = #[(.ref a0), (.int (44 : Int32))] ∧ Z.Warmed39 U.vm ∧ U.heap = h0) (fun _ _ _ _ _ => True) (fun _ U o U' => ∃ v L, o = .returned v ∧ Q_rmPc_4_r Z a0 ba md dp fi tk ts xs xe es as_ ig k_ba h0 n0 v U'.heap L ∧ FrameEnd U o U' L ({ frames := 2, cells := 0, slots := 0, locals := 25 } : Room).cells ({ frames := 2, cells := 0, slots := 0, locals := 25 } : Room).slots) := by
  refine MetFree.of_bodySF (plainFor_of_name pn_0) hisR ?_
  intro p e s m args below meth c s₁ Bd hml0 hP hK
  obtain ⟨rfl, hZ, hh⟩ := hP
  have hx := Bd.exec
  have hby := Bd.bytes
  have hml : c.maxLocals = 2 := hml0
  have dd : ∀ {pc : Nat} {r : Except DecodeError (Instr × Nat)}, decode prog_11_method_16_code pc = r → decode c.code pc = r := fun q => hb hby q
  have hown : s.vm.findClass cs0 = some m.cls := findClass_of_methodNamed Bd.named
  have hnm := (name_of_methodNamed Bd.named Bd.method).1
  have X0 : Stand p l e ({ frames := 2, cells := 0, slots := 0, locals := 25 } : Room) s m #[(.ref a0), (.int (44 : Int32))] below meth c s₁ [] 0 0 := Stand.of_body Bd
  have e0 : s₁.heap = h0 := by rw [← hh, Bd.state]; rfl
  have N0 := Fr.nil n0
  have hret := Bd.returns
  have hlk := Bd.notSynchronized
  show Gz p e below s ({ frames := 2, cells := 0, slots := 0, locals := 25 } : Room).cells ({ frames := 2, cells := 0, slots := 0, locals := 25 } : Room).slots (Q_rmPc_4_r Z a0 ba md dp fi tk ts xs xe es as_ ig k_ba h0 n0) (s₁.setTop (entryFrame m #[(.ref a0), (.int (44 : Int32))] 2))
  refine Gz.enter (ef_rmPc_4_r m a0) ?_
  refine Gz.iloadN 1 X0 hx (dd d17_0) rfl rfl ?_
  refine Gz.bipush 3 (44 : Int32) X0 hx (dd d17_1) rfl rfl ?_
  refine Gz.icmpYes 11 X0 hx (dd d17_3) (teq (by decide : (44 : Int32) = (44 : Int32))).1 (by decide) (by decide) ?_
  refine Gz.aloadN 12 X0 hx (dd d17_11) rfl rfl rfl ?_
  refine Gz.dup 13 X0 hx (dd d17_12) rfl rfl ?_
  refine Gz.getF 16 X0 hx hZ hown (dd d17_13) (host := "") (Or.inl (ww hw 24 rfl)) Via.refl e0 F_position_a0 rfl fun T1 X1 e1 => ?_
  refine Gz.iconst 17 (1 : Int32) X1 hx (dd d17_16) rfl rfl ?_
  refine Gz.iaddV 18 (5 : Int32) X1 hx (dd d17_17) rfl rfl ?_
  refine Gz.putF 21 X1 hx hZ hown .int (dd d17_18) (host := "") (Or.inl (ww hw 24 rfl)) Via.refl e1 F_position_a0 E_a0 (Or.inl (ww hw 25 rfl)) (ww hw 14 rfl) (by decide) rfl rfl rfl fun T2 h2 X2 e2 W2 => ?_
  have f2_E_a0 := Exa.wr W2 E_a0
  have f2_F_bytes_a0 := Fld.other W2 F_bytes_a0 (Or.inr (Ne.symm <| sn1 hw))
  have f2_F_maxDepth_a0 := Fld.other W2 F_maxDepth_a0 (Or.inr (sn11 hw))
  have f2_F_depth_a0 := Fld.other W2 F_depth_a0 (Or.inr (sn12 hw))
  have f2_F_first_a0 := Fld.other W2 F_first_a0 (Or.inr (sn13 hw))
  have f2_F_token_a0 := Fld.other W2 F_token_a0 (Or.inr (sn14 hw))
  have f2_F_tokenStart_a0 := Fld.other W2 F_tokenStart_a0 (Or.inr (sn15 hw))
  have f2_F_textStart_a0 := Fld.other W2 F_textStart_a0 (Or.inr (sn16 hw))
  have f2_F_textEnd_a0 := Fld.other W2 F_textEnd_a0 (Or.inr (sn17 hw))
  have f2_F_escaped_a0 := Fld.other W2 F_escaped_a0 (Or.inr (sn18 hw))
  have f2_F_ascii_a0 := Fld.other W2 F_ascii_a0 (Or.inr (sn19 hw))
  have f2_F_integral_a0 := Fld.other W2 F_integral_a0 (Or.inr (sn20 hw))
  have f2_V_ba := Arv.other V_ba W2 ne_ba_a0
  have f2_F_position_a0 := Fld.same W2 F_position_a0
  have N2 := Fr.snoc X2 N0 g_a0
  have SZ2 : n0 ≤ h2.size := Nat.le_trans Z0 (Keep.of_wr W2).1
  have K2 := Keep.wr (Keep.refl h0 [a0]) W2 (Or.inl (List.mem_of_getElem? (i := 0) rfl))
  refine Gz.aloadN 22 X2 hx (dd d17_21) rfl rfl rfl ?_
  obtain ⟨cq3, q3, q3'⟩ := f2_E_a0.cell
  obtain ⟨_, _, ⟨T3, L3, k3, n3⟩, -, X3, ⟨Lc3, hQ3, l3, y3, z3⟩, st3⟩ := X2.privateBack hx (y := ym7) hown (mvT hZ (ww hw 33 rfl)) (mvT hZ (ww hw 34 rfl)) (own_selp (y := ym7) (y' := ym8) rfl (mvT hZ (ww hw 31 rfl)) (mvT hZ (ww hw 30 rfl)) (mvT hZ (ww hw 34 rfl)) (Cond.privateMethod_at (mvP hZ (ww hw 35 rfl) (args := #[]))) (by decide)) (Cond.privateMethod_at (mvP hZ (ww hw 35 rfl) (args := #[]))) (mvT hZ (ww hw 36 rfl)) (by decide) (backOf (W := 0) (rmSw_5_r l Z av0 hw [] a0 ba md dp fi tk ts xs xe es as_ ig k_ba h2 n0 SZ2 f2_E_a0 f2_F_bytes_a0 f2_F_maxDepth_a0 f2_F_position_a0 f2_F_depth_a0 f2_F_first_a0 f2_F_token_a0 f2_F_tokenStart_a0 f2_F_textStart_a0 f2_F_textEnd_a0 f2_F_escaped_a0 f2_F_ascii_a0 f2_F_integral_a0 g_a0 f2_V_ba ne_ba_a0) hZ (ww hw 36 rfl) (ww hw 15 rfl) (by decide) (by decide)) (g := (mkF m 22 #[.val (.ref a0), .val (.int (44 : Int32))] [(.ref a0)])) rfl (by rw [hml]; rfl) (Steps.refl _) (a := a0) (by rw [e2]; exact q3) q3' (argsL := []) (rest := []) (lenOf pd_5 rfl) rfl (Nat.le_refl _) (dd d17_22) (fun _ _ => ⟨rfl, e2, (by decide : 0 + 0 ≤ _), (by decide : 0 + 0 ≤ _)⟩)
  dsimp only [Pt.U, Pt.locs, Pt.cells, Pt.slots, Q_rmSw_5_r] at X3 l3 y3 z3 st3 hQ3
  subst l3 y3 z3
  obtain ⟨rfl, N3q, K3q, QE3_0, QF3_0, QF3_1, QF3_2, QF3_3, QF3_4, QF3_5, QF3_6, QF3_7, QF3_8, QF3_9, QF3_10, QF3_11⟩ := hQ3
  have N3 := Fr.app N2 N3q
  have f3_E_a0 := Exa.keep f2_E_a0 K3q
  have f3_V_ba := Arv.keep f2_V_ba K3q (ninS ne_ba_a0 nin0)
  have SZ3 := Nat.le_trans SZ2 K3q.1
  have K3 := Keep.trans K2 K3q (allS (Or.inl (List.mem_of_getElem? (i := 0) rfl)) all0)
  refine Gz.tr st3 ?_
  refine Gz.fin X3 (v := some (.int (91 : Int32))) (fun h => by rw [hret] at h; cases h) hlk (by decide) (by decide) (fun fs hr => retI X3 hx hret (dd d17_25) hr) ?_
  exact ⟨rfl, N3, K3, QE3_0, QF3_0, QF3_1, QF3_2, QF3_3, QF3_4, QF3_5, QF3_6, QF3_7, QF3_8, QF3_9, QF3_10, QF3_11⟩
abbrev ym19 : MethodName := ⟨cs0, "pastComma", "(I)I"⟩
theorem ef_rmOp_r (m : MethodId) (a0 : Addr) (a1 : Addr) : entryFrame m #[(.ref a0), (.ref a1)] 2 = mkF m 0 #[.val (.ref a0), .val (.ref a1)] [] := by first | (simp [entryFrame, mkF, argsToLocals, Value.category]; done) | rfl
def Q_rmOp_r (Z : State) (a0 : Addr) (a1 : Addr) (ba : Addr) (md : Int32) (ps : Int32) (dp : Int32) (fi : Int32) (tk : Addr) (ts : Int32) (xs : Int32) (xe : Int32) (es : Int32) (as_ : Int32) (ig : Int32) (k_ba : ClassId) (h0 : Heap) (n0 : Nat) (v : Option Value) (h : Heap) (L : List Loc) : Prop := v = some (.ref a1) ∧ Fr n0 L ∧ Keep h0 h [a0] ∧ Exa Z h a0 cs0 ∧ Fld Z h a0 cs0 "bytes" "[B" (.ref ba) ∧ Fld Z h a0 cs0 "maxDepth" "I" (.int md) ∧ Fld Z h a0 cs0 "position" "I" (.int (ps + (1 : Int32))) ∧ Fld Z h a0 cs0 "depth" "I" (.int (dp + (1 : Int32))) ∧ Fld Z h a0 cs0 "first" "Z" (.int (1 : Int32)) ∧ Fld Z h a0 cs0 "token" "Lcom/example/bad_status/badstatus/model/JsonReader$Token;" (.ref tk) ∧ Fld Z h a0 cs0 "tokenStart" "I" (.int ts) ∧ Fld Z h a0 cs0 "textStart" "I" (.int xs) ∧ Fld Z h a0 cs0 "textEnd" "I" (.int xe) ∧ Fld Z h a0 cs0 "escaped" "Z" (.int es) ∧ Fld Z h a0 cs0 "ascii" "Z" (.int as_) ∧ Fld Z h a0 cs0 "integral" "Z" (.int ig)
set_option maxRecDepth 65536 in
set_option maxHeartbeats 40000000 in
theorem rmOp_r (l : Launch) (Z : State) (av0 : Array Value) (hw : ∀ d ∈ tables_1, d.before av0 Z = true) (ws : List Jvm.Cond) (a0 : Addr) (a1 : Addr) (ba : Addr) (md : Int32) (ps : Int32) (dp : Int32) (fi : Int32) (tk : Addr) (ts : Int32) (xs : Int32) (xe : Int32) (es : Int32) (as_ : Int32) (ig : Int32) (k_ba : ClassId) (h0 : Heap) (n0 : Nat) (Z0 : n0 ≤ h0.size) (E_a0 : Exa Z h0 a0 cs0) (F_bytes_a0 : Fld Z h0 a0 cs0 "bytes" "[B" (.ref ba)) (F_maxDepth_a0 : Fld Z h0 a0 cs0 "maxDepth" "I" (.int md)) (F_position_a0 : Fld Z h0 a0 cs0 "position" "I" (.int ps)) (F_depth_a0 : Fld Z h0 a0 cs0 "depth" "I" (.int dp)) (F_first_a0 : Fld Z h0 a0 cs0 "first" "Z" (.int fi)) (F_token_a0 : Fld Z h0 a0 cs0 "token" "Lcom/example/bad_status/badstatus/model/JsonReader$Token;" (.ref tk)) (F_tokenStart_a0 : Fld Z h0 a0 cs0 "tokenStart" "I" (.int ts)) (F_textStart_a0 : Fld Z h0 a0 cs0 "textStart" "I" (.int xs)) (F_textEnd_a0 : Fld Z h0 a0 cs0 "textEnd" "I" (.int xe)) (F_escaped_a0 : Fld Z h0 a0 cs0 "escaped" "Z" (.int es)) (F_ascii_a0 : Fld Z h0 a0 cs0 "ascii" "Z" (.int as_)) (F_integral_a0 : Fld Z h0 a0 cs0 "integral" "Z" (.int ig)) (g_a0 : n0 ≤ a0) (V_ba : Arv Z h0 ba k_ba .byte (10 : Int32) [(.int (91 : Int32)), (.int (32 : Int32)), (.int (52 : Int32)), (.int (50 : Int32)), (.int (44 : Int32)), (.int (91 : Int32)), (.int (116 : Int32)), (.int (114 : Int32)), (.int (117 : Int32)), (.int (101 : Int32))] (.int (0 : Int32))) (ne_ba_a0 : ba ≠ a0) (hdm : ¬ (dp = md)) :
    MetFree l (⟨cs0, "open", "(Lcom/example/bad_status/badstatus/model/JsonReader$Token;)Lcom/example/bad_status/badstatus/model/JsonReader$Token;"⟩ : MethodName) (head1 (Jvm.Cond.code (⟨cs0, "open", "(Lcom/example/bad_status/badstatus/model/JsonReader$Token;)Lcom/example/bad_status/badstatus/model/JsonReader$Token;"⟩ : MethodName) prog_11_method_18_code 2 (some (.object cs1)) :: ws) ({ frames := 0, cells := 0, slots := 0, locals := 0 } : Room)) (fun a U => a = #[(.ref a0), (.ref a1)] ∧ Z.Warmed39 U.vm ∧ U.heap = h0) (fun _ _ _ _ _ => True) (fun _ U o U' => ∃ v L, o = .returned v ∧ Q_rmOp_r Z a0 a1 ba md ps dp fi tk ts xs xe es as_ ig k_ba h0 n0 v U'.heap L ∧ FrameEnd U o U' L ({ frames := 0, cells := 0, slots := 0, locals := 0 } : Room).cells ({ frames := 0, cells := 0, slots := 0, locals := 0 } : Room).slots) := by
  refine MetFree.of_bodySF (plainFor_of_name pn_0) hisR ?_
  intro p e s m args below meth c s₁ Bd hml0 hP hK
  obtain ⟨rfl, hZ, hh⟩ := hP
  have hx := Bd.exec
  have hby := Bd.bytes
  have hml : c.maxLocals = 2 := hml0
  have dd : ∀ {pc : Nat} {r : Except DecodeError (Instr × Nat)}, decode prog_11_method_18_code pc = r → decode c.code pc = r := fun q => hb hby q
  have hown : s.vm.findClass cs0 = some m.cls := findClass_of_methodNamed Bd.named
  have hnm := (name_of_methodNamed Bd.named Bd.method).1
  have X0 : Stand p l e ({ frames := 0, cells := 0, slots := 0, locals := 0 } : Room) s m #[(.ref a0), (.ref a1)] below meth c s₁ [] 0 0 := Stand.of_body Bd
  have e0 : s₁.heap = h0 := by rw [← hh, Bd.state]; rfl
  have N0 := Fr.nil n0
  have hret := Bd.returns
  have hlk := Bd.notSynchronized
  show Gz p e below s ({ frames := 0, cells := 0, slots := 0, locals := 0 } : Room).cells ({ frames := 0, cells := 0, slots := 0, locals := 0 } : Room).slots (Q_rmOp_r Z a0 a1 ba md ps dp fi tk ts xs xe es as_ ig k_ba h0 n0) (s₁.setTop (entryFrame m #[(.ref a0), (.ref a1)] 2))
  refine Gz.enter (ef_rmOp_r m a0 a1) ?_
  refine Gz.aloadN 1 X0 hx (dd d6_0) rfl rfl rfl ?_
  refine Gz.getF 4 X0 hx hZ hown (dd d6_1) (host := "") (Or.inl (ww hw 47 rfl)) Via.refl e0 F_depth_a0 rfl fun T1 X1 e1 => ?_
  refine Gz.aloadN 5 X1 hx (dd d6_4) rfl rfl rfl ?_
  refine Gz.getF 8 X1 hx hZ hown (dd d6_5) (host := "") (Or.inl (ww hw 26 rfl)) Via.refl e1 F_maxDepth_a0 rfl fun T2 X2 e2 => ?_
  refine Gz.icmpYes 24 X2 hx (dd d6_8) (feq (hdm : ¬ (dp = md))).2 (by decide) (by decide) ?_
  refine Gz.aloadN 25 X2 hx (dd d6_24) rfl rfl rfl ?_
  refine Gz.dup 26 X2 hx (dd d6_25) rfl rfl ?_
  refine Gz.getF 29 X2 hx hZ hown (dd d6_26) (host := "") (Or.inl (ww hw 47 rfl)) Via.refl e2 F_depth_a0 rfl fun T3 X3 e3 => ?_
  refine Gz.iconst 30 (1 : Int32) X3 hx (dd d6_29) rfl rfl ?_
  refine Gz.iadd 31 X3 hx (dd d6_30) rfl ?_
  refine Gz.putF 34 X3 hx hZ hown .int (dd d6_31) (host := "") (Or.inl (ww hw 47 rfl)) Via.refl e3 F_depth_a0 E_a0 (Or.inl (ww hw 48 rfl)) (ww hw 14 rfl) (by decide) rfl rfl rfl fun T4 h4 X4 e4 W4 => ?_
  have f4_E_a0 := Exa.wr W4 E_a0
  have f4_F_bytes_a0 := Fld.other W4 F_bytes_a0 (Or.inr (Ne.symm <| sn2 hw))
  have f4_F_maxDepth_a0 := Fld.other W4 F_maxDepth_a0 (Or.inr (Ne.symm <| sn21 hw))
  have f4_F_position_a0 := Fld.other W4 F_position_a0 (Or.inr (Ne.symm <| sn12 hw))
  have f4_F_first_a0 := Fld.other W4 F_first_a0 (Or.inr (sn39 hw))
  have f4_F_token_a0 := Fld.other W4 F_token_a0 (Or.inr (sn40 hw))
  have f4_F_tokenStart_a0 := Fld.other W4 F_tokenStart_a0 (Or.inr (Ne.symm <| sn31 hw))
  have f4_F_textStart_a0 := Fld.other W4 F_textStart_a0 (Or.inr (sn41 hw))
  have f4_F_textEnd_a0 := Fld.other W4 F_textEnd_a0 (Or.inr (sn42 hw))
  have f4_F_escaped_a0 := Fld.other W4 F_escaped_a0 (Or.inr (sn43 hw))
  have f4_F_ascii_a0 := Fld.other W4 F_ascii_a0 (Or.inr (sn44 hw))
  have f4_F_integral_a0 := Fld.other W4 F_integral_a0 (Or.inr (sn45 hw))
  have f4_V_ba := Arv.other V_ba W4 ne_ba_a0
  have f4_F_depth_a0 := Fld.same W4 F_depth_a0
  have N4 := Fr.snoc X4 N0 g_a0
  have SZ4 : n0 ≤ h4.size := Nat.le_trans Z0 (Keep.of_wr W4).1
  have K4 := Keep.wr (Keep.refl h0 [a0]) W4 (Or.inl (List.mem_of_getElem? (i := 0) rfl))
  refine Gz.aloadN 35 X4 hx (dd d6_34) rfl rfl rfl ?_
  refine Gz.dup 36 X4 hx (dd d6_35) rfl rfl ?_
  refine Gz.getF 39 X4 hx hZ hown (dd d6_36) (host := "") (Or.inl (ww hw 24 rfl)) Via.refl e4 f4_F_position_a0 rfl fun T5 X5 e5 => ?_
  refine Gz.iconst 40 (1 : Int32) X5 hx (dd d6_39) rfl rfl ?_
  refine Gz.iadd 41 X5 hx (dd d6_40) rfl ?_
  refine Gz.putF 44 X5 hx hZ hown .int (dd d6_41) (host := "") (Or.inl (ww hw 24 rfl)) Via.refl e5 f4_F_position_a0 f4_E_a0 (Or.inl (ww hw 25 rfl)) (ww hw 14 rfl) (by decide) rfl rfl rfl fun T6 h6 X6 e6 W6 => ?_
  have f6_E_a0 := Exa.wr W6 f4_E_a0
  have f6_F_bytes_a0 := Fld.other W6 f4_F_bytes_a0 (Or.inr (Ne.symm <| sn1 hw))
  have f6_F_maxDepth_a0 := Fld.other W6 f4_F_maxDepth_a0 (Or.inr (sn11 hw))
  have f6_F_depth_a0 := Fld.other W6 f4_F_depth_a0 (Or.inr (sn12 hw))
  have f6_F_first_a0 := Fld.other W6 f4_F_first_a0 (Or.inr (sn13 hw))
  have f6_F_token_a0 := Fld.other W6 f4_F_token_a0 (Or.inr (sn14 hw))
  have f6_F_tokenStart_a0 := Fld.other W6 f4_F_tokenStart_a0 (Or.inr (sn15 hw))
  have f6_F_textStart_a0 := Fld.other W6 f4_F_textStart_a0 (Or.inr (sn16 hw))
  have f6_F_textEnd_a0 := Fld.other W6 f4_F_textEnd_a0 (Or.inr (sn17 hw))
  have f6_F_escaped_a0 := Fld.other W6 f4_F_escaped_a0 (Or.inr (sn18 hw))
  have f6_F_ascii_a0 := Fld.other W6 f4_F_ascii_a0 (Or.inr (sn19 hw))
  have f6_F_integral_a0 := Fld.other W6 f4_F_integral_a0 (Or.inr (sn20 hw))
  have f6_V_ba := Arv.other f4_V_ba W6 ne_ba_a0
  have f6_F_position_a0 := Fld.same W6 f4_F_position_a0
  have N6 := Fr.snoc X6 N4 g_a0
  have SZ6 : n0 ≤ h6.size := Nat.le_trans SZ4 (Keep.of_wr W6).1
  have K6 := Keep.wr K4 W6 (Or.inl (List.mem_of_getElem? (i := 0) rfl))
  refine Gz.aloadN 45 X6 hx (dd d6_44) rfl rfl rfl ?_
  refine Gz.iconst 46 (1 : Int32) X6 hx (dd d6_45) rfl rfl ?_
  refine Gz.putF 49 X6 hx hZ hown .boolean (dd d6_46) (host := "") (Or.inl (ww hw 49 rfl)) Via.refl e6 f6_F_first_a0 f6_E_a0 (Or.inl (ww hw 50 rfl)) (ww hw 14 rfl) (by decide) rfl rfl rfl fun T7 h7 X7 e7 W7 => ?_
  have f7_E_a0 := Exa.wr W7 f6_E_a0
  have f7_F_bytes_a0 := Fld.other W7 f6_F_bytes_a0 (Or.inr (Ne.symm <| sn3 hw))
  have f7_F_maxDepth_a0 := Fld.other W7 f6_F_maxDepth_a0 (Or.inr (Ne.symm <| sn22 hw))
  have f7_F_position_a0 := Fld.other W7 f6_F_position_a0 (Or.inr (Ne.symm <| sn13 hw))
  have f7_F_depth_a0 := Fld.other W7 f6_F_depth_a0 (Or.inr (Ne.symm <| sn39 hw))
  have f7_F_token_a0 := Fld.other W7 f6_F_token_a0 (Or.inr (sn46 hw))
  have f7_F_tokenStart_a0 := Fld.other W7 f6_F_tokenStart_a0 (Or.inr (Ne.symm <| sn32 hw))
  have f7_F_textStart_a0 := Fld.other W7 f6_F_textStart_a0 (Or.inr (sn47 hw))
  have f7_F_textEnd_a0 := Fld.other W7 f6_F_textEnd_a0 (Or.inr (sn48 hw))
  have f7_F_escaped_a0 := Fld.other W7 f6_F_escaped_a0 (Or.inr (sn49 hw))
  have f7_F_ascii_a0 := Fld.other W7 f6_F_ascii_a0 (Or.inr (sn50 hw))
  have f7_F_integral_a0 := Fld.other W7 f6_F_integral_a0 (Or.inr (sn51 hw))
  have f7_V_ba := Arv.other f6_V_ba W7 ne_ba_a0
  have f7_F_first_a0 := Fld.same W7 f6_F_first_a0
  have N7 := Fr.snoc X7 N6 g_a0
  have SZ7 : n0 ≤ h7.size := Nat.le_trans SZ6 (Keep.of_wr W7).1
  have K7 := Keep.wr K6 W7 (Or.inl (List.mem_of_getElem? (i := 0) rfl))
  refine Gz.aloadN 50 X7 hx (dd d6_49) rfl rfl rfl ?_
  refine Gz.fin X7 (v := some (.ref a1)) (fun h => by rw [hret] at h; cases h) hlk (by decide) (by decide) (fun fs hr => retA X7 hx hret (dd d6_50) hr rfl rfl) ?_
  rw [e7]
  exact ⟨rfl, N7, K7, f7_E_a0, f7_F_bytes_a0, f7_F_maxDepth_a0, f7_F_position_a0, f7_F_depth_a0, f7_F_first_a0, f7_F_token_a0, f7_F_tokenStart_a0, f7_F_textStart_a0, f7_F_textEnd_a0, f7_F_escaped_a0, f7_F_ascii_a0, f7_F_integral_a0⟩
theorem ef_rmNx_5_r (m : MethodId) (a0 : Addr) : entryFrame m #[(.ref a0)] 3 = mkF m 0 #[.val (.ref a0), .unset, .unset] [] := by first | (simp [entryFrame, mkF, argsToLocals, Value.category]; done) | rfl
def Q_rmNx_5_r (Z : State) (a0 : Addr) (ba : Addr) (md : Int32) (dp : Int32) (fi : Int32) (tk : Addr) (ts : Int32) (xs : Int32) (xe : Int32) (es : Int32) (as_ : Int32) (ig : Int32) (k_ba : ClassId) (s_ARRAY : Addr) (h0 : Heap) (n0 : Nat) (v : Option Value) (h : Heap) (L : List Loc) : Prop := v = some (.ref s_ARRAY) ∧ Fr n0 L ∧ Keep h0 h [a0] ∧ Exa Z h a0 cs0 ∧ Fld Z h a0 cs0 "bytes" "[B" (.ref ba) ∧ Fld Z h a0 cs0 "maxDepth" "I" (.int md) ∧ Fld Z h a0 cs0 "position" "I" (.int (6 : Int32)) ∧ Fld Z h a0 cs0 "depth" "I" (.int (dp + (1 : Int32))) ∧ Fld Z h a0 cs0 "first" "Z" (.int (1 : Int32)) ∧ Fld Z h a0 cs0 "token" "Lcom/example/bad_status/badstatus/model/JsonReader$Token;" (.ref s_ARRAY) ∧ Fld Z h a0 cs0 "tokenStart" "I" (.int (5 : Int32)) ∧ Fld Z h a0 cs0 "textStart" "I" (.int xs) ∧ Fld Z h a0 cs0 "textEnd" "I" (.int xe) ∧ Fld Z h a0 cs0 "escaped" "Z" (.int es) ∧ Fld Z h a0 cs0 "ascii" "Z" (.int as_) ∧ Fld Z h a0 cs0 "integral" "Z" (.int ig)
set_option maxRecDepth 65536 in
set_option maxHeartbeats 40000000 in
theorem rmNx_5_r (l : Launch) (Z : State) (av0 : Array Value) (hw : ∀ d ∈ tables_1, d.before av0 Z = true) (ws : List Jvm.Cond) (a0 : Addr) (ba : Addr) (md : Int32) (dp : Int32) (fi : Int32) (tk : Addr) (ts : Int32) (xs : Int32) (xe : Int32) (es : Int32) (as_ : Int32) (ig : Int32) (k_ba : ClassId) (s_ARRAY : Addr) (h0 : Heap) (n0 : Nat) (Z0 : n0 ≤ h0.size) (E_a0 : Exa Z h0 a0 cs0) (F_bytes_a0 : Fld Z h0 a0 cs0 "bytes" "[B" (.ref ba)) (F_maxDepth_a0 : Fld Z h0 a0 cs0 "maxDepth" "I" (.int md)) (F_position_a0 : Fld Z h0 a0 cs0 "position" "I" (.int (5 : Int32))) (F_depth_a0 : Fld Z h0 a0 cs0 "depth" "I" (.int dp)) (F_first_a0 : Fld Z h0 a0 cs0 "first" "Z" (.int fi)) (F_token_a0 : Fld Z h0 a0 cs0 "token" "Lcom/example/bad_status/badstatus/model/JsonReader$Token;" (.ref tk)) (F_tokenStart_a0 : Fld Z h0 a0 cs0 "tokenStart" "I" (.int ts)) (F_textStart_a0 : Fld Z h0 a0 cs0 "textStart" "I" (.int xs)) (F_textEnd_a0 : Fld Z h0 a0 cs0 "textEnd" "I" (.int xe)) (F_escaped_a0 : Fld Z h0 a0 cs0 "escaped" "Z" (.int es)) (F_ascii_a0 : Fld Z h0 a0 cs0 "ascii" "Z" (.int as_)) (F_integral_a0 : Fld Z h0 a0 cs0 "integral" "Z" (.int ig)) (g_a0 : n0 ≤ a0) (V_ba : Arv Z h0 ba k_ba .byte (10 : Int32) [(.int (91 : Int32)), (.int (32 : Int32)), (.int (52 : Int32)), (.int (50 : Int32)), (.int (44 : Int32)), (.int (91 : Int32)), (.int (116 : Int32)), (.int (114 : Int32)), (.int (117 : Int32)), (.int (101 : Int32))] (.int (0 : Int32))) (ne_ba_a0 : ba ≠ a0) (S_s_ARRAY : Sta Z h0 cs1 "ARRAY" "Lcom/example/bad_status/badstatus/model/JsonReader$Token;" (.ref s_ARRAY)) (hdm : ¬ (dp = md)) :
    MetFree l (⟨cs0, "next", "()Lcom/example/bad_status/badstatus/model/JsonReader$Token;"⟩ : MethodName) (head1 (Jvm.Cond.code (⟨cs0, "next", "()Lcom/example/bad_status/badstatus/model/JsonReader$Token;"⟩ : MethodName) prog_11_method_2_code 3 (some (.object cs1)) :: ws) ({ frames := 2, cells := 0, slots := 0, locals := 25 } : Room)) (fun a U => a = #[(.ref a0)] ∧ Z.Warmed39 U.vm ∧ U.heap = h0) (fun _ _ _ _ _ => True) (fun _ U o U' => ∃ v L, o = .returned v ∧ Q_rmNx_5_r Z a0 ba md dp fi tk ts xs xe es as_ ig k_ba s_ARRAY h0 n0 v U'.heap L ∧ FrameEnd U o U' L ({ frames := 2, cells := 0, slots := 0, locals := 25 } : Room).cells ({ frames := 2, cells := 0, slots := 0, locals := 25 } : Room).slots) := by
  refine MetFree.of_bodySF (plainFor_of_name pn_0) hisR ?_
  intro p e s m args below meth c s₁ Bd hml0 hP hK
  obtain ⟨rfl, hZ, hh⟩ := hP
  have hx := Bd.exec
  have hby := Bd.bytes
  have hml : c.maxLocals = 3 := hml0
  have dd : ∀ {pc : Nat} {r : Except DecodeError (Instr × Nat)}, decode prog_11_method_2_code pc = r → decode c.code pc = r := fun q => hb hby q
  have hown : s.vm.findClass cs0 = some m.cls := findClass_of_methodNamed Bd.named
  have hnm := (name_of_methodNamed Bd.named Bd.method).1
  have X0 : Stand p l e ({ frames := 2, cells := 0, slots := 0, locals := 25 } : Room) s m #[(.ref a0)] below meth c s₁ [] 0 0 := Stand.of_body Bd
  have e0 : s₁.heap = h0 := by rw [← hh, Bd.state]; rfl
  have N0 := Fr.nil n0
  have hret := Bd.returns
  have hlk := Bd.notSynchronized
  show Gz p e below s ({ frames := 2, cells := 0, slots := 0, locals := 25 } : Room).cells ({ frames := 2, cells := 0, slots := 0, locals := 25 } : Room).slots (Q_rmNx_5_r Z a0 ba md dp fi tk ts xs xe es as_ ig k_ba s_ARRAY h0 n0) (s₁.setTop (entryFrame m #[(.ref a0)] 3))
  refine Gz.enter (ef_rmNx_5_r m a0) ?_
  refine Gz.aloadN 1 X0 hx (dd d3_0) rfl rfl rfl ?_
  obtain ⟨cq1, q1, q1'⟩ := E_a0.cell
  obtain ⟨_, _, ⟨T1, L1, k1, n1⟩, -, X1, ⟨Lc1, hQ1, l1, y1, z1⟩, st1⟩ := X0.privateBack hx (y := ym7) hown (mvT hZ (ww hw 33 rfl)) (mvT hZ (ww hw 34 rfl)) (own_selp (y := ym7) (y' := ym8) rfl (mvT hZ (ww hw 31 rfl)) (mvT hZ (ww hw 30 rfl)) (mvT hZ (ww hw 34 rfl)) (Cond.privateMethod_at (mvP hZ (ww hw 35 rfl) (args := #[]))) (by decide)) (Cond.privateMethod_at (mvP hZ (ww hw 35 rfl) (args := #[]))) (mvT hZ (ww hw 36 rfl)) (by decide) (backOf (W := 0) (rmSw_5_r l Z av0 hw [] a0 ba md dp fi tk ts xs xe es as_ ig k_ba h0 n0 Z0 E_a0 F_bytes_a0 F_maxDepth_a0 F_position_a0 F_depth_a0 F_first_a0 F_token_a0 F_tokenStart_a0 F_textStart_a0 F_textEnd_a0 F_escaped_a0 F_ascii_a0 F_integral_a0 g_a0 V_ba ne_ba_a0) hZ (ww hw 36 rfl) (ww hw 15 rfl) (by decide) (by decide)) (g := (mkF m 1 #[.val (.ref a0), .unset, .unset] [(.ref a0)])) rfl (by rw [hml]; rfl) (Steps.refl _) (a := a0) (by rw [e0]; exact q1) q1' (argsL := []) (rest := []) (lenOf pd_5 rfl) rfl (Nat.le_refl _) (dd d3_1) (fun _ _ => ⟨rfl, e0, (by decide : 0 + 0 ≤ _), (by decide : 0 + 0 ≤ _)⟩)
  dsimp only [Pt.U, Pt.locs, Pt.cells, Pt.slots, Q_rmSw_5_r] at X1 l1 y1 z1 st1 hQ1
  subst l1 y1 z1
  obtain ⟨rfl, N1q, K1q, QE1_0, QF1_0, QF1_1, QF1_2, QF1_3, QF1_4, QF1_5, QF1_6, QF1_7, QF1_8, QF1_9, QF1_10, QF1_11⟩ := hQ1
  have N1 := Fr.app N0 N1q
  have f1_E_a0 := Exa.keep E_a0 K1q
  have f1_V_ba := Arv.keep V_ba K1q (ninS ne_ba_a0 nin0)
  have f1_S_s_ARRAY := own_staK S_s_ARRAY K1q (allS (nst_of E_a0) all0)
  have SZ1 := Nat.le_trans Z0 K1q.1
  have K1 := Keep.trans (Keep.refl h0 [a0]) K1q (allS (Or.inl (List.mem_of_getElem? (i := 0) rfl)) all0)
  refine Gz.tr st1 ?_
  refine Gz.istoreN 5 #[.val (.ref a0), .val (.int (91 : Int32)), .unset] X1 hx (dd d3_4) rfl rfl ?_
  refine Gz.aloadN 6 X1 hx (dd d3_5) rfl rfl rfl ?_
  refine Gz.aloadN 7 X1 hx (dd d3_6) rfl rfl rfl ?_
  refine Gz.getF 10 X1 hx hZ hown (dd d3_7) (host := "") (Or.inl (ww hw 24 rfl)) Via.refl rfl QF1_2 rfl fun T2 X2 e2 => ?_
  refine Gz.putF 13 X2 hx hZ hown .int (dd d3_10) (host := "") (Or.inl (ww hw 40 rfl)) Via.refl e2 QF1_6 QE1_0 (Or.inl (ww hw 41 rfl)) (ww hw 14 rfl) (by decide) rfl rfl rfl fun T3 h3 X3 e3 W3 => ?_
  have f3_E_a0 := Exa.wr W3 QE1_0
  have f3_V_ba := Arv.other f1_V_ba W3 ne_ba_a0
  have f3_S_s_ARRAY := Sta.wr W3 f1_S_s_ARRAY
  have f3_F_bytes_a0 := Fld.other W3 QF1_0 (Or.inr (Ne.symm <| sn5 hw))
  have f3_F_maxDepth_a0 := Fld.other W3 QF1_1 (Or.inr (Ne.symm <| sn24 hw))
  have f3_F_position_a0 := Fld.other W3 QF1_2 (Or.inr (Ne.symm <| sn15 hw))
  have f3_F_depth_a0 := Fld.other W3 QF1_3 (Or.inr (sn31 hw))
  have f3_F_first_a0 := Fld.other W3 QF1_4 (Or.inr (sn32 hw))
  have f3_F_token_a0 := Fld.other W3 QF1_5 (Or.inr (sn33 hw))
  have f3_F_textStart_a0 := Fld.other W3 QF1_7 (Or.inr (sn34 hw))
  have f3_F_textEnd_a0 := Fld.other W3 QF1_8 (Or.inr (sn35 hw))
  have f3_F_escaped_a0 := Fld.other W3 QF1_9 (Or.inr (sn36 hw))
  have f3_F_ascii_a0 := Fld.other W3 QF1_10 (Or.inr (sn37 hw))
  have f3_F_integral_a0 := Fld.other W3 QF1_11 (Or.inr (sn38 hw))
  have f3_F_tokenStart_a0 := Fld.same W3 QF1_6
  have N3 := Fr.snoc X3 N1 g_a0
  have SZ3 : n0 ≤ h3.size := Nat.le_trans SZ1 (Keep.of_wr W3).1
  have K3 := Keep.wr K1 W3 (Or.inl (List.mem_of_getElem? (i := 0) rfl))
  refine Gz.iloadN 14 X3 hx (dd d3_13) rfl rfl ?_
  refine Gz.st (fun t k => X3.lookupswitchHit hx (g := (mkF m 14 #[.val (.ref a0), .val (.int (91 : Int32)), .unset] [(.int (91 : Int32))])) rfl (k := (91 : Int32)) (rest := []) rfl (dd d3_14) (by decide) (a := 91) (off := 69) (by decide) (by show (0 : Int) ≤ ((14 : Nat) : Int) + 69; decide) t k) ?_
  show Gz p e below s _ _ _ (T3.setTop (mkF m 83 #[.val (.ref a0), .val (.int (91 : Int32)), .unset] []))
  refine Gz.aloadN 84 X3 hx (dd d3_83) rfl rfl rfl ?_
  refine Gz.getS 87 X3 hx hZ hown (dd d3_84) (host := "") (Or.inl (ww hw 42 rfl)) Via.refl e3 f3_S_s_ARRAY rfl fun T4 X4 e4 => ?_
  obtain ⟨cq5, q5, q5'⟩ := f3_E_a0.cell
  obtain ⟨_, _, ⟨T5, L5, k5, n5⟩, -, X5, ⟨Lc5, hQ5, l5, y5, z5⟩, st5⟩ := X4.privateBack hx (y := ym9) hown (mvT hZ (ww hw 43 rfl)) (mvT hZ (ww hw 44 rfl)) (own_selp (y := ym9) (y' := ym8) rfl (mvT hZ (ww hw 31 rfl)) (mvT hZ (ww hw 30 rfl)) (mvT hZ (ww hw 44 rfl)) (Cond.privateMethod_at (mvP hZ (ww hw 45 rfl) (args := #[]))) (by decide)) (Cond.privateMethod_at (mvP hZ (ww hw 45 rfl) (args := #[]))) (mvT hZ (ww hw 46 rfl)) (by decide) (backOf (W := 0) (rmOp_r l Z av0 hw [] a0 s_ARRAY ba md (5 : Int32) dp fi tk (5 : Int32) xs xe es as_ ig k_ba h3 n0 SZ3 f3_E_a0 f3_F_bytes_a0 f3_F_maxDepth_a0 f3_F_position_a0 f3_F_depth_a0 f3_F_first_a0 f3_F_token_a0 f3_F_tokenStart_a0 f3_F_textStart_a0 f3_F_textEnd_a0 f3_F_escaped_a0 f3_F_ascii_a0 f3_F_integral_a0 g_a0 f3_V_ba ne_ba_a0 (hdm : ¬ (dp = md))) hZ (ww hw 46 rfl) (ww hw 15 rfl) (by decide) (by decide)) (g := (mkF m 87 #[.val (.ref a0), .val (.int (91 : Int32)), .unset] [(.ref s_ARRAY), (.ref a0)])) rfl (by rw [hml]; rfl) (Steps.refl _) (a := a0) (by rw [e4]; exact q5) q5' (argsL := [(.ref s_ARRAY)]) (rest := []) (lenOf pd_7 rfl) rfl (Nat.le_refl _) (dd d3_87) (fun _ _ => ⟨rfl, e4, (by decide : 0 + 0 ≤ _), (by decide : 0 + 0 ≤ _)⟩)
  dsimp only [Pt.U, Pt.locs, Pt.cells, Pt.slots, Q_rmOp_r] at X5 l5 y5 z5 st5 hQ5
  subst l5 y5 z5
  obtain ⟨rfl, N5q, K5q, QE5_0, QF5_0, QF5_1, QF5_2, QF5_3, QF5_4, QF5_5, QF5_6, QF5_7, QF5_8, QF5_9, QF5_10, QF5_11⟩ := hQ5
  have N5 := Fr.app N3 N5q
  have f5_E_a0 := Exa.keep f3_E_a0 K5q
  have f5_V_ba := Arv.keep f3_V_ba K5q (ninS ne_ba_a0 nin0)
  have f5_S_s_ARRAY := own_staK f3_S_s_ARRAY K5q (allS (nst_of f3_E_a0) all0)
  have SZ5 := Nat.le_trans SZ3 K5q.1
  have K5 := Keep.trans K3 K5q (allS (Or.inl (List.mem_of_getElem? (i := 0) rfl)) all0)
  replace QF5_2 : Fld Z T5.heap a0 cs0 "position" "I" (.int (6 : Int32)) := QF5_2
  refine Gz.tr st5 ?_
  refine Gz.astoreN 91 #[.val (.ref a0), .val (.int (91 : Int32)), .val (.ref s_ARRAY)] X5 hx (dd d3_90) rfl rfl rfl ?_
  refine Gz.goto 173 X5 hx (dd d3_91) (by decide) (by decide) ?_
  refine Gz.aloadN 174 X5 hx (dd d3_173) rfl rfl rfl ?_
  refine Gz.aloadN 175 X5 hx (dd d3_174) rfl rfl rfl ?_
  refine Gz.putF 178 X5 hx hZ hown (.object cs1) (dd d3_175) (host := "") (Or.inl (ww hw 51 rfl)) Via.refl rfl QF5_5 QE5_0 (Or.inl (ww hw 52 rfl)) (ww hw 14 rfl) (by decide) rfl rfl rfl fun T6 h6 X6 e6 W6 => ?_
  have f6_E_a0 := Exa.wr W6 QE5_0
  have f6_V_ba := Arv.other f5_V_ba W6 ne_ba_a0
  have f6_S_s_ARRAY := Sta.wr W6 f5_S_s_ARRAY
  have f6_F_bytes_a0 := Fld.other W6 QF5_0 (Or.inr (Ne.symm <| sn4 hw))
  have f6_F_maxDepth_a0 := Fld.other W6 QF5_1 (Or.inr (Ne.symm <| sn23 hw))
  have f6_F_position_a0 := Fld.other W6 QF5_2 (Or.inr (Ne.symm <| sn14 hw))
  have f6_F_depth_a0 := Fld.other W6 QF5_3 (Or.inr (Ne.symm <| sn40 hw))
  have f6_F_first_a0 := Fld.other W6 QF5_4 (Or.inr (Ne.symm <| sn46 hw))
  have f6_F_tokenStart_a0 := Fld.other W6 QF5_6 (Or.inr (Ne.symm <| sn33 hw))
  have f6_F_textStart_a0 := Fld.other W6 QF5_7 (Or.inr (sn52 hw))
  have f6_F_textEnd_a0 := Fld.other W6 QF5_8 (Or.inr (sn53 hw))
  have f6_F_escaped_a0 := Fld.other W6 QF5_9 (Or.inr (sn54 hw))
  have f6_F_ascii_a0 := Fld.other W6 QF5_10 (Or.inr (sn55 hw))
  have f6_F_integral_a0 := Fld.other W6 QF5_11 (Or.inr (sn56 hw))
  have f6_F_token_a0 := Fld.same W6 QF5_5
  have N6 := Fr.snoc X6 N5 g_a0
  have SZ6 : n0 ≤ h6.size := Nat.le_trans SZ5 (Keep.of_wr W6).1
  have K6 := Keep.wr K5 W6 (Or.inl (List.mem_of_getElem? (i := 0) rfl))
  refine Gz.aloadN 179 X6 hx (dd d3_178) rfl rfl rfl ?_
  refine Gz.fin X6 (v := some (.ref s_ARRAY)) (fun h => by rw [hret] at h; cases h) hlk (by decide) (by decide) (fun fs hr => retA X6 hx hret (dd d3_179) hr rfl rfl) ?_
  rw [e6]
  exact ⟨rfl, N6, K6, f6_E_a0, f6_F_bytes_a0, f6_F_maxDepth_a0, f6_F_position_a0, f6_F_depth_a0, f6_F_first_a0, f6_F_token_a0, f6_F_tokenStart_a0, f6_F_textStart_a0, f6_F_textEnd_a0, f6_F_escaped_a0, f6_F_ascii_a0, f6_F_integral_a0⟩
theorem d7_20 : decode prog_11_method_4_code 20 = .ok (.aload_n 0, 1) := by decide +kernel
theorem d7_21 : decode prog_11_method_4_code 21 = .ok (.iload_n 1, 1) := by decide +kernel
theorem d7_22 : decode prog_11_method_4_code 22 = .ok (.invokevirtual 88, 3) := by decide +kernel
theorem d7_25 : decode prog_11_method_4_code 25 = .ok (.pop, 1) := by decide +kernel
theorem ef_rmNe_4_r_0 (m : MethodId) (a0 : Addr) : entryFrame m #[(.ref a0)] 3 = mkF m 0 #[.val (.ref a0), .unset, .unset] [] := by first | (simp [entryFrame, mkF, argsToLocals, Value.category]; done) | rfl
def Q_rmNe_4_r_0 (Z : State) (a0 : Addr) (ba : Addr) (md : Int32) (dp : Int32) (tk : Addr) (ts : Int32) (xs : Int32) (xe : Int32) (es : Int32) (as_ : Int32) (ig : Int32) (k_ba : ClassId) (s_ARRAY : Addr) (h0 : Heap) (n0 : Nat) (v : Option Value) (h : Heap) (L : List Loc) : Prop := v = some (.ref s_ARRAY) ∧ Fr n0 L ∧ Keep h0 h [a0] ∧ Exa Z h a0 cs0 ∧ Fld Z h a0 cs0 "bytes" "[B" (.ref ba) ∧ Fld Z h a0 cs0 "maxDepth" "I" (.int md) ∧ Fld Z h a0 cs0 "position" "I" (.int (6 : Int32)) ∧ Fld Z h a0 cs0 "depth" "I" (.int (dp + (1 : Int32))) ∧ Fld Z h a0 cs0 "first" "Z" (.int (1 : Int32)) ∧ Fld Z h a0 cs0 "token" "Lcom/example/bad_status/badstatus/model/JsonReader$Token;" (.ref s_ARRAY) ∧ Fld Z h a0 cs0 "tokenStart" "I" (.int (5 : Int32)) ∧ Fld Z h a0 cs0 "textStart" "I" (.int xs) ∧ Fld Z h a0 cs0 "textEnd" "I" (.int xe) ∧ Fld Z h a0 cs0 "escaped" "Z" (.int es) ∧ Fld Z h a0 cs0 "ascii" "Z" (.int as_) ∧ Fld Z h a0 cs0 "integral" "Z" (.int ig)
set_option maxRecDepth 65536 in
set_option maxHeartbeats 40000000 in
theorem rmNe_4_r_0 (l : Launch) (Z : State) (av0 : Array Value) (hw : ∀ d ∈ tables_1, d.before av0 Z = true) (ws : List Jvm.Cond) (a0 : Addr) (ba : Addr) (md : Int32) (dp : Int32) (tk : Addr) (ts : Int32) (xs : Int32) (xe : Int32) (es : Int32) (as_ : Int32) (ig : Int32) (k_ba : ClassId) (s_ARRAY : Addr) (h0 : Heap) (n0 : Nat) (Z0 : n0 ≤ h0.size) (E_a0 : Exa Z h0 a0 cs0) (F_bytes_a0 : Fld Z h0 a0 cs0 "bytes" "[B" (.ref ba)) (F_maxDepth_a0 : Fld Z h0 a0 cs0 "maxDepth" "I" (.int md)) (F_position_a0 : Fld Z h0 a0 cs0 "position" "I" (.int (4 : Int32))) (F_depth_a0 : Fld Z h0 a0 cs0 "depth" "I" (.int dp)) (F_first_a0 : Fld Z h0 a0 cs0 "first" "Z" (.int (0 : Int32))) (F_token_a0 : Fld Z h0 a0 cs0 "token" "Lcom/example/bad_status/badstatus/model/JsonReader$Token;" (.ref tk)) (F_tokenStart_a0 : Fld Z h0 a0 cs0 "tokenStart" "I" (.int ts)) (F_textStart_a0 : Fld Z h0 a0 cs0 "textStart" "I" (.int xs)) (F_textEnd_a0 : Fld Z h0 a0 cs0 "textEnd" "I" (.int xe)) (F_escaped_a0 : Fld Z h0 a0 cs0 "escaped" "Z" (.int es)) (F_ascii_a0 : Fld Z h0 a0 cs0 "ascii" "Z" (.int as_)) (F_integral_a0 : Fld Z h0 a0 cs0 "integral" "Z" (.int ig)) (g_a0 : n0 ≤ a0) (V_ba : Arv Z h0 ba k_ba .byte (10 : Int32) [(.int (91 : Int32)), (.int (32 : Int32)), (.int (52 : Int32)), (.int (50 : Int32)), (.int (44 : Int32)), (.int (91 : Int32)), (.int (116 : Int32)), (.int (114 : Int32)), (.int (117 : Int32)), (.int (101 : Int32))] (.int (0 : Int32))) (ne_ba_a0 : ba ≠ a0) (S_s_ARRAY : Sta Z h0 cs1 "ARRAY" "Lcom/example/bad_status/badstatus/model/JsonReader$Token;" (.ref s_ARRAY)) (hdm : ¬ (dp = md)) :
    MetFree l (⟨cs0, "nextElement", "()Lcom/example/bad_status/badstatus/model/JsonReader$Token;"⟩ : MethodName) (head1 (Jvm.Cond.code (⟨cs0, "nextElement", "()Lcom/example/bad_status/badstatus/model/JsonReader$Token;"⟩ : MethodName) prog_11_method_4_code 3 (some (.object cs1)) :: ws) ({ frames := 3, cells := 0, slots := 0, locals := 39 } : Room)) (fun a U => a = #[(.ref a0)] ∧ Z.Warmed39 U.vm ∧ U.heap = h0) (fun _ _ _ _ _ => True) (fun _ U o U' => ∃ v L, o = .returned v ∧ Q_rmNe_4_r_0 Z a0 ba md dp tk ts xs xe es as_ ig k_ba s_ARRAY h0 n0 v U'.heap L ∧ FrameEnd U o U' L ({ frames := 3, cells := 0, slots := 0, locals := 39 } : Room).cells ({ frames := 3, cells := 0, slots := 0, locals := 39 } : Room).slots) := by
  refine MetFree.of_bodySF (plainFor_of_name pn_0) hisR ?_
  intro p e s m args below meth c s₁ Bd hml0 hP hK
  obtain ⟨rfl, hZ, hh⟩ := hP
  have hx := Bd.exec
  have hby := Bd.bytes
  have hml : c.maxLocals = 3 := hml0
  have dd : ∀ {pc : Nat} {r : Except DecodeError (Instr × Nat)}, decode prog_11_method_4_code pc = r → decode c.code pc = r := fun q => hb hby q
  have hown : s.vm.findClass cs0 = some m.cls := findClass_of_methodNamed Bd.named
  have hnm := (name_of_methodNamed Bd.named Bd.method).1
  have X0 : Stand p l e ({ frames := 3, cells := 0, slots := 0, locals := 39 } : Room) s m #[(.ref a0)] below meth c s₁ [] 0 0 := Stand.of_body Bd
  have e0 : s₁.heap = h0 := by rw [← hh, Bd.state]; rfl
  have N0 := Fr.nil n0
  have hret := Bd.returns
  have hlk := Bd.notSynchronized
  show Gz p e below s ({ frames := 3, cells := 0, slots := 0, locals := 39 } : Room).cells ({ frames := 3, cells := 0, slots := 0, locals := 39 } : Room).slots (Q_rmNe_4_r_0 Z a0 ba md dp tk ts xs xe es as_ ig k_ba s_ARRAY h0 n0) (s₁.setTop (entryFrame m #[(.ref a0)] 3))
  refine Gz.enter (ef_rmNe_4_r_0 m a0) ?_
  refine Gz.aloadN 1 X0 hx (dd d7_0) rfl rfl rfl ?_
  obtain ⟨cq1, q1, q1'⟩ := E_a0.cell
  obtain ⟨_, _, ⟨T1, L1, k1, n1⟩, -, X1, ⟨Lc1, hQ1, l1, y1, z1⟩, st1⟩ := X0.privateBack hx (y := ym7) hown (mvT hZ (ww hw 33 rfl)) (mvT hZ (ww hw 34 rfl)) (own_selp (y := ym7) (y' := ym8) rfl (mvT hZ (ww hw 31 rfl)) (mvT hZ (ww hw 30 rfl)) (mvT hZ (ww hw 34 rfl)) (Cond.privateMethod_at (mvP hZ (ww hw 35 rfl) (args := #[]))) (by decide)) (Cond.privateMethod_at (mvP hZ (ww hw 35 rfl) (args := #[]))) (mvT hZ (ww hw 36 rfl)) (by decide) (backOf (W := 0) (rmSw_4_r l Z av0 hw [] a0 ba md dp (0 : Int32) tk ts xs xe es as_ ig k_ba h0 n0 Z0 E_a0 F_bytes_a0 F_maxDepth_a0 F_position_a0 F_depth_a0 F_first_a0 F_token_a0 F_tokenStart_a0 F_textStart_a0 F_textEnd_a0 F_escaped_a0 F_ascii_a0 F_integral_a0 g_a0 V_ba ne_ba_a0) hZ (ww hw 36 rfl) (ww hw 15 rfl) (by decide) (by decide)) (g := (mkF m 1 #[.val (.ref a0), .unset, .unset] [(.ref a0)])) rfl (by rw [hml]; rfl) (Steps.refl _) (a := a0) (by rw [e0]; exact q1) q1' (argsL := []) (rest := []) (lenOf pd_5 rfl) rfl (Nat.le_refl _) (dd d7_1) (fun _ _ => ⟨rfl, e0, (by decide : 0 + 0 ≤ _), (by decide : 0 + 0 ≤ _)⟩)
  dsimp only [Pt.U, Pt.locs, Pt.cells, Pt.slots, Q_rmSw_4_r] at X1 l1 y1 z1 st1 hQ1
  subst l1 y1 z1
  obtain ⟨rfl, N1q, K1q, QE1_0, QF1_0, QF1_1, QF1_2, QF1_3, QF1_4, QF1_5, QF1_6, QF1_7, QF1_8, QF1_9, QF1_10, QF1_11⟩ := hQ1
  have N1 := Fr.app N0 N1q
  have f1_E_a0 := Exa.keep E_a0 K1q
  have f1_V_ba := Arv.keep V_ba K1q (ninS ne_ba_a0 nin0)
  have f1_S_s_ARRAY := own_staK S_s_ARRAY K1q (allS (nst_of E_a0) all0)
  have SZ1 := Nat.le_trans Z0 K1q.1
  have K1 := Keep.trans (Keep.refl h0 [a0]) K1q (allS (Or.inl (List.mem_of_getElem? (i := 0) rfl)) all0)
  refine Gz.tr st1 ?_
  refine Gz.istoreN 5 #[.val (.ref a0), .val (.int (44 : Int32)), .unset] X1 hx (dd d7_4) rfl rfl ?_
  refine Gz.aconstNull 6 X1 hx (dd d7_5) rfl ?_
  refine Gz.astoreN 7 #[.val (.ref a0), .val (.int (44 : Int32)), .val .null] X1 hx (dd d7_6) rfl rfl rfl ?_
  refine Gz.iloadN 8 X1 hx (dd d7_7) rfl rfl ?_
  refine Gz.bipush 10 (93 : Int32) X1 hx (dd d7_8) rfl rfl ?_
  refine Gz.icmpNo 13 X1 hx (dd d7_10) (feq (by decide : ¬ ((44 : Int32) = (93 : Int32)))).1 rfl ?_
  refine Gz.aloadN 14 X1 hx (dd d7_13) rfl rfl rfl ?_
  refine Gz.getF 17 X1 hx hZ hown (dd d7_14) (host := "") (Or.inl (ww hw 49 rfl)) Via.refl rfl QF1_4 rfl fun T2 X2 e2 => ?_
  refine Gz.ifNo 20 X2 hx (dd d7_17) ((if0 _ _).trans (teq (by decide : (0 : Int32) = (0 : Int32))).2) rfl ?_
  refine Gz.aloadN 21 X2 hx (dd d7_20) rfl rfl rfl ?_
  refine Gz.iloadN 22 X2 hx (dd d7_21) rfl rfl ?_
  obtain ⟨cq3, q3, q3'⟩ := QE1_0.cell
  obtain ⟨_, _, ⟨T3, L3, k3, n3⟩, -, X3, ⟨Lc3, hQ3, l3, y3, z3⟩, st3⟩ := X2.privateBack hx (y := ym19) hown (mvT hZ (ww hw 123 rfl)) (mvT hZ (ww hw 124 rfl)) (own_selp (y := ym19) (y' := ym8) rfl (mvT hZ (ww hw 31 rfl)) (mvT hZ (ww hw 30 rfl)) (mvT hZ (ww hw 124 rfl)) (Cond.privateMethod_at (mvP hZ (ww hw 125 rfl) (args := #[]))) (by decide)) (Cond.privateMethod_at (mvP hZ (ww hw 125 rfl) (args := #[]))) (mvT hZ (ww hw 126 rfl)) (by decide) (backOf (W := 0) (rmPc_4_r l Z av0 hw [] a0 ba md dp (0 : Int32) tk ts xs xe es as_ ig k_ba T1.heap n0 SZ1 QE1_0 QF1_0 QF1_1 QF1_2 QF1_3 QF1_4 QF1_5 QF1_6 QF1_7 QF1_8 QF1_9 QF1_10 QF1_11 g_a0 f1_V_ba ne_ba_a0) hZ (ww hw 126 rfl) (ww hw 15 rfl) (by decide) (by decide)) (g := (mkF m 22 #[.val (.ref a0), .val (.int (44 : Int32)), .val .null] [(.int (44 : Int32)), (.ref a0)])) rfl (by rw [hml]; rfl) (Steps.refl _) (a := a0) (by rw [e2]; exact q3) q3' (argsL := [(.int (44 : Int32))]) (rest := []) (lenOf pd_10 rfl) rfl (Nat.le_refl _) (dd d7_22) (fun _ _ => ⟨rfl, e2, (by decide : 0 + 0 ≤ _), (by decide : 0 + 0 ≤ _)⟩)
  dsimp only [Pt.U, Pt.locs, Pt.cells, Pt.slots, Q_rmPc_4_r] at X3 l3 y3 z3 st3 hQ3
  subst l3 y3 z3
  obtain ⟨rfl, N3q, K3q, QE3_0, QF3_0, QF3_1, QF3_2, QF3_3, QF3_4, QF3_5, QF3_6, QF3_7, QF3_8, QF3_9, QF3_10, QF3_11⟩ := hQ3
  have N3 := Fr.app N1 N3q
  have f3_E_a0 := Exa.keep QE1_0 K3q
  have f3_V_ba := Arv.keep f1_V_ba K3q (ninS ne_ba_a0 nin0)
  have f3_S_s_ARRAY := own_staK f1_S_s_ARRAY K3q (allS (nst_of QE1_0) all0)
  have SZ3 := Nat.le_trans SZ1 K3q.1
  have K3 := Keep.trans K1 K3q (allS (Or.inl (List.mem_of_getElem? (i := 0) rfl)) all0)
  refine Gz.tr st3 ?_
  refine Gz.pop 26 X3 hx (dd d7_25) rfl rfl ?_
  refine Gz.aloadN 27 X3 hx (dd d7_26) rfl rfl rfl ?_
  obtain ⟨cq4, kq4, q4a, q4b, q4c⟩ := isOf hZ rfl QE3_0
  obtain ⟨_, _, ⟨T4, L4, k4, n4⟩, -, X4, ⟨Lc4, hQ4, l4, y4, z4⟩, st4⟩ := X3.virtualBack hx (y := ym8) (z := ym8) hown (mvT hZ (ww hw 58 rfl)) (mvT hZ (ww hw 29 rfl)) (notFace_of_selects (args := #[]) (mvT hZ (ww hw 31 rfl))) (mvT hZ (ww hw 31 rfl)) (mvT hZ (ww hw 30 rfl)) (by decide) (backOf (W := 0) (rmNx_5_r l Z av0 hw [] a0 ba md dp (0 : Int32) tk ts xs xe es as_ ig k_ba s_ARRAY T3.heap n0 SZ3 QE3_0 QF3_0 QF3_1 QF3_2 QF3_3 QF3_4 QF3_5 QF3_6 QF3_7 QF3_8 QF3_9 QF3_10 QF3_11 g_a0 f3_V_ba ne_ba_a0 f3_S_s_ARRAY (hdm : ¬ (dp = md))) hZ (ww hw 32 rfl) (ww hw 15 rfl) (by decide) (by decide)) q4a q4c (g := (mkF m 27 #[.val (.ref a0), .val (.int (44 : Int32)), .val .null] [(.ref a0)])) rfl (by rw [hml]; rfl) (Steps.refl _) (argsL := []) (rest := []) (lenOf pd_8 rfl) rfl (Nat.le_refl _) (dd d7_27) (fun _ _ => ⟨rfl, rfl, (by decide : 0 + 0 ≤ _), (by decide : 0 + 0 ≤ _)⟩)
  dsimp only [Pt.U, Pt.locs, Pt.cells, Pt.slots, Q_rmNx_5_r] at X4 l4 y4 z4 st4 hQ4
  subst l4 y4 z4
  obtain ⟨rfl, N4q, K4q, QE4_0, QF4_0, QF4_1, QF4_2, QF4_3, QF4_4, QF4_5, QF4_6, QF4_7, QF4_8, QF4_9, QF4_10, QF4_11⟩ := hQ4
  have N4 := Fr.app N3 N4q
  have f4_E_a0 := Exa.keep QE3_0 K4q
  have f4_V_ba := Arv.keep f3_V_ba K4q (ninS ne_ba_a0 nin0)
  have f4_S_s_ARRAY := own_staK f3_S_s_ARRAY K4q (allS (nst_of QE3_0) all0)
  have SZ4 := Nat.le_trans SZ3 K4q.1
  have K4 := Keep.trans K3 K4q (allS (Or.inl (List.mem_of_getElem? (i := 0) rfl)) all0)
  refine Gz.tr st4 ?_
  refine Gz.astoreN 31 #[.val (.ref a0), .val (.int (44 : Int32)), .val (.ref s_ARRAY)] X4 hx (dd d7_30) rfl rfl rfl ?_
  refine Gz.goto 38 X4 hx (dd d7_31) (by decide) (by decide) ?_
  refine Gz.aloadN 39 X4 hx (dd d7_38) rfl rfl rfl ?_
  refine Gz.fin X4 (v := some (.ref s_ARRAY)) (fun h => by rw [hret] at h; cases h) hlk (by decide) (by decide) (fun fs hr => retA X4 hx hret (dd d7_39) hr rfl rfl) ?_
  exact ⟨rfl, N4, K4, QE4_0, QF4_0, QF4_1, QF4_2, QF4_3, QF4_4, QF4_5, QF4_6, QF4_7, QF4_8, QF4_9, QF4_10, QF4_11⟩
set_option maxRecDepth 65536 in
set_option maxHeartbeats 40000000 in
theorem sgA {p : Program} {l : Launch} {e : Env} {s : State} {m : MethodId} {args : Array Value} {below : List Frame} {meth : Method} {c : Code} {T0 : State} {locs : List Loc} {Z : State} {av0 : Array Value} {hS : Heap} (s0 : Slot) (dq : Int32) (s2 : Slot) (ba : Addr) (aat : Addr) (ast : Addr) (aks : Addr) (kk : Int32) (nn : Int32) (md : Int32) (st_OBJECT : Addr) (st_ARRAY : Addr) (st_NUMBER : Addr) (st_TRUE : Addr) (tb : Addr) (k_tb : ClassId) (k_ba : ClassId) (k_aat : ClassId) (k_ast : ClassId) (k_aks : ClassId) (n0 : Nat)
    (X0 : Stand p l e room_1 s m args below meth c T0 locs 4 28) (hx : p.tables.exec = Jvm.exec) (hZ : Z.Warmed39 s.vm) (hw : ∀ d ∈ tables_1, d.before av0 Z = true) (hby : c.code = code) (hml : c.maxLocals = 15) (hown : s.vm.findClass "com/example/bad_status/badstatus/model/JsonReaderResetPinLaw" = some m.cls) (hret : meth.sig.returnType = some .boolean) (hlk : meth.locks = false) (e0 : T0.heap = hS) (N0 : Fr n0 locs) (Z0 : n0 ≤ hS.size) (S_st_OBJECT : Sta Z hS cs1 "OBJECT" "Lcom/example/bad_status/badstatus/model/JsonReader$Token;" (.ref st_OBJECT)) (S_st_ARRAY : Sta Z hS cs1 "ARRAY" "Lcom/example/bad_status/badstatus/model/JsonReader$Token;" (.ref st_ARRAY)) (S_st_NUMBER : Sta Z hS cs1 "NUMBER" "Lcom/example/bad_status/badstatus/model/JsonReader$Token;" (.ref st_NUMBER)) (S_st_TRUE : Sta Z hS cs1 "TRUE" "Lcom/example/bad_status/badstatus/model/JsonReader$Token;" (.ref st_TRUE)) (ne_st_OBJECT_st_ARRAY : st_OBJECT ≠ st_ARRAY) (ne_st_OBJECT_st_NUMBER : st_OBJECT ≠ st_NUMBER) (ne_st_OBJECT_st_TRUE : st_OBJECT ≠ st_TRUE) (ne_st_ARRAY_st_NUMBER : st_ARRAY ≠ st_NUMBER) (ne_st_ARRAY_st_TRUE : st_ARRAY ≠ st_TRUE) (S_tb : Sta Z hS cs0 "TRUE" "[B" (.ref tb)) (V_tb : Arv Z hS tb k_tb .byte (4 : Int32) [(.int (116 : Int32)), (.int (114 : Int32)), (.int (117 : Int32)), (.int (101 : Int32))] (.int (0 : Int32))) (V_ba : Arv Z hS ba k_ba .byte (10 : Int32) [(.int (91 : Int32)), (.int (32 : Int32)), (.int (52 : Int32)), (.int (50 : Int32)), (.int (44 : Int32)), (.int (91 : Int32)), (.int (116 : Int32)), (.int (114 : Int32)), (.int (117 : Int32)), (.int (101 : Int32))] (.int (0 : Int32))) (V_aat : Arv Z hS aat k_aat .int (6 : Int32) [(.int (0 : Int32)), (.int (1 : Int32)), (.int (2 : Int32)), (.int (3 : Int32)), (.int (5 : Int32)), (.int (6 : Int32))] (.int (0 : Int32))) (V_ast : Arv Z hS ast k_ast .int (6 : Int32) [(.int (0 : Int32)), (.int (2 : Int32)), (.int (2 : Int32)), (.int (3 : Int32)), (.int (5 : Int32)), (.int (6 : Int32))] (.int (0 : Int32))) (V_aks : Arv Z hS aks k_aks (.object cs1) (6 : Int32) [(.ref st_ARRAY), (.ref st_NUMBER), (.ref st_NUMBER), (.ref st_NUMBER), (.ref st_ARRAY), (.ref st_TRUE)] .null) (hdm : ¬ (dq = md)) (hm0 : ¬ ((0 : Int32) = md)) (hm1 : ¬ ((1 : Int32) = md)) (hkk : kk = (0 : Int32) ∨ kk = (1 : Int32) ∨ kk = (2 : Int32) ∨ kk = (3 : Int32) ∨ kk = (4 : Int32) ∨ kk = (5 : Int32)) (hnn : nn = (0 : Int32) ∨ nn = (1 : Int32) ∨ nn = (2 : Int32) ∨ nn = (3 : Int32)) :
    Gz p e below s 24 192 (Q_law n0) (T0.setTop (mkF m 194 #[s0, .val (.int dq), s2, .val (.ref ba), .val (.ref aat), .val (.ref ast), .val (.ref aks), .val (.int kk), .val (.int nn), .val (.int md), .unset, .unset, .unset, .unset, .unset] [])) := by
  have dd : ∀ {pc : Nat} {r : Except DecodeError (Instr × Nat)}, decode code pc = r → decode c.code pc = r := fun q => hb hby q
  obtain ⟨T1, h1, X1, e1, E1, A1, D1, -, st1⟩ := newO X0 hx hZ hown (ww hw 13 rfl) (ww hw 14 rfl) (ww hw 15 rfl) e0 (g := (mkF m 194 #[s0, .val (.int dq), s2, .val (.ref ba), .val (.ref aat), .val (.ref ast), .val (.ref aks), .val (.int kk), .val (.int nn), .val (.int md), .unset, .unset, .unset, .unset, .unset] [])) rfl (dd at_194) (by decide) (by decide)
  obtain ⟨b1, g1⟩ : ∃ z, z = hS.size := ⟨_, rfl⟩
  rw [← g1] at A1 D1 st1
  have ne_tb_b1 : tb ≠ b1 := Nat.ne_of_lt (Nat.lt_of_lt_of_le (V_tb).lt (Nat.le_of_eq g1.symm))
  have ne_ba_b1 : ba ≠ b1 := Nat.ne_of_lt (Nat.lt_of_lt_of_le (V_ba).lt (Nat.le_of_eq g1.symm))
  have ne_aat_b1 : aat ≠ b1 := Nat.ne_of_lt (Nat.lt_of_lt_of_le (V_aat).lt (Nat.le_of_eq g1.symm))
  have ne_ast_b1 : ast ≠ b1 := Nat.ne_of_lt (Nat.lt_of_lt_of_le (V_ast).lt (Nat.le_of_eq g1.symm))
  have ne_aks_b1 : aks ≠ b1 := Nat.ne_of_lt (Nat.lt_of_lt_of_le (V_aks).lt (Nat.le_of_eq g1.symm))
  have g_b1 : n0 ≤ b1 := Nat.le_trans Z0 (Nat.le_of_eq g1.symm)
  have SZ1 : n0 ≤ h1.size := Nat.le_trans Z0 E1.1
  have f1_S_st_OBJECT := Sta.ext E1 S_st_OBJECT
  have f1_S_st_ARRAY := Sta.ext E1 S_st_ARRAY
  have f1_S_st_NUMBER := Sta.ext E1 S_st_NUMBER
  have f1_S_st_TRUE := Sta.ext E1 S_st_TRUE
  have f1_S_tb := Sta.ext E1 S_tb
  have f1_V_tb := Arv.ext V_tb E1
  have f1_V_ba := Arv.ext V_ba E1
  have f1_V_aat := Arv.ext V_aat E1
  have f1_V_ast := Arv.ext V_ast E1
  have f1_V_aks := Arv.ext V_aks E1
  have F_bytes_b1 : Fld Z h1 b1 cs0 "bytes" "[B" .null := D1 (Or.inr (ww hw 23 rfl)) (ty := (.array .byte)) (by decide)
  have F_position_b1 : Fld Z h1 b1 cs0 "position" "I" (.int (0 : Int32)) := D1 (Or.inl (ww hw 25 rfl)) (ty := .int) (by decide)
  have F_maxDepth_b1 : Fld Z h1 b1 cs0 "maxDepth" "I" (.int (0 : Int32)) := D1 (Or.inr (ww hw 27 rfl)) (ty := .int) (by decide)
  have F_tokenStart_b1 : Fld Z h1 b1 cs0 "tokenStart" "I" (.int (0 : Int32)) := D1 (Or.inl (ww hw 41 rfl)) (ty := .int) (by decide)
  have F_depth_b1 : Fld Z h1 b1 cs0 "depth" "I" (.int (0 : Int32)) := D1 (Or.inl (ww hw 48 rfl)) (ty := .int) (by decide)
  have F_first_b1 : Fld Z h1 b1 cs0 "first" "Z" (.int (0 : Int32)) := D1 (Or.inl (ww hw 50 rfl)) (ty := .boolean) (by decide)
  have F_token_b1 : Fld Z h1 b1 cs0 "token" "Lcom/example/bad_status/badstatus/model/JsonReader$Token;" .null := D1 (Or.inl (ww hw 52 rfl)) (ty := (.object cs1)) (by decide)
  have F_textStart_b1 : Fld Z h1 b1 cs0 "textStart" "I" (.int (0 : Int32)) := D1 (Or.inl (ww hw 71 rfl)) (ty := .int) (by decide)
  have F_textEnd_b1 : Fld Z h1 b1 cs0 "textEnd" "I" (.int (0 : Int32)) := D1 (Or.inl (ww hw 73 rfl)) (ty := .int) (by decide)
  have F_escaped_b1 : Fld Z h1 b1 cs0 "escaped" "Z" (.int (0 : Int32)) := D1 (Or.inl (ww hw 75 rfl)) (ty := .boolean) (by decide)
  have F_ascii_b1 : Fld Z h1 b1 cs0 "ascii" "Z" (.int (0 : Int32)) := D1 (Or.inl (ww hw 77 rfl)) (ty := .boolean) (by decide)
  have F_integral_b1 : Fld Z h1 b1 cs0 "integral" "Z" (.int (0 : Int32)) := D1 (Or.inl (ww hw 79 rfl)) (ty := .boolean) (by decide)
  refine Gz.st st1 ?_
  refine Gz.dup 198 X1 hx (dd at_197) rfl rfl ?_
  refine Gz.aloadN 199 X1 hx (dd at_198) rfl rfl rfl ?_
  refine Gz.iconst 200 (0 : Int32) X1 hx (dd at_199) rfl rfl ?_
  refine Gz.iload 202 X1 hx (dd at_200) rfl rfl ?_
  obtain ⟨_, _, ⟨T2, L2, k2, n2⟩, -, X2, ⟨Lc2, hQ2, l2, y2, z2⟩, st2⟩ := X1.specialBack hx (y := ym17) rfl hown (mvT hZ (ww hw 16 rfl)) (mvT hZ (ww hw 17 rfl)) (mvT hZ (ww hw 18 rfl)) (by decide) (backOf (W := 1) (rm1 l Z av0 hw [] b1 ba (0 : Int32) md  h1 n0 SZ1 A1 F_bytes_b1 F_maxDepth_b1 F_position_b1 F_depth_b1 F_first_b1 F_token_b1 F_tokenStart_b1 F_textStart_b1 F_textEnd_b1 F_escaped_b1 F_ascii_b1 F_integral_b1 g_b1) hZ (ww hw 18 rfl) (ww hw 15 rfl) (by decide) (by decide)) (g := (mkF m 202 #[s0, .val (.int dq), s2, .val (.ref ba), .val (.ref aat), .val (.ref ast), .val (.ref aks), .val (.int kk), .val (.int nn), .val (.int md), .unset, .unset, .unset, .unset, .unset] [(.int md), (.int (0 : Int32)), (.ref ba), (.ref b1), (.ref b1)])) rfl (by rw [hml]; rfl) (Steps.refl _) (a := b1) (argsL := [(.ref ba), (.int (0 : Int32)), (.int md)]) (rest := [(.ref b1)]) (lenOf pd_14 rfl) rfl (Nat.le_refl _) (dd at_202) (fun _ _ => ⟨rfl, e1, (by decide : 5 + 0 ≤ _), (by decide : 40 + 0 ≤ _)⟩)
  dsimp only [Pt.U, Pt.locs, Pt.cells, Pt.slots, Q_rm1] at X2 l2 y2 z2 st2 hQ2
  subst l2 y2 z2
  obtain ⟨rfl, N2q, K2q, QE2_0, QF2_0, QF2_1, QF2_2, QF2_3, QF2_4, QF2_5, QF2_6, QF2_7, QF2_8, QF2_9, QF2_10, QF2_11⟩ := hQ2
  have N2 := Fr.app N0 N2q
  have f2_S_st_OBJECT := own_staK f1_S_st_OBJECT K2q (allS (nst_of A1) all0)
  have f2_S_st_ARRAY := own_staK f1_S_st_ARRAY K2q (allS (nst_of A1) all0)
  have f2_S_st_NUMBER := own_staK f1_S_st_NUMBER K2q (allS (nst_of A1) all0)
  have f2_S_st_TRUE := own_staK f1_S_st_TRUE K2q (allS (nst_of A1) all0)
  have f2_S_tb := own_staK f1_S_tb K2q (allS (nst_of A1) all0)
  have f2_V_tb := Arv.keep f1_V_tb K2q (ninS ne_tb_b1 nin0)
  have f2_V_ba := Arv.keep f1_V_ba K2q (ninS ne_ba_b1 nin0)
  have f2_V_aat := Arv.keep f1_V_aat K2q (ninS ne_aat_b1 nin0)
  have f2_V_ast := Arv.keep f1_V_ast K2q (ninS ne_ast_b1 nin0)
  have f2_V_aks := Arv.keep f1_V_aks K2q (ninS ne_aks_b1 nin0)
  have f2_Eb1 := Exa.keep A1 K2q
  have SZ2 := Nat.le_trans SZ1 K2q.1
  refine Gz.tr st2 ?_
  refine Gz.astore 207 #[s0, .val (.int dq), s2, .val (.ref ba), .val (.ref aat), .val (.ref ast), .val (.ref aks), .val (.int kk), .val (.int nn), .val (.int md), .val (.ref b1), .unset, .unset, .unset, .unset] X2 hx (dd at_205) rfl rfl rfl ?_
  show Gz p e below s _ _ _ (T2.setTop (mkF m 207 #[s0, .val (.int dq), s2, .val (.ref ba), .val (.ref aat), .val (.ref ast), .val (.ref aks), .val (.int kk), .val (.int nn), .val (.int md), .val (.ref b1), .unset, .unset, .unset, .unset] []))
  rcases hnn with rfl | rfl | rfl | rfl
  · refine Gz.iload 209 X2 hx (dd at_207) rfl rfl ?_
    refine Gz.iconst 210 (1 : Int32) X2 hx (dd at_209) rfl rfl ?_
    refine Gz.icmpYes 219 X2 hx (dd at_210) (tlt (by decide : (0 : Int32) < (1 : Int32))).1 (by decide) (by decide) ?_
    refine Gz.iload 221 X2 hx (dd at_219) rfl rfl ?_
    refine Gz.iconst 222 (2 : Int32) X2 hx (dd at_221) rfl rfl ?_
    refine Gz.icmpYes 231 X2 hx (dd at_222) (tlt (by decide : (0 : Int32) < (2 : Int32))).1 (by decide) (by decide) ?_
    refine Gz.iload 233 X2 hx (dd at_231) rfl rfl ?_
    refine Gz.iconst 234 (3 : Int32) X2 hx (dd at_233) rfl rfl ?_
    refine Gz.icmpYes 243 X2 hx (dd at_234) (tlt (by decide : (0 : Int32) < (3 : Int32))).1 (by decide) (by decide) ?_
    exact sgBn (s0) dq (s2) (.val (.ref ba)) aat ast aks kk (.val (.int (0 : Int32))) (.val (.int md)) b1 st_OBJECT st_ARRAY st_NUMBER st_TRUE tb k_tb ba md (0 : Int32) (0 : Int32) (0 : Int32) (0 : Int32) (0 : Int32) (0 : Int32) (0 : Int32) (0 : Int32) (0 : Int32) k_ba k_aat k_ast k_aks n0 X2 hx hZ hw hby hml hown hret hlk rfl N2 SZ2 f2_S_st_OBJECT f2_S_st_ARRAY f2_S_st_NUMBER f2_S_st_TRUE ne_st_OBJECT_st_ARRAY ne_st_OBJECT_st_NUMBER ne_st_OBJECT_st_TRUE ne_st_ARRAY_st_NUMBER ne_st_ARRAY_st_TRUE f2_S_tb f2_V_tb QE2_0 QF2_0 QF2_1 QF2_2 QF2_3 QF2_4 QF2_5 QF2_6 QF2_7 QF2_8 QF2_9 QF2_10 QF2_11 g_b1 f2_V_ba ne_ba_b1 f2_V_aat f2_V_ast f2_V_aks ne_aat_b1 ne_ast_b1 ne_aks_b1 ne_tb_b1 hdm hkk
  · refine Gz.iload 209 X2 hx (dd at_207) rfl rfl ?_
    refine Gz.iconst 210 (1 : Int32) X2 hx (dd at_209) rfl rfl ?_
    refine Gz.icmpNo 213 X2 hx (dd at_210) (flt (by decide : ¬ ((1 : Int32) < (1 : Int32)))).1 rfl ?_
    refine Gz.aload 215 X2 hx (dd at_213) rfl rfl rfl ?_
    obtain ⟨cq3, kq3, q3a, q3b, q3c⟩ := isOf hZ rfl QE2_0
    obtain ⟨_, _, ⟨T3, L3, k3, n3⟩, -, X3, ⟨Lc3, hQ3, l3, y3, z3⟩, st3⟩ := X2.virtualBack hx (y := ym8) (z := ym8) hown (mvT hZ (ww hw 28 rfl)) (mvT hZ (ww hw 29 rfl)) (notFace_of_selects (args := #[]) (mvT hZ (ww hw 31 rfl))) (mvT hZ (ww hw 31 rfl)) (mvT hZ (ww hw 30 rfl)) (by decide) (backOf (W := 0) (rmNx_0_n l Z av0 hw [] b1 ba md (0 : Int32) (0 : Int32) (0 : Int32) (0 : Int32) (0 : Int32) (0 : Int32) (0 : Int32) (0 : Int32) k_ba st_ARRAY T2.heap n0 SZ2 QE2_0 QF2_0 QF2_1 QF2_2 QF2_3 QF2_4 QF2_5 QF2_6 QF2_7 QF2_8 QF2_9 QF2_10 QF2_11 g_b1 f2_V_ba ne_ba_b1 f2_S_st_ARRAY hm0) hZ (ww hw 32 rfl) (ww hw 15 rfl) (by decide) (by decide)) q3a q3c (g := (mkF m 215 #[s0, .val (.int dq), s2, .val (.ref ba), .val (.ref aat), .val (.ref ast), .val (.ref aks), .val (.int kk), .val (.int (1 : Int32)), .val (.int md), .val (.ref b1), .unset, .unset, .unset, .unset] [(.ref b1)])) rfl (by rw [hml]; rfl) (Steps.refl _) (argsL := []) (rest := []) (lenOf pd_8 rfl) rfl (Nat.le_refl _) (dd at_215) (fun _ _ => ⟨rfl, rfl, (by decide : 5 + 0 ≤ _), (by decide : 40 + 0 ≤ _)⟩)
    dsimp only [Pt.U, Pt.locs, Pt.cells, Pt.slots, Q_rmNx_0_n] at X3 l3 y3 z3 st3 hQ3
    subst l3 y3 z3
    obtain ⟨rfl, N3q, K3q, QE3_0, QF3_0, QF3_1, QF3_2, QF3_3, QF3_4, QF3_5, QF3_6, QF3_7, QF3_8, QF3_9, QF3_10, QF3_11⟩ := hQ3
    have N3 := Fr.app N2 N3q
    have f3_S_st_OBJECT := own_staK f2_S_st_OBJECT K3q (allS (nst_of QE2_0) all0)
    have f3_S_st_ARRAY := own_staK f2_S_st_ARRAY K3q (allS (nst_of QE2_0) all0)
    have f3_S_st_NUMBER := own_staK f2_S_st_NUMBER K3q (allS (nst_of QE2_0) all0)
    have f3_S_st_TRUE := own_staK f2_S_st_TRUE K3q (allS (nst_of QE2_0) all0)
    have f3_S_tb := own_staK f2_S_tb K3q (allS (nst_of QE2_0) all0)
    have f3_V_tb := Arv.keep f2_V_tb K3q (ninS ne_tb_b1 nin0)
    have f3_V_ba := Arv.keep f2_V_ba K3q (ninS ne_ba_b1 nin0)
    have f3_V_aat := Arv.keep f2_V_aat K3q (ninS ne_aat_b1 nin0)
    have f3_V_ast := Arv.keep f2_V_ast K3q (ninS ne_ast_b1 nin0)
    have f3_V_aks := Arv.keep f2_V_aks K3q (ninS ne_aks_b1 nin0)
    have f3_E_b1 := Exa.keep QE2_0 K3q
    have SZ3 := Nat.le_trans SZ2 K3q.1
    replace QF3_3 : Fld Z T3.heap b1 cs0 "depth" "I" (.int (1 : Int32)) := QF3_3
    refine Gz.tr st3 ?_
    refine Gz.pop 219 X3 hx (dd at_218) rfl rfl ?_
    refine Gz.iload 221 X3 hx (dd at_219) rfl rfl ?_
    refine Gz.iconst 222 (2 : Int32) X3 hx (dd at_221) rfl rfl ?_
    refine Gz.icmpYes 231 X3 hx (dd at_222) (tlt (by decide : (1 : Int32) < (2 : Int32))).1 (by decide) (by decide) ?_
    refine Gz.iload 233 X3 hx (dd at_231) rfl rfl ?_
    refine Gz.iconst 234 (3 : Int32) X3 hx (dd at_233) rfl rfl ?_
    refine Gz.icmpYes 243 X3 hx (dd at_234) (tlt (by decide : (1 : Int32) < (3 : Int32))).1 (by decide) (by decide) ?_
    exact sgBr (s0) dq (s2) (.val (.ref ba)) aat ast aks kk (.val (.int (1 : Int32))) (.val (.int md)) b1 st_OBJECT st_ARRAY st_NUMBER st_TRUE tb k_tb ba md (1 : Int32) (1 : Int32) (1 : Int32) st_ARRAY (0 : Int32) (0 : Int32) (0 : Int32) (0 : Int32) (0 : Int32) (0 : Int32) k_ba k_aat k_ast k_aks n0 X3 hx hZ hw hby hml hown hret hlk rfl N3 SZ3 f3_S_st_OBJECT f3_S_st_ARRAY f3_S_st_NUMBER f3_S_st_TRUE ne_st_OBJECT_st_ARRAY ne_st_OBJECT_st_NUMBER ne_st_OBJECT_st_TRUE ne_st_ARRAY_st_NUMBER ne_st_ARRAY_st_TRUE f3_S_tb f3_V_tb QE3_0 QF3_0 QF3_1 QF3_2 QF3_3 QF3_4 QF3_5 QF3_6 QF3_7 QF3_8 QF3_9 QF3_10 QF3_11 g_b1 f3_V_ba ne_ba_b1 f3_V_aat f3_V_ast f3_V_aks ne_aat_b1 ne_ast_b1 ne_aks_b1 ne_tb_b1 hdm hkk
  · refine Gz.iload 209 X2 hx (dd at_207) rfl rfl ?_
    refine Gz.iconst 210 (1 : Int32) X2 hx (dd at_209) rfl rfl ?_
    refine Gz.icmpNo 213 X2 hx (dd at_210) (flt (by decide : ¬ ((2 : Int32) < (1 : Int32)))).1 rfl ?_
    refine Gz.aload 215 X2 hx (dd at_213) rfl rfl rfl ?_
    obtain ⟨cq4, kq4, q4a, q4b, q4c⟩ := isOf hZ rfl QE2_0
    obtain ⟨_, _, ⟨T4, L4, k4, n4⟩, -, X4, ⟨Lc4, hQ4, l4, y4, z4⟩, st4⟩ := X2.virtualBack hx (y := ym8) (z := ym8) hown (mvT hZ (ww hw 28 rfl)) (mvT hZ (ww hw 29 rfl)) (notFace_of_selects (args := #[]) (mvT hZ (ww hw 31 rfl))) (mvT hZ (ww hw 31 rfl)) (mvT hZ (ww hw 30 rfl)) (by decide) (backOf (W := 0) (rmNx_0_n l Z av0 hw [] b1 ba md (0 : Int32) (0 : Int32) (0 : Int32) (0 : Int32) (0 : Int32) (0 : Int32) (0 : Int32) (0 : Int32) k_ba st_ARRAY T2.heap n0 SZ2 QE2_0 QF2_0 QF2_1 QF2_2 QF2_3 QF2_4 QF2_5 QF2_6 QF2_7 QF2_8 QF2_9 QF2_10 QF2_11 g_b1 f2_V_ba ne_ba_b1 f2_S_st_ARRAY hm0) hZ (ww hw 32 rfl) (ww hw 15 rfl) (by decide) (by decide)) q4a q4c (g := (mkF m 215 #[s0, .val (.int dq), s2, .val (.ref ba), .val (.ref aat), .val (.ref ast), .val (.ref aks), .val (.int kk), .val (.int (2 : Int32)), .val (.int md), .val (.ref b1), .unset, .unset, .unset, .unset] [(.ref b1)])) rfl (by rw [hml]; rfl) (Steps.refl _) (argsL := []) (rest := []) (lenOf pd_8 rfl) rfl (Nat.le_refl _) (dd at_215) (fun _ _ => ⟨rfl, rfl, (by decide : 5 + 0 ≤ _), (by decide : 40 + 0 ≤ _)⟩)
    dsimp only [Pt.U, Pt.locs, Pt.cells, Pt.slots, Q_rmNx_0_n] at X4 l4 y4 z4 st4 hQ4
    subst l4 y4 z4
    obtain ⟨rfl, N4q, K4q, QE4_0, QF4_0, QF4_1, QF4_2, QF4_3, QF4_4, QF4_5, QF4_6, QF4_7, QF4_8, QF4_9, QF4_10, QF4_11⟩ := hQ4
    have N4 := Fr.app N2 N4q
    have f4_S_st_OBJECT := own_staK f2_S_st_OBJECT K4q (allS (nst_of QE2_0) all0)
    have f4_S_st_ARRAY := own_staK f2_S_st_ARRAY K4q (allS (nst_of QE2_0) all0)
    have f4_S_st_NUMBER := own_staK f2_S_st_NUMBER K4q (allS (nst_of QE2_0) all0)
    have f4_S_st_TRUE := own_staK f2_S_st_TRUE K4q (allS (nst_of QE2_0) all0)
    have f4_S_tb := own_staK f2_S_tb K4q (allS (nst_of QE2_0) all0)
    have f4_V_tb := Arv.keep f2_V_tb K4q (ninS ne_tb_b1 nin0)
    have f4_V_ba := Arv.keep f2_V_ba K4q (ninS ne_ba_b1 nin0)
    have f4_V_aat := Arv.keep f2_V_aat K4q (ninS ne_aat_b1 nin0)
    have f4_V_ast := Arv.keep f2_V_ast K4q (ninS ne_ast_b1 nin0)
    have f4_V_aks := Arv.keep f2_V_aks K4q (ninS ne_aks_b1 nin0)
    have f4_E_b1 := Exa.keep QE2_0 K4q
    have SZ4 := Nat.le_trans SZ2 K4q.1
    replace QF4_3 : Fld Z T4.heap b1 cs0 "depth" "I" (.int (1 : Int32)) := QF4_3
    refine Gz.tr st4 ?_
    refine Gz.pop 219 X4 hx (dd at_218) rfl rfl ?_
    refine Gz.iload 221 X4 hx (dd at_219) rfl rfl ?_
    refine Gz.iconst 222 (2 : Int32) X4 hx (dd at_221) rfl rfl ?_
    refine Gz.icmpNo 225 X4 hx (dd at_222) (flt (by decide : ¬ ((2 : Int32) < (2 : Int32)))).1 rfl ?_
    refine Gz.aload 227 X4 hx (dd at_225) rfl rfl rfl ?_
    obtain ⟨cq5, kq5, q5a, q5b, q5c⟩ := isOf hZ rfl QE4_0
    obtain ⟨_, _, ⟨T5, L5, k5, n5⟩, -, X5, ⟨Lc5, hQ5, l5, y5, z5⟩, st5⟩ := X4.virtualBack hx (y := ym18) (z := ym18) hown (mvT hZ (ww hw 53 rfl)) (mvT hZ (ww hw 54 rfl)) (notFace_of_selects (args := #[]) (mvT hZ (ww hw 56 rfl))) (mvT hZ (ww hw 56 rfl)) (mvT hZ (ww hw 55 rfl)) (by decide) (backOf (W := 0) (rmNe_1_r_1 l Z av0 hw [] b1 ba md (1 : Int32) st_ARRAY (0 : Int32) (0 : Int32) (0 : Int32) (0 : Int32) (0 : Int32) (0 : Int32) k_ba st_NUMBER T4.heap n0 SZ4 QE4_0 QF4_0 QF4_1 QF4_2 QF4_3 QF4_4 QF4_5 QF4_6 QF4_7 QF4_8 QF4_9 QF4_10 QF4_11 g_b1 f4_V_ba ne_ba_b1 f4_S_st_NUMBER) hZ (ww hw 57 rfl) (ww hw 15 rfl) (by decide) (by decide)) q5a q5c (g := (mkF m 227 #[s0, .val (.int dq), s2, .val (.ref ba), .val (.ref aat), .val (.ref ast), .val (.ref aks), .val (.int kk), .val (.int (2 : Int32)), .val (.int md), .val (.ref b1), .unset, .unset, .unset, .unset] [(.ref b1)])) rfl (by rw [hml]; rfl) (Steps.refl _) (argsL := []) (rest := []) (lenOf pd_8 rfl) rfl (Nat.le_refl _) (dd at_227) (fun _ _ => ⟨rfl, rfl, (by decide : 5 + 0 ≤ _), (by decide : 40 + 0 ≤ _)⟩)
    dsimp only [Pt.U, Pt.locs, Pt.cells, Pt.slots, Q_rmNe_1_r_1] at X5 l5 y5 z5 st5 hQ5
    subst l5 y5 z5
    obtain ⟨rfl, N5q, K5q, QE5_0, QF5_0, QF5_1, QF5_2, QF5_3, QF5_4, QF5_5, QF5_6, QF5_7, QF5_8, QF5_9, QF5_10, QF5_11⟩ := hQ5
    have N5 := Fr.app N4 N5q
    have f5_S_st_OBJECT := own_staK f4_S_st_OBJECT K5q (allS (nst_of QE4_0) all0)
    have f5_S_st_ARRAY := own_staK f4_S_st_ARRAY K5q (allS (nst_of QE4_0) all0)
    have f5_S_st_NUMBER := own_staK f4_S_st_NUMBER K5q (allS (nst_of QE4_0) all0)
    have f5_S_st_TRUE := own_staK f4_S_st_TRUE K5q (allS (nst_of QE4_0) all0)
    have f5_S_tb := own_staK f4_S_tb K5q (allS (nst_of QE4_0) all0)
    have f5_V_tb := Arv.keep f4_V_tb K5q (ninS ne_tb_b1 nin0)
    have f5_V_ba := Arv.keep f4_V_ba K5q (ninS ne_ba_b1 nin0)
    have f5_V_aat := Arv.keep f4_V_aat K5q (ninS ne_aat_b1 nin0)
    have f5_V_ast := Arv.keep f4_V_ast K5q (ninS ne_ast_b1 nin0)
    have f5_V_aks := Arv.keep f4_V_aks K5q (ninS ne_aks_b1 nin0)
    have f5_E_b1 := Exa.keep QE4_0 K5q
    have SZ5 := Nat.le_trans SZ4 K5q.1
    refine Gz.tr st5 ?_
    refine Gz.pop 231 X5 hx (dd at_230) rfl rfl ?_
    refine Gz.iload 233 X5 hx (dd at_231) rfl rfl ?_
    refine Gz.iconst 234 (3 : Int32) X5 hx (dd at_233) rfl rfl ?_
    refine Gz.icmpYes 243 X5 hx (dd at_234) (tlt (by decide : (2 : Int32) < (3 : Int32))).1 (by decide) (by decide) ?_
    exact sgBr (s0) dq (s2) (.val (.ref ba)) aat ast aks kk (.val (.int (2 : Int32))) (.val (.int md)) b1 st_OBJECT st_ARRAY st_NUMBER st_TRUE tb k_tb ba md (4 : Int32) (1 : Int32) (0 : Int32) st_NUMBER (2 : Int32) (2 : Int32) (4 : Int32) (0 : Int32) (1 : Int32) (1 : Int32) k_ba k_aat k_ast k_aks n0 X5 hx hZ hw hby hml hown hret hlk rfl N5 SZ5 f5_S_st_OBJECT f5_S_st_ARRAY f5_S_st_NUMBER f5_S_st_TRUE ne_st_OBJECT_st_ARRAY ne_st_OBJECT_st_NUMBER ne_st_OBJECT_st_TRUE ne_st_ARRAY_st_NUMBER ne_st_ARRAY_st_TRUE f5_S_tb f5_V_tb QE5_0 QF5_0 QF5_1 QF5_2 QF5_3 QF5_4 QF5_5 QF5_6 QF5_7 QF5_8 QF5_9 QF5_10 QF5_11 g_b1 f5_V_ba ne_ba_b1 f5_V_aat f5_V_ast f5_V_aks ne_aat_b1 ne_ast_b1 ne_aks_b1 ne_tb_b1 hdm hkk
  · refine Gz.iload 209 X2 hx (dd at_207) rfl rfl ?_
    refine Gz.iconst 210 (1 : Int32) X2 hx (dd at_209) rfl rfl ?_
    refine Gz.icmpNo 213 X2 hx (dd at_210) (flt (by decide : ¬ ((3 : Int32) < (1 : Int32)))).1 rfl ?_
    refine Gz.aload 215 X2 hx (dd at_213) rfl rfl rfl ?_
    obtain ⟨cq6, kq6, q6a, q6b, q6c⟩ := isOf hZ rfl QE2_0
    obtain ⟨_, _, ⟨T6, L6, k6, n6⟩, -, X6, ⟨Lc6, hQ6, l6, y6, z6⟩, st6⟩ := X2.virtualBack hx (y := ym8) (z := ym8) hown (mvT hZ (ww hw 28 rfl)) (mvT hZ (ww hw 29 rfl)) (notFace_of_selects (args := #[]) (mvT hZ (ww hw 31 rfl))) (mvT hZ (ww hw 31 rfl)) (mvT hZ (ww hw 30 rfl)) (by decide) (backOf (W := 0) (rmNx_0_n l Z av0 hw [] b1 ba md (0 : Int32) (0 : Int32) (0 : Int32) (0 : Int32) (0 : Int32) (0 : Int32) (0 : Int32) (0 : Int32) k_ba st_ARRAY T2.heap n0 SZ2 QE2_0 QF2_0 QF2_1 QF2_2 QF2_3 QF2_4 QF2_5 QF2_6 QF2_7 QF2_8 QF2_9 QF2_10 QF2_11 g_b1 f2_V_ba ne_ba_b1 f2_S_st_ARRAY hm0) hZ (ww hw 32 rfl) (ww hw 15 rfl) (by decide) (by decide)) q6a q6c (g := (mkF m 215 #[s0, .val (.int dq), s2, .val (.ref ba), .val (.ref aat), .val (.ref ast), .val (.ref aks), .val (.int kk), .val (.int (3 : Int32)), .val (.int md), .val (.ref b1), .unset, .unset, .unset, .unset] [(.ref b1)])) rfl (by rw [hml]; rfl) (Steps.refl _) (argsL := []) (rest := []) (lenOf pd_8 rfl) rfl (Nat.le_refl _) (dd at_215) (fun _ _ => ⟨rfl, rfl, (by decide : 5 + 0 ≤ _), (by decide : 40 + 0 ≤ _)⟩)
    dsimp only [Pt.U, Pt.locs, Pt.cells, Pt.slots, Q_rmNx_0_n] at X6 l6 y6 z6 st6 hQ6
    subst l6 y6 z6
    obtain ⟨rfl, N6q, K6q, QE6_0, QF6_0, QF6_1, QF6_2, QF6_3, QF6_4, QF6_5, QF6_6, QF6_7, QF6_8, QF6_9, QF6_10, QF6_11⟩ := hQ6
    have N6 := Fr.app N2 N6q
    have f6_S_st_OBJECT := own_staK f2_S_st_OBJECT K6q (allS (nst_of QE2_0) all0)
    have f6_S_st_ARRAY := own_staK f2_S_st_ARRAY K6q (allS (nst_of QE2_0) all0)
    have f6_S_st_NUMBER := own_staK f2_S_st_NUMBER K6q (allS (nst_of QE2_0) all0)
    have f6_S_st_TRUE := own_staK f2_S_st_TRUE K6q (allS (nst_of QE2_0) all0)
    have f6_S_tb := own_staK f2_S_tb K6q (allS (nst_of QE2_0) all0)
    have f6_V_tb := Arv.keep f2_V_tb K6q (ninS ne_tb_b1 nin0)
    have f6_V_ba := Arv.keep f2_V_ba K6q (ninS ne_ba_b1 nin0)
    have f6_V_aat := Arv.keep f2_V_aat K6q (ninS ne_aat_b1 nin0)
    have f6_V_ast := Arv.keep f2_V_ast K6q (ninS ne_ast_b1 nin0)
    have f6_V_aks := Arv.keep f2_V_aks K6q (ninS ne_aks_b1 nin0)
    have f6_E_b1 := Exa.keep QE2_0 K6q
    have SZ6 := Nat.le_trans SZ2 K6q.1
    replace QF6_3 : Fld Z T6.heap b1 cs0 "depth" "I" (.int (1 : Int32)) := QF6_3
    refine Gz.tr st6 ?_
    refine Gz.pop 219 X6 hx (dd at_218) rfl rfl ?_
    refine Gz.iload 221 X6 hx (dd at_219) rfl rfl ?_
    refine Gz.iconst 222 (2 : Int32) X6 hx (dd at_221) rfl rfl ?_
    refine Gz.icmpNo 225 X6 hx (dd at_222) (flt (by decide : ¬ ((3 : Int32) < (2 : Int32)))).1 rfl ?_
    refine Gz.aload 227 X6 hx (dd at_225) rfl rfl rfl ?_
    obtain ⟨cq7, kq7, q7a, q7b, q7c⟩ := isOf hZ rfl QE6_0
    obtain ⟨_, _, ⟨T7, L7, k7, n7⟩, -, X7, ⟨Lc7, hQ7, l7, y7, z7⟩, st7⟩ := X6.virtualBack hx (y := ym18) (z := ym18) hown (mvT hZ (ww hw 53 rfl)) (mvT hZ (ww hw 54 rfl)) (notFace_of_selects (args := #[]) (mvT hZ (ww hw 56 rfl))) (mvT hZ (ww hw 56 rfl)) (mvT hZ (ww hw 55 rfl)) (by decide) (backOf (W := 0) (rmNe_1_r_1 l Z av0 hw [] b1 ba md (1 : Int32) st_ARRAY (0 : Int32) (0 : Int32) (0 : Int32) (0 : Int32) (0 : Int32) (0 : Int32) k_ba st_NUMBER T6.heap n0 SZ6 QE6_0 QF6_0 QF6_1 QF6_2 QF6_3 QF6_4 QF6_5 QF6_6 QF6_7 QF6_8 QF6_9 QF6_10 QF6_11 g_b1 f6_V_ba ne_ba_b1 f6_S_st_NUMBER) hZ (ww hw 57 rfl) (ww hw 15 rfl) (by decide) (by decide)) q7a q7c (g := (mkF m 227 #[s0, .val (.int dq), s2, .val (.ref ba), .val (.ref aat), .val (.ref ast), .val (.ref aks), .val (.int kk), .val (.int (3 : Int32)), .val (.int md), .val (.ref b1), .unset, .unset, .unset, .unset] [(.ref b1)])) rfl (by rw [hml]; rfl) (Steps.refl _) (argsL := []) (rest := []) (lenOf pd_8 rfl) rfl (Nat.le_refl _) (dd at_227) (fun _ _ => ⟨rfl, rfl, (by decide : 5 + 0 ≤ _), (by decide : 40 + 0 ≤ _)⟩)
    dsimp only [Pt.U, Pt.locs, Pt.cells, Pt.slots, Q_rmNe_1_r_1] at X7 l7 y7 z7 st7 hQ7
    subst l7 y7 z7
    obtain ⟨rfl, N7q, K7q, QE7_0, QF7_0, QF7_1, QF7_2, QF7_3, QF7_4, QF7_5, QF7_6, QF7_7, QF7_8, QF7_9, QF7_10, QF7_11⟩ := hQ7
    have N7 := Fr.app N6 N7q
    have f7_S_st_OBJECT := own_staK f6_S_st_OBJECT K7q (allS (nst_of QE6_0) all0)
    have f7_S_st_ARRAY := own_staK f6_S_st_ARRAY K7q (allS (nst_of QE6_0) all0)
    have f7_S_st_NUMBER := own_staK f6_S_st_NUMBER K7q (allS (nst_of QE6_0) all0)
    have f7_S_st_TRUE := own_staK f6_S_st_TRUE K7q (allS (nst_of QE6_0) all0)
    have f7_S_tb := own_staK f6_S_tb K7q (allS (nst_of QE6_0) all0)
    have f7_V_tb := Arv.keep f6_V_tb K7q (ninS ne_tb_b1 nin0)
    have f7_V_ba := Arv.keep f6_V_ba K7q (ninS ne_ba_b1 nin0)
    have f7_V_aat := Arv.keep f6_V_aat K7q (ninS ne_aat_b1 nin0)
    have f7_V_ast := Arv.keep f6_V_ast K7q (ninS ne_ast_b1 nin0)
    have f7_V_aks := Arv.keep f6_V_aks K7q (ninS ne_aks_b1 nin0)
    have f7_E_b1 := Exa.keep QE6_0 K7q
    have SZ7 := Nat.le_trans SZ6 K7q.1
    refine Gz.tr st7 ?_
    refine Gz.pop 231 X7 hx (dd at_230) rfl rfl ?_
    refine Gz.iload 233 X7 hx (dd at_231) rfl rfl ?_
    refine Gz.iconst 234 (3 : Int32) X7 hx (dd at_233) rfl rfl ?_
    refine Gz.icmpNo 237 X7 hx (dd at_234) (flt (by decide : ¬ ((3 : Int32) < (3 : Int32)))).1 rfl ?_
    refine Gz.aload 239 X7 hx (dd at_237) rfl rfl rfl ?_
    obtain ⟨cq8, kq8, q8a, q8b, q8c⟩ := isOf hZ rfl QE7_0
    obtain ⟨_, _, ⟨T8, L8, k8, n8⟩, -, X8, ⟨Lc8, hQ8, l8, y8, z8⟩, st8⟩ := X7.virtualBack hx (y := ym18) (z := ym18) hown (mvT hZ (ww hw 53 rfl)) (mvT hZ (ww hw 54 rfl)) (notFace_of_selects (args := #[]) (mvT hZ (ww hw 56 rfl))) (mvT hZ (ww hw 56 rfl)) (mvT hZ (ww hw 55 rfl)) (by decide) (backOf (W := 0) (rmNe_4_r_0 l Z av0 hw [] b1 ba md (1 : Int32) st_NUMBER (2 : Int32) (2 : Int32) (4 : Int32) (0 : Int32) (1 : Int32) (1 : Int32) k_ba st_ARRAY T7.heap n0 SZ7 QE7_0 QF7_0 QF7_1 QF7_2 QF7_3 QF7_4 QF7_5 QF7_6 QF7_7 QF7_8 QF7_9 QF7_10 QF7_11 g_b1 f7_V_ba ne_ba_b1 f7_S_st_ARRAY hm1) hZ (ww hw 57 rfl) (ww hw 15 rfl) (by decide) (by decide)) q8a q8c (g := (mkF m 239 #[s0, .val (.int dq), s2, .val (.ref ba), .val (.ref aat), .val (.ref ast), .val (.ref aks), .val (.int kk), .val (.int (3 : Int32)), .val (.int md), .val (.ref b1), .unset, .unset, .unset, .unset] [(.ref b1)])) rfl (by rw [hml]; rfl) (Steps.refl _) (argsL := []) (rest := []) (lenOf pd_8 rfl) rfl (Nat.le_refl _) (dd at_239) (fun _ _ => ⟨rfl, rfl, (by decide : 5 + 0 ≤ _), (by decide : 40 + 0 ≤ _)⟩)
    dsimp only [Pt.U, Pt.locs, Pt.cells, Pt.slots, Q_rmNe_4_r_0] at X8 l8 y8 z8 st8 hQ8
    subst l8 y8 z8
    obtain ⟨rfl, N8q, K8q, QE8_0, QF8_0, QF8_1, QF8_2, QF8_3, QF8_4, QF8_5, QF8_6, QF8_7, QF8_8, QF8_9, QF8_10, QF8_11⟩ := hQ8
    have N8 := Fr.app N7 N8q
    have f8_S_st_OBJECT := own_staK f7_S_st_OBJECT K8q (allS (nst_of QE7_0) all0)
    have f8_S_st_ARRAY := own_staK f7_S_st_ARRAY K8q (allS (nst_of QE7_0) all0)
    have f8_S_st_NUMBER := own_staK f7_S_st_NUMBER K8q (allS (nst_of QE7_0) all0)
    have f8_S_st_TRUE := own_staK f7_S_st_TRUE K8q (allS (nst_of QE7_0) all0)
    have f8_S_tb := own_staK f7_S_tb K8q (allS (nst_of QE7_0) all0)
    have f8_V_tb := Arv.keep f7_V_tb K8q (ninS ne_tb_b1 nin0)
    have f8_V_ba := Arv.keep f7_V_ba K8q (ninS ne_ba_b1 nin0)
    have f8_V_aat := Arv.keep f7_V_aat K8q (ninS ne_aat_b1 nin0)
    have f8_V_ast := Arv.keep f7_V_ast K8q (ninS ne_ast_b1 nin0)
    have f8_V_aks := Arv.keep f7_V_aks K8q (ninS ne_aks_b1 nin0)
    have f8_E_b1 := Exa.keep QE7_0 K8q
    have SZ8 := Nat.le_trans SZ7 K8q.1
    replace QF8_3 : Fld Z T8.heap b1 cs0 "depth" "I" (.int (2 : Int32)) := QF8_3
    refine Gz.tr st8 ?_
    refine Gz.pop 243 X8 hx (dd at_242) rfl rfl ?_
    exact sgBr (s0) dq (s2) (.val (.ref ba)) aat ast aks kk (.val (.int (3 : Int32))) (.val (.int md)) b1 st_OBJECT st_ARRAY st_NUMBER st_TRUE tb k_tb ba md (6 : Int32) (2 : Int32) (1 : Int32) st_ARRAY (5 : Int32) (2 : Int32) (4 : Int32) (0 : Int32) (1 : Int32) (1 : Int32) k_ba k_aat k_ast k_aks n0 X8 hx hZ hw hby hml hown hret hlk rfl N8 SZ8 f8_S_st_OBJECT f8_S_st_ARRAY f8_S_st_NUMBER f8_S_st_TRUE ne_st_OBJECT_st_ARRAY ne_st_OBJECT_st_NUMBER ne_st_OBJECT_st_TRUE ne_st_ARRAY_st_NUMBER ne_st_ARRAY_st_TRUE f8_S_tb f8_V_tb QE8_0 QF8_0 QF8_1 QF8_2 QF8_3 QF8_4 QF8_5 QF8_6 QF8_7 QF8_8 QF8_9 QF8_10 QF8_11 g_b1 f8_V_ba ne_ba_b1 f8_V_aat f8_V_ast f8_V_aks ne_aat_b1 ne_ast_b1 ne_aks_b1 ne_tb_b1 hdm hkk
theorem pn_5 : plainName "com/example/bad_status/badstatus/model/JsonReaderResetPinLaw" = true := by first | (simp [plainName, overriddenIn]; done) | decide +kernel
theorem ef_rm0 (m : MethodId) (p0 : Int32) (p1 : Int32) (p2 : Int32) : entryFrame m #[(.int p0), (.int p1), (.int p2)] maxLocals = mkF m 0 #[.val (.int p0), .val (.int p1), .val (.int p2), .unset, .unset, .unset, .unset, .unset, .unset, .unset, .unset, .unset, .unset, .unset, .unset] [] := by first | (simp [entryFrame, mkF, argsToLocals, Value.category, maxLocals]; done) | rfl
set_option maxRecDepth 65536 in
set_option maxHeartbeats 40000000 in
theorem rm0 (l : Launch) (Z : State) (av0 : Array Value) (hw : ∀ d ∈ tables_1, d.before av0 Z = true) (ws : List Jvm.Cond) (p0 : Int32) (p1 : Int32) (p2 : Int32) (st_OBJECT : Addr) (st_ARRAY : Addr) (st_NUMBER : Addr) (st_TRUE : Addr) (tb : Addr) (k_tb : ClassId) (h0 : Heap) (n0 : Nat) (Z0 : n0 ≤ h0.size) (S_st_OBJECT : Sta Z h0 cs1 "OBJECT" "Lcom/example/bad_status/badstatus/model/JsonReader$Token;" (.ref st_OBJECT)) (S_st_ARRAY : Sta Z h0 cs1 "ARRAY" "Lcom/example/bad_status/badstatus/model/JsonReader$Token;" (.ref st_ARRAY)) (S_st_NUMBER : Sta Z h0 cs1 "NUMBER" "Lcom/example/bad_status/badstatus/model/JsonReader$Token;" (.ref st_NUMBER)) (S_st_TRUE : Sta Z h0 cs1 "TRUE" "Lcom/example/bad_status/badstatus/model/JsonReader$Token;" (.ref st_TRUE)) (ne_st_OBJECT_st_ARRAY : st_OBJECT ≠ st_ARRAY) (ne_st_OBJECT_st_NUMBER : st_OBJECT ≠ st_NUMBER) (ne_st_OBJECT_st_TRUE : st_OBJECT ≠ st_TRUE) (ne_st_ARRAY_st_NUMBER : st_ARRAY ≠ st_NUMBER) (ne_st_ARRAY_st_TRUE : st_ARRAY ≠ st_TRUE) (S_tb : Sta Z h0 cs0 "TRUE" "[B" (.ref tb)) (V_tb : Arv Z h0 tb k_tb .byte (4 : Int32) [(.int (116 : Int32)), (.int (114 : Int32)), (.int (117 : Int32)), (.int (101 : Int32))] (.int (0 : Int32))) (E_st_ARRAY : Exa Z h0 st_ARRAY cs1) (E_st_NUMBER : Exa Z h0 st_NUMBER cs1) (E_st_TRUE : Exa Z h0 st_TRUE cs1) :
    MetFree l x (head1 (Jvm.Cond.code x code maxLocals ret :: ws) room_1) (fun a U => a = #[(.int p0), (.int p1), (.int p2)] ∧ Z.Warmed39 U.vm ∧ U.heap = h0) (fun _ _ _ _ _ => True) (fun _ U o U' => ∃ v L, o = .returned v ∧ Q_law n0 v U'.heap L ∧ FrameEnd U o U' L 24 192) := by
  refine MetFree.of_bodySF (plainFor_of_name pn_5) hisR ?_
  intro p e s m args below meth c s₁ Bd hml0 hP hK
  obtain ⟨rfl, hZ, hh⟩ := hP
  have hx := Bd.exec
  have hby := Bd.bytes
  have hml : c.maxLocals = 15 := hml0
  have dd : ∀ {pc : Nat} {r : Except DecodeError (Instr × Nat)}, decode code pc = r → decode c.code pc = r := fun q => hb hby q
  have hown : s.vm.findClass "com/example/bad_status/badstatus/model/JsonReaderResetPinLaw" = some m.cls := findClass_of_methodNamed Bd.named
  have hnm := (name_of_methodNamed Bd.named Bd.method).1
  have X0 : Stand p l e room_1 s m #[(.int p0), (.int p1), (.int p2)] below meth c s₁ [] 0 0 := Stand.of_body Bd
  have e0 : s₁.heap = h0 := by rw [← hh, Bd.state]; rfl
  have N0 := Fr.nil n0
  have hret := Bd.returns
  have hlk := Bd.notSynchronized
  show Gz p e below s 24 192 (Q_law n0) (s₁.setTop (entryFrame m #[(.int p0), (.int p1), (.int p2)] maxLocals))
  refine Gz.enter (ef_rm0 m p0 p1 p2) ?_
  refine Gz.bipush 2 (10 : Int32) X0 hx (dd at_0) rfl rfl ?_
  obtain ⟨T1, h1, k1, X1, e1, E1, A1, Q1, st1⟩ := newPE X0 hx hZ (ww hw 0 rfl) e0 (g := (mkF m 2 #[.val (.int p0), .val (.int p1), .val (.int p2), .unset, .unset, .unset, .unset, .unset, .unset, .unset, .unset, .unset, .unset, .unset, .unset] [(.int (10 : Int32))])) rfl (dd at_2) rfl (by decide) (cap := 10) (by decide) (by decide) (by decide) (by decide) (ad := "[B") rfl
  obtain ⟨b1, g1⟩ : ∃ z, z = h0.size := ⟨_, rfl⟩
  rw [← g1] at A1 Q1 st1
  have ne_tb_b1 : tb ≠ b1 := Nat.ne_of_lt (Nat.lt_of_lt_of_le (V_tb).lt (Nat.le_of_eq g1.symm))
  have ne_st_ARRAY_b1 : st_ARRAY ≠ b1 := Nat.ne_of_lt (Nat.lt_of_lt_of_le (E_st_ARRAY).lt (Nat.le_of_eq g1.symm))
  have ne_st_NUMBER_b1 : st_NUMBER ≠ b1 := Nat.ne_of_lt (Nat.lt_of_lt_of_le (E_st_NUMBER).lt (Nat.le_of_eq g1.symm))
  have ne_st_TRUE_b1 : st_TRUE ≠ b1 := Nat.ne_of_lt (Nat.lt_of_lt_of_le (E_st_TRUE).lt (Nat.le_of_eq g1.symm))
  have g_b1 : n0 ≤ b1 := Nat.le_trans Z0 (Nat.le_of_eq g1.symm)
  have SZ1 : n0 ≤ h1.size := Nat.le_trans Z0 E1.1
  have f1_S_st_OBJECT := Sta.ext E1 S_st_OBJECT
  have f1_S_st_ARRAY := Sta.ext E1 S_st_ARRAY
  have f1_S_st_NUMBER := Sta.ext E1 S_st_NUMBER
  have f1_S_st_TRUE := Sta.ext E1 S_st_TRUE
  have f1_S_tb := Sta.ext E1 S_tb
  have f1_V_tb := Arv.ext V_tb E1
  have f1_E_st_ARRAY := Exa.ext E1 E_st_ARRAY
  have f1_E_st_NUMBER := Exa.ext E1 E_st_NUMBER
  have f1_E_st_TRUE := Exa.ext E1 E_st_TRUE
  have V1 : Arv Z h1 b1 k1 .byte (10 : Int32) [(.int (0 : Int32)), (.int (0 : Int32)), (.int (0 : Int32)), (.int (0 : Int32)), (.int (0 : Int32)), (.int (0 : Int32)), (.int (0 : Int32)), (.int (0 : Int32)), (.int (0 : Int32)), (.int (0 : Int32))] (.int (0 : Int32)) := (Arv.new A1 (by decide)).pad (pad_rep [] (.int (0 : Int32)) 10)
  refine Gz.st st1 ?_
  refine Gz.dup 5 X1 hx (dd at_4) rfl rfl ?_
  refine Gz.iconst 6 (0 : Int32) X1 hx (dd at_5) rfl rfl ?_
  refine Gz.bipush 8 (91 : Int32) X1 hx (dd at_6) rfl rfl ?_
  obtain ⟨c2, A2, q2, S2, N2, H2, G2⟩ := id V1
  have hin2 : ¬ ((0 : Int32) < 0 ∨ c2.slots.size ≤ ((0 : Int32)).toNatClampNeg) := inb_of S2 ⟨by decide, by decide⟩
  refine Gz.stB 9 X1 hx hZ (dd at_8) e1 A2 hin2 rfl fun T3 h3 X3 e3 W3 => ?_
  have V3 := Arv.set A2 q2 S2 N2 H2 G2 (fits_nar_byte _) W3 0 rfl (Nat.le_of_ble_eq_true rfl)
  replace V3 : Arv Z h3 b1 k1 .byte (10 : Int32) [(.int (91 : Int32)), (.int (0 : Int32)), (.int (0 : Int32)), (.int (0 : Int32)), (.int (0 : Int32)), (.int (0 : Int32)), (.int (0 : Int32)), (.int (0 : Int32)), (.int (0 : Int32)), (.int (0 : Int32))] (.int (0 : Int32)) := V3
  have f3_S_st_OBJECT := Sta.wr W3 f1_S_st_OBJECT
  have f3_S_st_ARRAY := Sta.wr W3 f1_S_st_ARRAY
  have f3_S_st_NUMBER := Sta.wr W3 f1_S_st_NUMBER
  have f3_S_st_TRUE := Sta.wr W3 f1_S_st_TRUE
  have f3_S_tb := Sta.wr W3 f1_S_tb
  have f3_V_tb := Arv.other f1_V_tb W3 ne_tb_b1
  have f3_E_st_ARRAY := Exa.wr W3 f1_E_st_ARRAY
  have f3_E_st_NUMBER := Exa.wr W3 f1_E_st_NUMBER
  have f3_E_st_TRUE := Exa.wr W3 f1_E_st_TRUE
  have f3_Eb1 := Exa.wr W3 Q1
  have N3 := Fr.snoc X3 N0 g_b1
  have SZ3 : n0 ≤ h3.size := Nat.le_trans SZ1 (Keep.of_wr W3).1
  refine Gz.dup 10 X3 hx (dd at_9) rfl rfl ?_
  refine Gz.iconst 11 (1 : Int32) X3 hx (dd at_10) rfl rfl ?_
  refine Gz.bipush 13 (32 : Int32) X3 hx (dd at_11) rfl rfl ?_
  obtain ⟨c4, A4, q4, S4, N4, H4, G4⟩ := id V3
  have hin4 : ¬ ((1 : Int32) < 0 ∨ c4.slots.size ≤ ((1 : Int32)).toNatClampNeg) := inb_of S4 ⟨by decide, by decide⟩
  refine Gz.stB 14 X3 hx hZ (dd at_13) e3 A4 hin4 rfl fun T5 h5 X5 e5 W5 => ?_
  have V5 := Arv.set A4 q4 S4 N4 H4 G4 (fits_nar_byte _) W5 1 rfl (Nat.le_of_ble_eq_true rfl)
  replace V5 : Arv Z h5 b1 k1 .byte (10 : Int32) [(.int (91 : Int32)), (.int (32 : Int32)), (.int (0 : Int32)), (.int (0 : Int32)), (.int (0 : Int32)), (.int (0 : Int32)), (.int (0 : Int32)), (.int (0 : Int32)), (.int (0 : Int32)), (.int (0 : Int32))] (.int (0 : Int32)) := V5
  have f5_S_st_OBJECT := Sta.wr W5 f3_S_st_OBJECT
  have f5_S_st_ARRAY := Sta.wr W5 f3_S_st_ARRAY
  have f5_S_st_NUMBER := Sta.wr W5 f3_S_st_NUMBER
  have f5_S_st_TRUE := Sta.wr W5 f3_S_st_TRUE
  have f5_S_tb := Sta.wr W5 f3_S_tb
  have f5_V_tb := Arv.other f3_V_tb W5 ne_tb_b1
  have f5_E_st_ARRAY := Exa.wr W5 f3_E_st_ARRAY
  have f5_E_st_NUMBER := Exa.wr W5 f3_E_st_NUMBER
  have f5_E_st_TRUE := Exa.wr W5 f3_E_st_TRUE
  have f5_Eb1 := Exa.wr W5 f3_Eb1
  have N5 := Fr.snoc X5 N3 g_b1
  have SZ5 : n0 ≤ h5.size := Nat.le_trans SZ3 (Keep.of_wr W5).1
  refine Gz.dup 15 X5 hx (dd at_14) rfl rfl ?_
  refine Gz.iconst 16 (2 : Int32) X5 hx (dd at_15) rfl rfl ?_
  refine Gz.bipush 18 (52 : Int32) X5 hx (dd at_16) rfl rfl ?_
  obtain ⟨c6, A6, q6, S6, N6, H6, G6⟩ := id V5
  have hin6 : ¬ ((2 : Int32) < 0 ∨ c6.slots.size ≤ ((2 : Int32)).toNatClampNeg) := inb_of S6 ⟨by decide, by decide⟩
  refine Gz.stB 19 X5 hx hZ (dd at_18) e5 A6 hin6 rfl fun T7 h7 X7 e7 W7 => ?_
  have V7 := Arv.set A6 q6 S6 N6 H6 G6 (fits_nar_byte _) W7 2 rfl (Nat.le_of_ble_eq_true rfl)
  replace V7 : Arv Z h7 b1 k1 .byte (10 : Int32) [(.int (91 : Int32)), (.int (32 : Int32)), (.int (52 : Int32)), (.int (0 : Int32)), (.int (0 : Int32)), (.int (0 : Int32)), (.int (0 : Int32)), (.int (0 : Int32)), (.int (0 : Int32)), (.int (0 : Int32))] (.int (0 : Int32)) := V7
  have f7_S_st_OBJECT := Sta.wr W7 f5_S_st_OBJECT
  have f7_S_st_ARRAY := Sta.wr W7 f5_S_st_ARRAY
  have f7_S_st_NUMBER := Sta.wr W7 f5_S_st_NUMBER
  have f7_S_st_TRUE := Sta.wr W7 f5_S_st_TRUE
  have f7_S_tb := Sta.wr W7 f5_S_tb
  have f7_V_tb := Arv.other f5_V_tb W7 ne_tb_b1
  have f7_E_st_ARRAY := Exa.wr W7 f5_E_st_ARRAY
  have f7_E_st_NUMBER := Exa.wr W7 f5_E_st_NUMBER
  have f7_E_st_TRUE := Exa.wr W7 f5_E_st_TRUE
  have f7_Eb1 := Exa.wr W7 f5_Eb1
  have N7 := Fr.snoc X7 N5 g_b1
  have SZ7 : n0 ≤ h7.size := Nat.le_trans SZ5 (Keep.of_wr W7).1
  refine Gz.dup 20 X7 hx (dd at_19) rfl rfl ?_
  refine Gz.iconst 21 (3 : Int32) X7 hx (dd at_20) rfl rfl ?_
  refine Gz.bipush 23 (50 : Int32) X7 hx (dd at_21) rfl rfl ?_
  obtain ⟨c8, A8, q8, S8, N8, H8, G8⟩ := id V7
  have hin8 : ¬ ((3 : Int32) < 0 ∨ c8.slots.size ≤ ((3 : Int32)).toNatClampNeg) := inb_of S8 ⟨by decide, by decide⟩
  refine Gz.stB 24 X7 hx hZ (dd at_23) e7 A8 hin8 rfl fun T9 h9 X9 e9 W9 => ?_
  have V9 := Arv.set A8 q8 S8 N8 H8 G8 (fits_nar_byte _) W9 3 rfl (Nat.le_of_ble_eq_true rfl)
  replace V9 : Arv Z h9 b1 k1 .byte (10 : Int32) [(.int (91 : Int32)), (.int (32 : Int32)), (.int (52 : Int32)), (.int (50 : Int32)), (.int (0 : Int32)), (.int (0 : Int32)), (.int (0 : Int32)), (.int (0 : Int32)), (.int (0 : Int32)), (.int (0 : Int32))] (.int (0 : Int32)) := V9
  have f9_S_st_OBJECT := Sta.wr W9 f7_S_st_OBJECT
  have f9_S_st_ARRAY := Sta.wr W9 f7_S_st_ARRAY
  have f9_S_st_NUMBER := Sta.wr W9 f7_S_st_NUMBER
  have f9_S_st_TRUE := Sta.wr W9 f7_S_st_TRUE
  have f9_S_tb := Sta.wr W9 f7_S_tb
  have f9_V_tb := Arv.other f7_V_tb W9 ne_tb_b1
  have f9_E_st_ARRAY := Exa.wr W9 f7_E_st_ARRAY
  have f9_E_st_NUMBER := Exa.wr W9 f7_E_st_NUMBER
  have f9_E_st_TRUE := Exa.wr W9 f7_E_st_TRUE
  have f9_Eb1 := Exa.wr W9 f7_Eb1
  have N9 := Fr.snoc X9 N7 g_b1
  have SZ9 : n0 ≤ h9.size := Nat.le_trans SZ7 (Keep.of_wr W9).1
  refine Gz.dup 25 X9 hx (dd at_24) rfl rfl ?_
  refine Gz.iconst 26 (4 : Int32) X9 hx (dd at_25) rfl rfl ?_
  refine Gz.bipush 28 (44 : Int32) X9 hx (dd at_26) rfl rfl ?_
  obtain ⟨c10, A10, q10, S10, N10, H10, G10⟩ := id V9
  have hin10 : ¬ ((4 : Int32) < 0 ∨ c10.slots.size ≤ ((4 : Int32)).toNatClampNeg) := inb_of S10 ⟨by decide, by decide⟩
  refine Gz.stB 29 X9 hx hZ (dd at_28) e9 A10 hin10 rfl fun T11 h11 X11 e11 W11 => ?_
  have V11 := Arv.set A10 q10 S10 N10 H10 G10 (fits_nar_byte _) W11 4 rfl (Nat.le_of_ble_eq_true rfl)
  replace V11 : Arv Z h11 b1 k1 .byte (10 : Int32) [(.int (91 : Int32)), (.int (32 : Int32)), (.int (52 : Int32)), (.int (50 : Int32)), (.int (44 : Int32)), (.int (0 : Int32)), (.int (0 : Int32)), (.int (0 : Int32)), (.int (0 : Int32)), (.int (0 : Int32))] (.int (0 : Int32)) := V11
  have f11_S_st_OBJECT := Sta.wr W11 f9_S_st_OBJECT
  have f11_S_st_ARRAY := Sta.wr W11 f9_S_st_ARRAY
  have f11_S_st_NUMBER := Sta.wr W11 f9_S_st_NUMBER
  have f11_S_st_TRUE := Sta.wr W11 f9_S_st_TRUE
  have f11_S_tb := Sta.wr W11 f9_S_tb
  have f11_V_tb := Arv.other f9_V_tb W11 ne_tb_b1
  have f11_E_st_ARRAY := Exa.wr W11 f9_E_st_ARRAY
  have f11_E_st_NUMBER := Exa.wr W11 f9_E_st_NUMBER
  have f11_E_st_TRUE := Exa.wr W11 f9_E_st_TRUE
  have f11_Eb1 := Exa.wr W11 f9_Eb1
  have N11 := Fr.snoc X11 N9 g_b1
  have SZ11 : n0 ≤ h11.size := Nat.le_trans SZ9 (Keep.of_wr W11).1
  refine Gz.dup 30 X11 hx (dd at_29) rfl rfl ?_
  refine Gz.iconst 31 (5 : Int32) X11 hx (dd at_30) rfl rfl ?_
  refine Gz.bipush 33 (91 : Int32) X11 hx (dd at_31) rfl rfl ?_
  obtain ⟨c12, A12, q12, S12, N12, H12, G12⟩ := id V11
  have hin12 : ¬ ((5 : Int32) < 0 ∨ c12.slots.size ≤ ((5 : Int32)).toNatClampNeg) := inb_of S12 ⟨by decide, by decide⟩
  refine Gz.stB 34 X11 hx hZ (dd at_33) e11 A12 hin12 rfl fun T13 h13 X13 e13 W13 => ?_
  have V13 := Arv.set A12 q12 S12 N12 H12 G12 (fits_nar_byte _) W13 5 rfl (Nat.le_of_ble_eq_true rfl)
  replace V13 : Arv Z h13 b1 k1 .byte (10 : Int32) [(.int (91 : Int32)), (.int (32 : Int32)), (.int (52 : Int32)), (.int (50 : Int32)), (.int (44 : Int32)), (.int (91 : Int32)), (.int (0 : Int32)), (.int (0 : Int32)), (.int (0 : Int32)), (.int (0 : Int32))] (.int (0 : Int32)) := V13
  have f13_S_st_OBJECT := Sta.wr W13 f11_S_st_OBJECT
  have f13_S_st_ARRAY := Sta.wr W13 f11_S_st_ARRAY
  have f13_S_st_NUMBER := Sta.wr W13 f11_S_st_NUMBER
  have f13_S_st_TRUE := Sta.wr W13 f11_S_st_TRUE
  have f13_S_tb := Sta.wr W13 f11_S_tb
  have f13_V_tb := Arv.other f11_V_tb W13 ne_tb_b1
  have f13_E_st_ARRAY := Exa.wr W13 f11_E_st_ARRAY
  have f13_E_st_NUMBER := Exa.wr W13 f11_E_st_NUMBER
  have f13_E_st_TRUE := Exa.wr W13 f11_E_st_TRUE
  have f13_Eb1 := Exa.wr W13 f11_Eb1
  have N13 := Fr.snoc X13 N11 g_b1
  have SZ13 : n0 ≤ h13.size := Nat.le_trans SZ11 (Keep.of_wr W13).1
  refine Gz.dup 35 X13 hx (dd at_34) rfl rfl ?_
  refine Gz.bipush 37 (6 : Int32) X13 hx (dd at_35) rfl rfl ?_
  refine Gz.bipush 39 (116 : Int32) X13 hx (dd at_37) rfl rfl ?_
  obtain ⟨c14, A14, q14, S14, N14, H14, G14⟩ := id V13
  have hin14 : ¬ ((6 : Int32) < 0 ∨ c14.slots.size ≤ ((6 : Int32)).toNatClampNeg) := inb_of S14 ⟨by decide, by decide⟩
  refine Gz.stB 40 X13 hx hZ (dd at_39) e13 A14 hin14 rfl fun T15 h15 X15 e15 W15 => ?_
  have V15 := Arv.set A14 q14 S14 N14 H14 G14 (fits_nar_byte _) W15 6 rfl (Nat.le_of_ble_eq_true rfl)
  replace V15 : Arv Z h15 b1 k1 .byte (10 : Int32) [(.int (91 : Int32)), (.int (32 : Int32)), (.int (52 : Int32)), (.int (50 : Int32)), (.int (44 : Int32)), (.int (91 : Int32)), (.int (116 : Int32)), (.int (0 : Int32)), (.int (0 : Int32)), (.int (0 : Int32))] (.int (0 : Int32)) := V15
  have f15_S_st_OBJECT := Sta.wr W15 f13_S_st_OBJECT
  have f15_S_st_ARRAY := Sta.wr W15 f13_S_st_ARRAY
  have f15_S_st_NUMBER := Sta.wr W15 f13_S_st_NUMBER
  have f15_S_st_TRUE := Sta.wr W15 f13_S_st_TRUE
  have f15_S_tb := Sta.wr W15 f13_S_tb
  have f15_V_tb := Arv.other f13_V_tb W15 ne_tb_b1
  have f15_E_st_ARRAY := Exa.wr W15 f13_E_st_ARRAY
  have f15_E_st_NUMBER := Exa.wr W15 f13_E_st_NUMBER
  have f15_E_st_TRUE := Exa.wr W15 f13_E_st_TRUE
  have f15_Eb1 := Exa.wr W15 f13_Eb1
  have N15 := Fr.snoc X15 N13 g_b1
  have SZ15 : n0 ≤ h15.size := Nat.le_trans SZ13 (Keep.of_wr W15).1
  refine Gz.dup 41 X15 hx (dd at_40) rfl rfl ?_
  refine Gz.bipush 43 (7 : Int32) X15 hx (dd at_41) rfl rfl ?_
  refine Gz.bipush 45 (114 : Int32) X15 hx (dd at_43) rfl rfl ?_
  obtain ⟨c16, A16, q16, S16, N16, H16, G16⟩ := id V15
  have hin16 : ¬ ((7 : Int32) < 0 ∨ c16.slots.size ≤ ((7 : Int32)).toNatClampNeg) := inb_of S16 ⟨by decide, by decide⟩
  refine Gz.stB 46 X15 hx hZ (dd at_45) e15 A16 hin16 rfl fun T17 h17 X17 e17 W17 => ?_
  have V17 := Arv.set A16 q16 S16 N16 H16 G16 (fits_nar_byte _) W17 7 rfl (Nat.le_of_ble_eq_true rfl)
  replace V17 : Arv Z h17 b1 k1 .byte (10 : Int32) [(.int (91 : Int32)), (.int (32 : Int32)), (.int (52 : Int32)), (.int (50 : Int32)), (.int (44 : Int32)), (.int (91 : Int32)), (.int (116 : Int32)), (.int (114 : Int32)), (.int (0 : Int32)), (.int (0 : Int32))] (.int (0 : Int32)) := V17
  have f17_S_st_OBJECT := Sta.wr W17 f15_S_st_OBJECT
  have f17_S_st_ARRAY := Sta.wr W17 f15_S_st_ARRAY
  have f17_S_st_NUMBER := Sta.wr W17 f15_S_st_NUMBER
  have f17_S_st_TRUE := Sta.wr W17 f15_S_st_TRUE
  have f17_S_tb := Sta.wr W17 f15_S_tb
  have f17_V_tb := Arv.other f15_V_tb W17 ne_tb_b1
  have f17_E_st_ARRAY := Exa.wr W17 f15_E_st_ARRAY
  have f17_E_st_NUMBER := Exa.wr W17 f15_E_st_NUMBER
  have f17_E_st_TRUE := Exa.wr W17 f15_E_st_TRUE
  have f17_Eb1 := Exa.wr W17 f15_Eb1
  have N17 := Fr.snoc X17 N15 g_b1
  have SZ17 : n0 ≤ h17.size := Nat.le_trans SZ15 (Keep.of_wr W17).1
  refine Gz.dup 47 X17 hx (dd at_46) rfl rfl ?_
  refine Gz.bipush 49 (8 : Int32) X17 hx (dd at_47) rfl rfl ?_
  refine Gz.bipush 51 (117 : Int32) X17 hx (dd at_49) rfl rfl ?_
  obtain ⟨c18, A18, q18, S18, N18, H18, G18⟩ := id V17
  have hin18 : ¬ ((8 : Int32) < 0 ∨ c18.slots.size ≤ ((8 : Int32)).toNatClampNeg) := inb_of S18 ⟨by decide, by decide⟩
  refine Gz.stB 52 X17 hx hZ (dd at_51) e17 A18 hin18 rfl fun T19 h19 X19 e19 W19 => ?_
  have V19 := Arv.set A18 q18 S18 N18 H18 G18 (fits_nar_byte _) W19 8 rfl (Nat.le_of_ble_eq_true rfl)
  replace V19 : Arv Z h19 b1 k1 .byte (10 : Int32) [(.int (91 : Int32)), (.int (32 : Int32)), (.int (52 : Int32)), (.int (50 : Int32)), (.int (44 : Int32)), (.int (91 : Int32)), (.int (116 : Int32)), (.int (114 : Int32)), (.int (117 : Int32)), (.int (0 : Int32))] (.int (0 : Int32)) := V19
  have f19_S_st_OBJECT := Sta.wr W19 f17_S_st_OBJECT
  have f19_S_st_ARRAY := Sta.wr W19 f17_S_st_ARRAY
  have f19_S_st_NUMBER := Sta.wr W19 f17_S_st_NUMBER
  have f19_S_st_TRUE := Sta.wr W19 f17_S_st_TRUE
  have f19_S_tb := Sta.wr W19 f17_S_tb
  have f19_V_tb := Arv.other f17_V_tb W19 ne_tb_b1
  have f19_E_st_ARRAY := Exa.wr W19 f17_E_st_ARRAY
  have f19_E_st_NUMBER := Exa.wr W19 f17_E_st_NUMBER
  have f19_E_st_TRUE := Exa.wr W19 f17_E_st_TRUE
  have f19_Eb1 := Exa.wr W19 f17_Eb1
  have N19 := Fr.snoc X19 N17 g_b1
  have SZ19 : n0 ≤ h19.size := Nat.le_trans SZ17 (Keep.of_wr W19).1
  refine Gz.dup 53 X19 hx (dd at_52) rfl rfl ?_
  refine Gz.bipush 55 (9 : Int32) X19 hx (dd at_53) rfl rfl ?_
  refine Gz.bipush 57 (101 : Int32) X19 hx (dd at_55) rfl rfl ?_
  obtain ⟨c20, A20, q20, S20, N20, H20, G20⟩ := id V19
  have hin20 : ¬ ((9 : Int32) < 0 ∨ c20.slots.size ≤ ((9 : Int32)).toNatClampNeg) := inb_of S20 ⟨by decide, by decide⟩
  refine Gz.stB 58 X19 hx hZ (dd at_57) e19 A20 hin20 rfl fun T21 h21 X21 e21 W21 => ?_
  have V21 := Arv.set A20 q20 S20 N20 H20 G20 (fits_nar_byte _) W21 9 rfl (Nat.le_of_ble_eq_true rfl)
  replace V21 : Arv Z h21 b1 k1 .byte (10 : Int32) [(.int (91 : Int32)), (.int (32 : Int32)), (.int (52 : Int32)), (.int (50 : Int32)), (.int (44 : Int32)), (.int (91 : Int32)), (.int (116 : Int32)), (.int (114 : Int32)), (.int (117 : Int32)), (.int (101 : Int32))] (.int (0 : Int32)) := V21
  have f21_S_st_OBJECT := Sta.wr W21 f19_S_st_OBJECT
  have f21_S_st_ARRAY := Sta.wr W21 f19_S_st_ARRAY
  have f21_S_st_NUMBER := Sta.wr W21 f19_S_st_NUMBER
  have f21_S_st_TRUE := Sta.wr W21 f19_S_st_TRUE
  have f21_S_tb := Sta.wr W21 f19_S_tb
  have f21_V_tb := Arv.other f19_V_tb W21 ne_tb_b1
  have f21_E_st_ARRAY := Exa.wr W21 f19_E_st_ARRAY
  have f21_E_st_NUMBER := Exa.wr W21 f19_E_st_NUMBER
  have f21_E_st_TRUE := Exa.wr W21 f19_E_st_TRUE
  have f21_Eb1 := Exa.wr W21 f19_Eb1
  have N21 := Fr.snoc X21 N19 g_b1
  have SZ21 : n0 ≤ h21.size := Nat.le_trans SZ19 (Keep.of_wr W21).1
  refine Gz.astoreN 59 #[.val (.int p0), .val (.int p1), .val (.int p2), .val (.ref b1), .unset, .unset, .unset, .unset, .unset, .unset, .unset, .unset, .unset, .unset, .unset] X21 hx (dd at_58) rfl rfl rfl ?_
  refine Gz.bipush 61 (6 : Int32) X21 hx (dd at_59) rfl rfl ?_
  obtain ⟨T22, h22, k22, X22, e22, E22, A22, Q22, st22⟩ := newPE X21 hx hZ (ww hw 1 rfl) e21 (g := (mkF m 61 #[.val (.int p0), .val (.int p1), .val (.int p2), .val (.ref b1), .unset, .unset, .unset, .unset, .unset, .unset, .unset, .unset, .unset, .unset, .unset] [(.int (6 : Int32))])) rfl (dd at_61) rfl (by decide) (cap := 6) (by decide) (by decide) (by decide) (by decide) (ad := "[I") rfl
  obtain ⟨b22, g22⟩ : ∃ z, z = h21.size := ⟨_, rfl⟩
  rw [← g22] at A22 Q22 st22
  have ne_tb_b22 : tb ≠ b22 := Nat.ne_of_lt (Nat.lt_of_lt_of_le (f21_V_tb).lt (Nat.le_of_eq g22.symm))
  have ne_st_ARRAY_b22 : st_ARRAY ≠ b22 := Nat.ne_of_lt (Nat.lt_of_lt_of_le (f21_E_st_ARRAY).lt (Nat.le_of_eq g22.symm))
  have ne_st_NUMBER_b22 : st_NUMBER ≠ b22 := Nat.ne_of_lt (Nat.lt_of_lt_of_le (f21_E_st_NUMBER).lt (Nat.le_of_eq g22.symm))
  have ne_st_TRUE_b22 : st_TRUE ≠ b22 := Nat.ne_of_lt (Nat.lt_of_lt_of_le (f21_E_st_TRUE).lt (Nat.le_of_eq g22.symm))
  have ne_b1_b22 : b1 ≠ b22 := Nat.ne_of_lt (Nat.lt_of_lt_of_le (f21_Eb1).lt (Nat.le_of_eq g22.symm))
  have g_b22 : n0 ≤ b22 := Nat.le_trans SZ21 (Nat.le_of_eq g22.symm)
  have SZ22 : n0 ≤ h22.size := Nat.le_trans SZ21 E22.1
  have f22_S_st_OBJECT := Sta.ext E22 f21_S_st_OBJECT
  have f22_S_st_ARRAY := Sta.ext E22 f21_S_st_ARRAY
  have f22_S_st_NUMBER := Sta.ext E22 f21_S_st_NUMBER
  have f22_S_st_TRUE := Sta.ext E22 f21_S_st_TRUE
  have f22_S_tb := Sta.ext E22 f21_S_tb
  have f22_V_tb := Arv.ext f21_V_tb E22
  have f22_E_st_ARRAY := Exa.ext E22 f21_E_st_ARRAY
  have f22_E_st_NUMBER := Exa.ext E22 f21_E_st_NUMBER
  have f22_E_st_TRUE := Exa.ext E22 f21_E_st_TRUE
  have f22_Eb1 := Exa.ext E22 f21_Eb1
  have f22_Vb1 := Arv.ext V21 E22
  have V22 : Arv Z h22 b22 k22 .int (6 : Int32) [(.int (0 : Int32)), (.int (0 : Int32)), (.int (0 : Int32)), (.int (0 : Int32)), (.int (0 : Int32)), (.int (0 : Int32))] (.int (0 : Int32)) := (Arv.new A22 (by decide)).pad (pad_rep [] (.int (0 : Int32)) 6)
  refine Gz.st st22 ?_
  refine Gz.dup 64 X22 hx (dd at_63) rfl rfl ?_
  refine Gz.iconst 65 (0 : Int32) X22 hx (dd at_64) rfl rfl ?_
  refine Gz.iconst 66 (0 : Int32) X22 hx (dd at_65) rfl rfl ?_
  obtain ⟨c23, A23, q23, S23, N23, H23, G23⟩ := id V22
  have hin23 : ¬ ((0 : Int32) < 0 ∨ c23.slots.size ≤ ((0 : Int32)).toNatClampNeg) := inb_of S23 ⟨by decide, by decide⟩
  refine Gz.stI 67 X22 hx hZ (dd at_66) e22 A23 hin23 rfl fun T24 h24 X24 e24 W24 => ?_
  have V24 := Arv.set A23 q23 S23 N23 H23 G23 rfl W24 0 rfl (Nat.le_of_ble_eq_true rfl)
  replace V24 : Arv Z h24 b22 k22 .int (6 : Int32) [(.int (0 : Int32)), (.int (0 : Int32)), (.int (0 : Int32)), (.int (0 : Int32)), (.int (0 : Int32)), (.int (0 : Int32))] (.int (0 : Int32)) := V24
  have f24_S_st_OBJECT := Sta.wr W24 f22_S_st_OBJECT
  have f24_S_st_ARRAY := Sta.wr W24 f22_S_st_ARRAY
  have f24_S_st_NUMBER := Sta.wr W24 f22_S_st_NUMBER
  have f24_S_st_TRUE := Sta.wr W24 f22_S_st_TRUE
  have f24_S_tb := Sta.wr W24 f22_S_tb
  have f24_V_tb := Arv.other f22_V_tb W24 ne_tb_b22
  have f24_E_st_ARRAY := Exa.wr W24 f22_E_st_ARRAY
  have f24_E_st_NUMBER := Exa.wr W24 f22_E_st_NUMBER
  have f24_E_st_TRUE := Exa.wr W24 f22_E_st_TRUE
  have f24_Eb1 := Exa.wr W24 f22_Eb1
  have f24_Vb1 := Arv.other f22_Vb1 W24 ne_b1_b22
  have f24_Eb22 := Exa.wr W24 Q22
  have N24 := Fr.snoc X24 N21 g_b22
  have SZ24 : n0 ≤ h24.size := Nat.le_trans SZ22 (Keep.of_wr W24).1
  refine Gz.dup 68 X24 hx (dd at_67) rfl rfl ?_
  refine Gz.iconst 69 (1 : Int32) X24 hx (dd at_68) rfl rfl ?_
  refine Gz.iconst 70 (1 : Int32) X24 hx (dd at_69) rfl rfl ?_
  obtain ⟨c25, A25, q25, S25, N25, H25, G25⟩ := id V24
  have hin25 : ¬ ((1 : Int32) < 0 ∨ c25.slots.size ≤ ((1 : Int32)).toNatClampNeg) := inb_of S25 ⟨by decide, by decide⟩
  refine Gz.stI 71 X24 hx hZ (dd at_70) e24 A25 hin25 rfl fun T26 h26 X26 e26 W26 => ?_
  have V26 := Arv.set A25 q25 S25 N25 H25 G25 rfl W26 1 rfl (Nat.le_of_ble_eq_true rfl)
  replace V26 : Arv Z h26 b22 k22 .int (6 : Int32) [(.int (0 : Int32)), (.int (1 : Int32)), (.int (0 : Int32)), (.int (0 : Int32)), (.int (0 : Int32)), (.int (0 : Int32))] (.int (0 : Int32)) := V26
  have f26_S_st_OBJECT := Sta.wr W26 f24_S_st_OBJECT
  have f26_S_st_ARRAY := Sta.wr W26 f24_S_st_ARRAY
  have f26_S_st_NUMBER := Sta.wr W26 f24_S_st_NUMBER
  have f26_S_st_TRUE := Sta.wr W26 f24_S_st_TRUE
  have f26_S_tb := Sta.wr W26 f24_S_tb
  have f26_V_tb := Arv.other f24_V_tb W26 ne_tb_b22
  have f26_E_st_ARRAY := Exa.wr W26 f24_E_st_ARRAY
  have f26_E_st_NUMBER := Exa.wr W26 f24_E_st_NUMBER
  have f26_E_st_TRUE := Exa.wr W26 f24_E_st_TRUE
  have f26_Eb1 := Exa.wr W26 f24_Eb1
  have f26_Vb1 := Arv.other f24_Vb1 W26 ne_b1_b22
  have f26_Eb22 := Exa.wr W26 f24_Eb22
  have N26 := Fr.snoc X26 N24 g_b22
  have SZ26 : n0 ≤ h26.size := Nat.le_trans SZ24 (Keep.of_wr W26).1
  refine Gz.dup 72 X26 hx (dd at_71) rfl rfl ?_
  refine Gz.iconst 73 (2 : Int32) X26 hx (dd at_72) rfl rfl ?_
  refine Gz.iconst 74 (2 : Int32) X26 hx (dd at_73) rfl rfl ?_
  obtain ⟨c27, A27, q27, S27, N27, H27, G27⟩ := id V26
  have hin27 : ¬ ((2 : Int32) < 0 ∨ c27.slots.size ≤ ((2 : Int32)).toNatClampNeg) := inb_of S27 ⟨by decide, by decide⟩
  refine Gz.stI 75 X26 hx hZ (dd at_74) e26 A27 hin27 rfl fun T28 h28 X28 e28 W28 => ?_
  have V28 := Arv.set A27 q27 S27 N27 H27 G27 rfl W28 2 rfl (Nat.le_of_ble_eq_true rfl)
  replace V28 : Arv Z h28 b22 k22 .int (6 : Int32) [(.int (0 : Int32)), (.int (1 : Int32)), (.int (2 : Int32)), (.int (0 : Int32)), (.int (0 : Int32)), (.int (0 : Int32))] (.int (0 : Int32)) := V28
  have f28_S_st_OBJECT := Sta.wr W28 f26_S_st_OBJECT
  have f28_S_st_ARRAY := Sta.wr W28 f26_S_st_ARRAY
  have f28_S_st_NUMBER := Sta.wr W28 f26_S_st_NUMBER
  have f28_S_st_TRUE := Sta.wr W28 f26_S_st_TRUE
  have f28_S_tb := Sta.wr W28 f26_S_tb
  have f28_V_tb := Arv.other f26_V_tb W28 ne_tb_b22
  have f28_E_st_ARRAY := Exa.wr W28 f26_E_st_ARRAY
  have f28_E_st_NUMBER := Exa.wr W28 f26_E_st_NUMBER
  have f28_E_st_TRUE := Exa.wr W28 f26_E_st_TRUE
  have f28_Eb1 := Exa.wr W28 f26_Eb1
  have f28_Vb1 := Arv.other f26_Vb1 W28 ne_b1_b22
  have f28_Eb22 := Exa.wr W28 f26_Eb22
  have N28 := Fr.snoc X28 N26 g_b22
  have SZ28 : n0 ≤ h28.size := Nat.le_trans SZ26 (Keep.of_wr W28).1
  refine Gz.dup 76 X28 hx (dd at_75) rfl rfl ?_
  refine Gz.iconst 77 (3 : Int32) X28 hx (dd at_76) rfl rfl ?_
  refine Gz.iconst 78 (3 : Int32) X28 hx (dd at_77) rfl rfl ?_
  obtain ⟨c29, A29, q29, S29, N29, H29, G29⟩ := id V28
  have hin29 : ¬ ((3 : Int32) < 0 ∨ c29.slots.size ≤ ((3 : Int32)).toNatClampNeg) := inb_of S29 ⟨by decide, by decide⟩
  refine Gz.stI 79 X28 hx hZ (dd at_78) e28 A29 hin29 rfl fun T30 h30 X30 e30 W30 => ?_
  have V30 := Arv.set A29 q29 S29 N29 H29 G29 rfl W30 3 rfl (Nat.le_of_ble_eq_true rfl)
  replace V30 : Arv Z h30 b22 k22 .int (6 : Int32) [(.int (0 : Int32)), (.int (1 : Int32)), (.int (2 : Int32)), (.int (3 : Int32)), (.int (0 : Int32)), (.int (0 : Int32))] (.int (0 : Int32)) := V30
  have f30_S_st_OBJECT := Sta.wr W30 f28_S_st_OBJECT
  have f30_S_st_ARRAY := Sta.wr W30 f28_S_st_ARRAY
  have f30_S_st_NUMBER := Sta.wr W30 f28_S_st_NUMBER
  have f30_S_st_TRUE := Sta.wr W30 f28_S_st_TRUE
  have f30_S_tb := Sta.wr W30 f28_S_tb
  have f30_V_tb := Arv.other f28_V_tb W30 ne_tb_b22
  have f30_E_st_ARRAY := Exa.wr W30 f28_E_st_ARRAY
  have f30_E_st_NUMBER := Exa.wr W30 f28_E_st_NUMBER
  have f30_E_st_TRUE := Exa.wr W30 f28_E_st_TRUE
  have f30_Eb1 := Exa.wr W30 f28_Eb1
  have f30_Vb1 := Arv.other f28_Vb1 W30 ne_b1_b22
  have f30_Eb22 := Exa.wr W30 f28_Eb22
  have N30 := Fr.snoc X30 N28 g_b22
  have SZ30 : n0 ≤ h30.size := Nat.le_trans SZ28 (Keep.of_wr W30).1
  refine Gz.dup 80 X30 hx (dd at_79) rfl rfl ?_
  refine Gz.iconst 81 (4 : Int32) X30 hx (dd at_80) rfl rfl ?_
  refine Gz.iconst 82 (5 : Int32) X30 hx (dd at_81) rfl rfl ?_
  obtain ⟨c31, A31, q31, S31, N31, H31, G31⟩ := id V30
  have hin31 : ¬ ((4 : Int32) < 0 ∨ c31.slots.size ≤ ((4 : Int32)).toNatClampNeg) := inb_of S31 ⟨by decide, by decide⟩
  refine Gz.stI 83 X30 hx hZ (dd at_82) e30 A31 hin31 rfl fun T32 h32 X32 e32 W32 => ?_
  have V32 := Arv.set A31 q31 S31 N31 H31 G31 rfl W32 4 rfl (Nat.le_of_ble_eq_true rfl)
  replace V32 : Arv Z h32 b22 k22 .int (6 : Int32) [(.int (0 : Int32)), (.int (1 : Int32)), (.int (2 : Int32)), (.int (3 : Int32)), (.int (5 : Int32)), (.int (0 : Int32))] (.int (0 : Int32)) := V32
  have f32_S_st_OBJECT := Sta.wr W32 f30_S_st_OBJECT
  have f32_S_st_ARRAY := Sta.wr W32 f30_S_st_ARRAY
  have f32_S_st_NUMBER := Sta.wr W32 f30_S_st_NUMBER
  have f32_S_st_TRUE := Sta.wr W32 f30_S_st_TRUE
  have f32_S_tb := Sta.wr W32 f30_S_tb
  have f32_V_tb := Arv.other f30_V_tb W32 ne_tb_b22
  have f32_E_st_ARRAY := Exa.wr W32 f30_E_st_ARRAY
  have f32_E_st_NUMBER := Exa.wr W32 f30_E_st_NUMBER
  have f32_E_st_TRUE := Exa.wr W32 f30_E_st_TRUE
  have f32_Eb1 := Exa.wr W32 f30_Eb1
  have f32_Vb1 := Arv.other f30_Vb1 W32 ne_b1_b22
  have f32_Eb22 := Exa.wr W32 f30_Eb22
  have N32 := Fr.snoc X32 N30 g_b22
  have SZ32 : n0 ≤ h32.size := Nat.le_trans SZ30 (Keep.of_wr W32).1
  refine Gz.dup 84 X32 hx (dd at_83) rfl rfl ?_
  refine Gz.iconst 85 (5 : Int32) X32 hx (dd at_84) rfl rfl ?_
  refine Gz.bipush 87 (6 : Int32) X32 hx (dd at_85) rfl rfl ?_
  obtain ⟨c33, A33, q33, S33, N33, H33, G33⟩ := id V32
  have hin33 : ¬ ((5 : Int32) < 0 ∨ c33.slots.size ≤ ((5 : Int32)).toNatClampNeg) := inb_of S33 ⟨by decide, by decide⟩
  refine Gz.stI 88 X32 hx hZ (dd at_87) e32 A33 hin33 rfl fun T34 h34 X34 e34 W34 => ?_
  have V34 := Arv.set A33 q33 S33 N33 H33 G33 rfl W34 5 rfl (Nat.le_of_ble_eq_true rfl)
  replace V34 : Arv Z h34 b22 k22 .int (6 : Int32) [(.int (0 : Int32)), (.int (1 : Int32)), (.int (2 : Int32)), (.int (3 : Int32)), (.int (5 : Int32)), (.int (6 : Int32))] (.int (0 : Int32)) := V34
  have f34_S_st_OBJECT := Sta.wr W34 f32_S_st_OBJECT
  have f34_S_st_ARRAY := Sta.wr W34 f32_S_st_ARRAY
  have f34_S_st_NUMBER := Sta.wr W34 f32_S_st_NUMBER
  have f34_S_st_TRUE := Sta.wr W34 f32_S_st_TRUE
  have f34_S_tb := Sta.wr W34 f32_S_tb
  have f34_V_tb := Arv.other f32_V_tb W34 ne_tb_b22
  have f34_E_st_ARRAY := Exa.wr W34 f32_E_st_ARRAY
  have f34_E_st_NUMBER := Exa.wr W34 f32_E_st_NUMBER
  have f34_E_st_TRUE := Exa.wr W34 f32_E_st_TRUE
  have f34_Eb1 := Exa.wr W34 f32_Eb1
  have f34_Vb1 := Arv.other f32_Vb1 W34 ne_b1_b22
  have f34_Eb22 := Exa.wr W34 f32_Eb22
  have N34 := Fr.snoc X34 N32 g_b22
  have SZ34 : n0 ≤ h34.size := Nat.le_trans SZ32 (Keep.of_wr W34).1
  refine Gz.astore 90 #[.val (.int p0), .val (.int p1), .val (.int p2), .val (.ref b1), .val (.ref b22), .unset, .unset, .unset, .unset, .unset, .unset, .unset, .unset, .unset, .unset] X34 hx (dd at_88) rfl rfl rfl ?_
  refine Gz.bipush 92 (6 : Int32) X34 hx (dd at_90) rfl rfl ?_
  obtain ⟨T35, h35, k35, X35, e35, E35, A35, Q35, st35⟩ := newPE X34 hx hZ (ww hw 1 rfl) e34 (g := (mkF m 92 #[.val (.int p0), .val (.int p1), .val (.int p2), .val (.ref b1), .val (.ref b22), .unset, .unset, .unset, .unset, .unset, .unset, .unset, .unset, .unset, .unset] [(.int (6 : Int32))])) rfl (dd at_92) rfl (by decide) (cap := 6) (by decide) (by decide) (by decide) (by decide) (ad := "[I") rfl
  obtain ⟨b35, g35⟩ : ∃ z, z = h34.size := ⟨_, rfl⟩
  rw [← g35] at A35 Q35 st35
  have ne_tb_b35 : tb ≠ b35 := Nat.ne_of_lt (Nat.lt_of_lt_of_le (f34_V_tb).lt (Nat.le_of_eq g35.symm))
  have ne_st_ARRAY_b35 : st_ARRAY ≠ b35 := Nat.ne_of_lt (Nat.lt_of_lt_of_le (f34_E_st_ARRAY).lt (Nat.le_of_eq g35.symm))
  have ne_st_NUMBER_b35 : st_NUMBER ≠ b35 := Nat.ne_of_lt (Nat.lt_of_lt_of_le (f34_E_st_NUMBER).lt (Nat.le_of_eq g35.symm))
  have ne_st_TRUE_b35 : st_TRUE ≠ b35 := Nat.ne_of_lt (Nat.lt_of_lt_of_le (f34_E_st_TRUE).lt (Nat.le_of_eq g35.symm))
  have ne_b1_b35 : b1 ≠ b35 := Nat.ne_of_lt (Nat.lt_of_lt_of_le (f34_Eb1).lt (Nat.le_of_eq g35.symm))
  have ne_b22_b35 : b22 ≠ b35 := Nat.ne_of_lt (Nat.lt_of_lt_of_le (f34_Eb22).lt (Nat.le_of_eq g35.symm))
  have g_b35 : n0 ≤ b35 := Nat.le_trans SZ34 (Nat.le_of_eq g35.symm)
  have SZ35 : n0 ≤ h35.size := Nat.le_trans SZ34 E35.1
  have f35_S_st_OBJECT := Sta.ext E35 f34_S_st_OBJECT
  have f35_S_st_ARRAY := Sta.ext E35 f34_S_st_ARRAY
  have f35_S_st_NUMBER := Sta.ext E35 f34_S_st_NUMBER
  have f35_S_st_TRUE := Sta.ext E35 f34_S_st_TRUE
  have f35_S_tb := Sta.ext E35 f34_S_tb
  have f35_V_tb := Arv.ext f34_V_tb E35
  have f35_E_st_ARRAY := Exa.ext E35 f34_E_st_ARRAY
  have f35_E_st_NUMBER := Exa.ext E35 f34_E_st_NUMBER
  have f35_E_st_TRUE := Exa.ext E35 f34_E_st_TRUE
  have f35_Eb1 := Exa.ext E35 f34_Eb1
  have f35_Vb1 := Arv.ext f34_Vb1 E35
  have f35_Eb22 := Exa.ext E35 f34_Eb22
  have f35_Vb22 := Arv.ext V34 E35
  have V35 : Arv Z h35 b35 k35 .int (6 : Int32) [(.int (0 : Int32)), (.int (0 : Int32)), (.int (0 : Int32)), (.int (0 : Int32)), (.int (0 : Int32)), (.int (0 : Int32))] (.int (0 : Int32)) := (Arv.new A35 (by decide)).pad (pad_rep [] (.int (0 : Int32)) 6)
  refine Gz.st st35 ?_
  refine Gz.dup 95 X35 hx (dd at_94) rfl rfl ?_
  refine Gz.iconst 96 (0 : Int32) X35 hx (dd at_95) rfl rfl ?_
  refine Gz.iconst 97 (0 : Int32) X35 hx (dd at_96) rfl rfl ?_
  obtain ⟨c36, A36, q36, S36, N36, H36, G36⟩ := id V35
  have hin36 : ¬ ((0 : Int32) < 0 ∨ c36.slots.size ≤ ((0 : Int32)).toNatClampNeg) := inb_of S36 ⟨by decide, by decide⟩
  refine Gz.stI 98 X35 hx hZ (dd at_97) e35 A36 hin36 rfl fun T37 h37 X37 e37 W37 => ?_
  have V37 := Arv.set A36 q36 S36 N36 H36 G36 rfl W37 0 rfl (Nat.le_of_ble_eq_true rfl)
  replace V37 : Arv Z h37 b35 k35 .int (6 : Int32) [(.int (0 : Int32)), (.int (0 : Int32)), (.int (0 : Int32)), (.int (0 : Int32)), (.int (0 : Int32)), (.int (0 : Int32))] (.int (0 : Int32)) := V37
  have f37_S_st_OBJECT := Sta.wr W37 f35_S_st_OBJECT
  have f37_S_st_ARRAY := Sta.wr W37 f35_S_st_ARRAY
  have f37_S_st_NUMBER := Sta.wr W37 f35_S_st_NUMBER
  have f37_S_st_TRUE := Sta.wr W37 f35_S_st_TRUE
  have f37_S_tb := Sta.wr W37 f35_S_tb
  have f37_V_tb := Arv.other f35_V_tb W37 ne_tb_b35
  have f37_E_st_ARRAY := Exa.wr W37 f35_E_st_ARRAY
  have f37_E_st_NUMBER := Exa.wr W37 f35_E_st_NUMBER
  have f37_E_st_TRUE := Exa.wr W37 f35_E_st_TRUE
  have f37_Eb1 := Exa.wr W37 f35_Eb1
  have f37_Vb1 := Arv.other f35_Vb1 W37 ne_b1_b35
  have f37_Eb22 := Exa.wr W37 f35_Eb22
  have f37_Vb22 := Arv.other f35_Vb22 W37 ne_b22_b35
  have f37_Eb35 := Exa.wr W37 Q35
  have N37 := Fr.snoc X37 N34 g_b35
  have SZ37 : n0 ≤ h37.size := Nat.le_trans SZ35 (Keep.of_wr W37).1
  refine Gz.dup 99 X37 hx (dd at_98) rfl rfl ?_
  refine Gz.iconst 100 (1 : Int32) X37 hx (dd at_99) rfl rfl ?_
  refine Gz.iconst 101 (2 : Int32) X37 hx (dd at_100) rfl rfl ?_
  obtain ⟨c38, A38, q38, S38, N38, H38, G38⟩ := id V37
  have hin38 : ¬ ((1 : Int32) < 0 ∨ c38.slots.size ≤ ((1 : Int32)).toNatClampNeg) := inb_of S38 ⟨by decide, by decide⟩
  refine Gz.stI 102 X37 hx hZ (dd at_101) e37 A38 hin38 rfl fun T39 h39 X39 e39 W39 => ?_
  have V39 := Arv.set A38 q38 S38 N38 H38 G38 rfl W39 1 rfl (Nat.le_of_ble_eq_true rfl)
  replace V39 : Arv Z h39 b35 k35 .int (6 : Int32) [(.int (0 : Int32)), (.int (2 : Int32)), (.int (0 : Int32)), (.int (0 : Int32)), (.int (0 : Int32)), (.int (0 : Int32))] (.int (0 : Int32)) := V39
  have f39_S_st_OBJECT := Sta.wr W39 f37_S_st_OBJECT
  have f39_S_st_ARRAY := Sta.wr W39 f37_S_st_ARRAY
  have f39_S_st_NUMBER := Sta.wr W39 f37_S_st_NUMBER
  have f39_S_st_TRUE := Sta.wr W39 f37_S_st_TRUE
  have f39_S_tb := Sta.wr W39 f37_S_tb
  have f39_V_tb := Arv.other f37_V_tb W39 ne_tb_b35
  have f39_E_st_ARRAY := Exa.wr W39 f37_E_st_ARRAY
  have f39_E_st_NUMBER := Exa.wr W39 f37_E_st_NUMBER
  have f39_E_st_TRUE := Exa.wr W39 f37_E_st_TRUE
  have f39_Eb1 := Exa.wr W39 f37_Eb1
  have f39_Vb1 := Arv.other f37_Vb1 W39 ne_b1_b35
  have f39_Eb22 := Exa.wr W39 f37_Eb22
  have f39_Vb22 := Arv.other f37_Vb22 W39 ne_b22_b35
  have f39_Eb35 := Exa.wr W39 f37_Eb35
  have N39 := Fr.snoc X39 N37 g_b35
  have SZ39 : n0 ≤ h39.size := Nat.le_trans SZ37 (Keep.of_wr W39).1
  refine Gz.dup 103 X39 hx (dd at_102) rfl rfl ?_
  refine Gz.iconst 104 (2 : Int32) X39 hx (dd at_103) rfl rfl ?_
  refine Gz.iconst 105 (2 : Int32) X39 hx (dd at_104) rfl rfl ?_
  obtain ⟨c40, A40, q40, S40, N40, H40, G40⟩ := id V39
  have hin40 : ¬ ((2 : Int32) < 0 ∨ c40.slots.size ≤ ((2 : Int32)).toNatClampNeg) := inb_of S40 ⟨by decide, by decide⟩
  refine Gz.stI 106 X39 hx hZ (dd at_105) e39 A40 hin40 rfl fun T41 h41 X41 e41 W41 => ?_
  have V41 := Arv.set A40 q40 S40 N40 H40 G40 rfl W41 2 rfl (Nat.le_of_ble_eq_true rfl)
  replace V41 : Arv Z h41 b35 k35 .int (6 : Int32) [(.int (0 : Int32)), (.int (2 : Int32)), (.int (2 : Int32)), (.int (0 : Int32)), (.int (0 : Int32)), (.int (0 : Int32))] (.int (0 : Int32)) := V41
  have f41_S_st_OBJECT := Sta.wr W41 f39_S_st_OBJECT
  have f41_S_st_ARRAY := Sta.wr W41 f39_S_st_ARRAY
  have f41_S_st_NUMBER := Sta.wr W41 f39_S_st_NUMBER
  have f41_S_st_TRUE := Sta.wr W41 f39_S_st_TRUE
  have f41_S_tb := Sta.wr W41 f39_S_tb
  have f41_V_tb := Arv.other f39_V_tb W41 ne_tb_b35
  have f41_E_st_ARRAY := Exa.wr W41 f39_E_st_ARRAY
  have f41_E_st_NUMBER := Exa.wr W41 f39_E_st_NUMBER
  have f41_E_st_TRUE := Exa.wr W41 f39_E_st_TRUE
  have f41_Eb1 := Exa.wr W41 f39_Eb1
  have f41_Vb1 := Arv.other f39_Vb1 W41 ne_b1_b35
  have f41_Eb22 := Exa.wr W41 f39_Eb22
  have f41_Vb22 := Arv.other f39_Vb22 W41 ne_b22_b35
  have f41_Eb35 := Exa.wr W41 f39_Eb35
  have N41 := Fr.snoc X41 N39 g_b35
  have SZ41 : n0 ≤ h41.size := Nat.le_trans SZ39 (Keep.of_wr W41).1
  refine Gz.dup 107 X41 hx (dd at_106) rfl rfl ?_
  refine Gz.iconst 108 (3 : Int32) X41 hx (dd at_107) rfl rfl ?_
  refine Gz.iconst 109 (3 : Int32) X41 hx (dd at_108) rfl rfl ?_
  obtain ⟨c42, A42, q42, S42, N42, H42, G42⟩ := id V41
  have hin42 : ¬ ((3 : Int32) < 0 ∨ c42.slots.size ≤ ((3 : Int32)).toNatClampNeg) := inb_of S42 ⟨by decide, by decide⟩
  refine Gz.stI 110 X41 hx hZ (dd at_109) e41 A42 hin42 rfl fun T43 h43 X43 e43 W43 => ?_
  have V43 := Arv.set A42 q42 S42 N42 H42 G42 rfl W43 3 rfl (Nat.le_of_ble_eq_true rfl)
  replace V43 : Arv Z h43 b35 k35 .int (6 : Int32) [(.int (0 : Int32)), (.int (2 : Int32)), (.int (2 : Int32)), (.int (3 : Int32)), (.int (0 : Int32)), (.int (0 : Int32))] (.int (0 : Int32)) := V43
  have f43_S_st_OBJECT := Sta.wr W43 f41_S_st_OBJECT
  have f43_S_st_ARRAY := Sta.wr W43 f41_S_st_ARRAY
  have f43_S_st_NUMBER := Sta.wr W43 f41_S_st_NUMBER
  have f43_S_st_TRUE := Sta.wr W43 f41_S_st_TRUE
  have f43_S_tb := Sta.wr W43 f41_S_tb
  have f43_V_tb := Arv.other f41_V_tb W43 ne_tb_b35
  have f43_E_st_ARRAY := Exa.wr W43 f41_E_st_ARRAY
  have f43_E_st_NUMBER := Exa.wr W43 f41_E_st_NUMBER
  have f43_E_st_TRUE := Exa.wr W43 f41_E_st_TRUE
  have f43_Eb1 := Exa.wr W43 f41_Eb1
  have f43_Vb1 := Arv.other f41_Vb1 W43 ne_b1_b35
  have f43_Eb22 := Exa.wr W43 f41_Eb22
  have f43_Vb22 := Arv.other f41_Vb22 W43 ne_b22_b35
  have f43_Eb35 := Exa.wr W43 f41_Eb35
  have N43 := Fr.snoc X43 N41 g_b35
  have SZ43 : n0 ≤ h43.size := Nat.le_trans SZ41 (Keep.of_wr W43).1
  refine Gz.dup 111 X43 hx (dd at_110) rfl rfl ?_
  refine Gz.iconst 112 (4 : Int32) X43 hx (dd at_111) rfl rfl ?_
  refine Gz.iconst 113 (5 : Int32) X43 hx (dd at_112) rfl rfl ?_
  obtain ⟨c44, A44, q44, S44, N44, H44, G44⟩ := id V43
  have hin44 : ¬ ((4 : Int32) < 0 ∨ c44.slots.size ≤ ((4 : Int32)).toNatClampNeg) := inb_of S44 ⟨by decide, by decide⟩
  refine Gz.stI 114 X43 hx hZ (dd at_113) e43 A44 hin44 rfl fun T45 h45 X45 e45 W45 => ?_
  have V45 := Arv.set A44 q44 S44 N44 H44 G44 rfl W45 4 rfl (Nat.le_of_ble_eq_true rfl)
  replace V45 : Arv Z h45 b35 k35 .int (6 : Int32) [(.int (0 : Int32)), (.int (2 : Int32)), (.int (2 : Int32)), (.int (3 : Int32)), (.int (5 : Int32)), (.int (0 : Int32))] (.int (0 : Int32)) := V45
  have f45_S_st_OBJECT := Sta.wr W45 f43_S_st_OBJECT
  have f45_S_st_ARRAY := Sta.wr W45 f43_S_st_ARRAY
  have f45_S_st_NUMBER := Sta.wr W45 f43_S_st_NUMBER
  have f45_S_st_TRUE := Sta.wr W45 f43_S_st_TRUE
  have f45_S_tb := Sta.wr W45 f43_S_tb
  have f45_V_tb := Arv.other f43_V_tb W45 ne_tb_b35
  have f45_E_st_ARRAY := Exa.wr W45 f43_E_st_ARRAY
  have f45_E_st_NUMBER := Exa.wr W45 f43_E_st_NUMBER
  have f45_E_st_TRUE := Exa.wr W45 f43_E_st_TRUE
  have f45_Eb1 := Exa.wr W45 f43_Eb1
  have f45_Vb1 := Arv.other f43_Vb1 W45 ne_b1_b35
  have f45_Eb22 := Exa.wr W45 f43_Eb22
  have f45_Vb22 := Arv.other f43_Vb22 W45 ne_b22_b35
  have f45_Eb35 := Exa.wr W45 f43_Eb35
  have N45 := Fr.snoc X45 N43 g_b35
  have SZ45 : n0 ≤ h45.size := Nat.le_trans SZ43 (Keep.of_wr W45).1
  refine Gz.dup 115 X45 hx (dd at_114) rfl rfl ?_
  refine Gz.iconst 116 (5 : Int32) X45 hx (dd at_115) rfl rfl ?_
  refine Gz.bipush 118 (6 : Int32) X45 hx (dd at_116) rfl rfl ?_
  obtain ⟨c46, A46, q46, S46, N46, H46, G46⟩ := id V45
  have hin46 : ¬ ((5 : Int32) < 0 ∨ c46.slots.size ≤ ((5 : Int32)).toNatClampNeg) := inb_of S46 ⟨by decide, by decide⟩
  refine Gz.stI 119 X45 hx hZ (dd at_118) e45 A46 hin46 rfl fun T47 h47 X47 e47 W47 => ?_
  have V47 := Arv.set A46 q46 S46 N46 H46 G46 rfl W47 5 rfl (Nat.le_of_ble_eq_true rfl)
  replace V47 : Arv Z h47 b35 k35 .int (6 : Int32) [(.int (0 : Int32)), (.int (2 : Int32)), (.int (2 : Int32)), (.int (3 : Int32)), (.int (5 : Int32)), (.int (6 : Int32))] (.int (0 : Int32)) := V47
  have f47_S_st_OBJECT := Sta.wr W47 f45_S_st_OBJECT
  have f47_S_st_ARRAY := Sta.wr W47 f45_S_st_ARRAY
  have f47_S_st_NUMBER := Sta.wr W47 f45_S_st_NUMBER
  have f47_S_st_TRUE := Sta.wr W47 f45_S_st_TRUE
  have f47_S_tb := Sta.wr W47 f45_S_tb
  have f47_V_tb := Arv.other f45_V_tb W47 ne_tb_b35
  have f47_E_st_ARRAY := Exa.wr W47 f45_E_st_ARRAY
  have f47_E_st_NUMBER := Exa.wr W47 f45_E_st_NUMBER
  have f47_E_st_TRUE := Exa.wr W47 f45_E_st_TRUE
  have f47_Eb1 := Exa.wr W47 f45_Eb1
  have f47_Vb1 := Arv.other f45_Vb1 W47 ne_b1_b35
  have f47_Eb22 := Exa.wr W47 f45_Eb22
  have f47_Vb22 := Arv.other f45_Vb22 W47 ne_b22_b35
  have f47_Eb35 := Exa.wr W47 f45_Eb35
  have N47 := Fr.snoc X47 N45 g_b35
  have SZ47 : n0 ≤ h47.size := Nat.le_trans SZ45 (Keep.of_wr W47).1
  refine Gz.astore 121 #[.val (.int p0), .val (.int p1), .val (.int p2), .val (.ref b1), .val (.ref b22), .val (.ref b35), .unset, .unset, .unset, .unset, .unset, .unset, .unset, .unset, .unset] X47 hx (dd at_119) rfl rfl rfl ?_
  refine Gz.bipush 123 (6 : Int32) X47 hx (dd at_121) rfl rfl ?_
  obtain ⟨T48, h48, k48, X48, e48, E48, A48, O48, st48⟩ := newR X47 hx hZ hown (ww hw 2 rfl) (ww hw 3 rfl) e47 (g := (mkF m 123 #[.val (.int p0), .val (.int p1), .val (.int p2), .val (.ref b1), .val (.ref b22), .val (.ref b35), .unset, .unset, .unset, .unset, .unset, .unset, .unset, .unset, .unset] [(.int (6 : Int32))])) rfl (dd at_123) rfl (by decide) (cap := 6) (by decide) (by decide) (by decide) (by decide)
  obtain ⟨b48, g48⟩ : ∃ z, z = h47.size := ⟨_, rfl⟩
  rw [← g48] at A48 st48
  have ne_tb_b48 : tb ≠ b48 := Nat.ne_of_lt (Nat.lt_of_lt_of_le (f47_V_tb).lt (Nat.le_of_eq g48.symm))
  have ne_st_ARRAY_b48 : st_ARRAY ≠ b48 := Nat.ne_of_lt (Nat.lt_of_lt_of_le (f47_E_st_ARRAY).lt (Nat.le_of_eq g48.symm))
  have ne_st_NUMBER_b48 : st_NUMBER ≠ b48 := Nat.ne_of_lt (Nat.lt_of_lt_of_le (f47_E_st_NUMBER).lt (Nat.le_of_eq g48.symm))
  have ne_st_TRUE_b48 : st_TRUE ≠ b48 := Nat.ne_of_lt (Nat.lt_of_lt_of_le (f47_E_st_TRUE).lt (Nat.le_of_eq g48.symm))
  have ne_b1_b48 : b1 ≠ b48 := Nat.ne_of_lt (Nat.lt_of_lt_of_le (f47_Eb1).lt (Nat.le_of_eq g48.symm))
  have ne_b22_b48 : b22 ≠ b48 := Nat.ne_of_lt (Nat.lt_of_lt_of_le (f47_Eb22).lt (Nat.le_of_eq g48.symm))
  have ne_b35_b48 : b35 ≠ b48 := Nat.ne_of_lt (Nat.lt_of_lt_of_le (f47_Eb35).lt (Nat.le_of_eq g48.symm))
  have g_b48 : n0 ≤ b48 := Nat.le_trans SZ47 (Nat.le_of_eq g48.symm)
  have SZ48 : n0 ≤ h48.size := Nat.le_trans SZ47 E48.1
  have f48_S_st_OBJECT := Sta.ext E48 f47_S_st_OBJECT
  have f48_S_st_ARRAY := Sta.ext E48 f47_S_st_ARRAY
  have f48_S_st_NUMBER := Sta.ext E48 f47_S_st_NUMBER
  have f48_S_st_TRUE := Sta.ext E48 f47_S_st_TRUE
  have f48_S_tb := Sta.ext E48 f47_S_tb
  have f48_V_tb := Arv.ext f47_V_tb E48
  have f48_E_st_ARRAY := Exa.ext E48 f47_E_st_ARRAY
  have f48_E_st_NUMBER := Exa.ext E48 f47_E_st_NUMBER
  have f48_E_st_TRUE := Exa.ext E48 f47_E_st_TRUE
  have f48_Eb1 := Exa.ext E48 f47_Eb1
  have f48_Vb1 := Arv.ext f47_Vb1 E48
  have f48_Eb22 := Exa.ext E48 f47_Eb22
  have f48_Vb22 := Arv.ext f47_Vb22 E48
  have f48_Eb35 := Exa.ext E48 f47_Eb35
  have f48_Vb35 := Arv.ext V47 E48
  have V48 : Arv Z h48 b48 k48 (.object cs1) (6 : Int32) [.null, .null, .null, .null, .null, .null] .null := (Arv.new A48 (by decide)).pad (pad_rep [] .null 6)
  refine Gz.st st48 ?_
  refine Gz.dup 127 X48 hx (dd at_126) rfl rfl ?_
  refine Gz.iconst 128 (0 : Int32) X48 hx (dd at_127) rfl rfl ?_
  refine Gz.getS 131 X48 hx hZ hown (dd at_128) (host := "") (Or.inl (ww hw 4 rfl)) Via.refl e48 f48_S_st_ARRAY rfl fun T49 X49 e49 => ?_
  obtain ⟨c50, A50, q50, S50, N50, H50, G50⟩ := id V48
  have hin50 : ¬ ((0 : Int32) < 0 ∨ c50.slots.size ≤ ((0 : Int32)).toNatClampNeg) := inb_of S50 ⟨by decide, by decide⟩
  refine Gz.stR 132 X49 hx hZ (dd at_131) e49 A50 hin50 rfl (Sto.ofV A50 q50 O48 (Ins.self f48_E_st_ARRAY)) rfl fun T51 h51 X51 e51 W51 => ?_
  have V51 := Arv.set A50 q50 S50 N50 H50 G50 rfl W51 0 rfl (Nat.le_of_ble_eq_true rfl)
  replace V51 : Arv Z h51 b48 k48 (.object cs1) (6 : Int32) [(.ref st_ARRAY), .null, .null, .null, .null, .null] .null := V51
  have f51_S_st_OBJECT := Sta.wr W51 f48_S_st_OBJECT
  have f51_S_st_ARRAY := Sta.wr W51 f48_S_st_ARRAY
  have f51_S_st_NUMBER := Sta.wr W51 f48_S_st_NUMBER
  have f51_S_st_TRUE := Sta.wr W51 f48_S_st_TRUE
  have f51_S_tb := Sta.wr W51 f48_S_tb
  have f51_V_tb := Arv.other f48_V_tb W51 ne_tb_b48
  have f51_E_st_ARRAY := Exa.wr W51 f48_E_st_ARRAY
  have f51_E_st_NUMBER := Exa.wr W51 f48_E_st_NUMBER
  have f51_E_st_TRUE := Exa.wr W51 f48_E_st_TRUE
  have f51_Eb1 := Exa.wr W51 f48_Eb1
  have f51_Vb1 := Arv.other f48_Vb1 W51 ne_b1_b48
  have f51_Eb22 := Exa.wr W51 f48_Eb22
  have f51_Vb22 := Arv.other f48_Vb22 W51 ne_b22_b48
  have f51_Eb35 := Exa.wr W51 f48_Eb35
  have f51_Vb35 := Arv.other f48_Vb35 W51 ne_b35_b48
  have N51 := Fr.snoc X51 N47 g_b48
  have SZ51 : n0 ≤ h51.size := Nat.le_trans SZ48 (Keep.of_wr W51).1
  refine Gz.dup 133 X51 hx (dd at_132) rfl rfl ?_
  refine Gz.iconst 134 (1 : Int32) X51 hx (dd at_133) rfl rfl ?_
  refine Gz.getS 137 X51 hx hZ hown (dd at_134) (host := "") (Or.inl (ww hw 8 rfl)) Via.refl e51 f51_S_st_NUMBER rfl fun T52 X52 e52 => ?_
  obtain ⟨c53, A53, q53, S53, N53, H53, G53⟩ := id V51
  have hin53 : ¬ ((1 : Int32) < 0 ∨ c53.slots.size ≤ ((1 : Int32)).toNatClampNeg) := inb_of S53 ⟨by decide, by decide⟩
  refine Gz.stR 138 X52 hx hZ (dd at_137) e52 A53 hin53 rfl (Sto.ofV A53 q53 O48 (Ins.self f51_E_st_NUMBER)) rfl fun T54 h54 X54 e54 W54 => ?_
  have V54 := Arv.set A53 q53 S53 N53 H53 G53 rfl W54 1 rfl (Nat.le_of_ble_eq_true rfl)
  replace V54 : Arv Z h54 b48 k48 (.object cs1) (6 : Int32) [(.ref st_ARRAY), (.ref st_NUMBER), .null, .null, .null, .null] .null := V54
  have f54_S_st_OBJECT := Sta.wr W54 f51_S_st_OBJECT
  have f54_S_st_ARRAY := Sta.wr W54 f51_S_st_ARRAY
  have f54_S_st_NUMBER := Sta.wr W54 f51_S_st_NUMBER
  have f54_S_st_TRUE := Sta.wr W54 f51_S_st_TRUE
  have f54_S_tb := Sta.wr W54 f51_S_tb
  have f54_V_tb := Arv.other f51_V_tb W54 ne_tb_b48
  have f54_E_st_ARRAY := Exa.wr W54 f51_E_st_ARRAY
  have f54_E_st_NUMBER := Exa.wr W54 f51_E_st_NUMBER
  have f54_E_st_TRUE := Exa.wr W54 f51_E_st_TRUE
  have f54_Eb1 := Exa.wr W54 f51_Eb1
  have f54_Vb1 := Arv.other f51_Vb1 W54 ne_b1_b48
  have f54_Eb22 := Exa.wr W54 f51_Eb22
  have f54_Vb22 := Arv.other f51_Vb22 W54 ne_b22_b48
  have f54_Eb35 := Exa.wr W54 f51_Eb35
  have f54_Vb35 := Arv.other f51_Vb35 W54 ne_b35_b48
  have N54 := Fr.snoc X54 N51 g_b48
  have SZ54 : n0 ≤ h54.size := Nat.le_trans SZ51 (Keep.of_wr W54).1
  refine Gz.dup 139 X54 hx (dd at_138) rfl rfl ?_
  refine Gz.iconst 140 (2 : Int32) X54 hx (dd at_139) rfl rfl ?_
  refine Gz.getS 143 X54 hx hZ hown (dd at_140) (host := "") (Or.inl (ww hw 8 rfl)) Via.refl e54 f54_S_st_NUMBER rfl fun T55 X55 e55 => ?_
  obtain ⟨c56, A56, q56, S56, N56, H56, G56⟩ := id V54
  have hin56 : ¬ ((2 : Int32) < 0 ∨ c56.slots.size ≤ ((2 : Int32)).toNatClampNeg) := inb_of S56 ⟨by decide, by decide⟩
  refine Gz.stR 144 X55 hx hZ (dd at_143) e55 A56 hin56 rfl (Sto.ofV A56 q56 O48 (Ins.self f54_E_st_NUMBER)) rfl fun T57 h57 X57 e57 W57 => ?_
  have V57 := Arv.set A56 q56 S56 N56 H56 G56 rfl W57 2 rfl (Nat.le_of_ble_eq_true rfl)
  replace V57 : Arv Z h57 b48 k48 (.object cs1) (6 : Int32) [(.ref st_ARRAY), (.ref st_NUMBER), (.ref st_NUMBER), .null, .null, .null] .null := V57
  have f57_S_st_OBJECT := Sta.wr W57 f54_S_st_OBJECT
  have f57_S_st_ARRAY := Sta.wr W57 f54_S_st_ARRAY
  have f57_S_st_NUMBER := Sta.wr W57 f54_S_st_NUMBER
  have f57_S_st_TRUE := Sta.wr W57 f54_S_st_TRUE
  have f57_S_tb := Sta.wr W57 f54_S_tb
  have f57_V_tb := Arv.other f54_V_tb W57 ne_tb_b48
  have f57_E_st_ARRAY := Exa.wr W57 f54_E_st_ARRAY
  have f57_E_st_NUMBER := Exa.wr W57 f54_E_st_NUMBER
  have f57_E_st_TRUE := Exa.wr W57 f54_E_st_TRUE
  have f57_Eb1 := Exa.wr W57 f54_Eb1
  have f57_Vb1 := Arv.other f54_Vb1 W57 ne_b1_b48
  have f57_Eb22 := Exa.wr W57 f54_Eb22
  have f57_Vb22 := Arv.other f54_Vb22 W57 ne_b22_b48
  have f57_Eb35 := Exa.wr W57 f54_Eb35
  have f57_Vb35 := Arv.other f54_Vb35 W57 ne_b35_b48
  have N57 := Fr.snoc X57 N54 g_b48
  have SZ57 : n0 ≤ h57.size := Nat.le_trans SZ54 (Keep.of_wr W57).1
  refine Gz.dup 145 X57 hx (dd at_144) rfl rfl ?_
  refine Gz.iconst 146 (3 : Int32) X57 hx (dd at_145) rfl rfl ?_
  refine Gz.getS 149 X57 hx hZ hown (dd at_146) (host := "") (Or.inl (ww hw 8 rfl)) Via.refl e57 f57_S_st_NUMBER rfl fun T58 X58 e58 => ?_
  obtain ⟨c59, A59, q59, S59, N59, H59, G59⟩ := id V57
  have hin59 : ¬ ((3 : Int32) < 0 ∨ c59.slots.size ≤ ((3 : Int32)).toNatClampNeg) := inb_of S59 ⟨by decide, by decide⟩
  refine Gz.stR 150 X58 hx hZ (dd at_149) e58 A59 hin59 rfl (Sto.ofV A59 q59 O48 (Ins.self f57_E_st_NUMBER)) rfl fun T60 h60 X60 e60 W60 => ?_
  have V60 := Arv.set A59 q59 S59 N59 H59 G59 rfl W60 3 rfl (Nat.le_of_ble_eq_true rfl)
  replace V60 : Arv Z h60 b48 k48 (.object cs1) (6 : Int32) [(.ref st_ARRAY), (.ref st_NUMBER), (.ref st_NUMBER), (.ref st_NUMBER), .null, .null] .null := V60
  have f60_S_st_OBJECT := Sta.wr W60 f57_S_st_OBJECT
  have f60_S_st_ARRAY := Sta.wr W60 f57_S_st_ARRAY
  have f60_S_st_NUMBER := Sta.wr W60 f57_S_st_NUMBER
  have f60_S_st_TRUE := Sta.wr W60 f57_S_st_TRUE
  have f60_S_tb := Sta.wr W60 f57_S_tb
  have f60_V_tb := Arv.other f57_V_tb W60 ne_tb_b48
  have f60_E_st_ARRAY := Exa.wr W60 f57_E_st_ARRAY
  have f60_E_st_NUMBER := Exa.wr W60 f57_E_st_NUMBER
  have f60_E_st_TRUE := Exa.wr W60 f57_E_st_TRUE
  have f60_Eb1 := Exa.wr W60 f57_Eb1
  have f60_Vb1 := Arv.other f57_Vb1 W60 ne_b1_b48
  have f60_Eb22 := Exa.wr W60 f57_Eb22
  have f60_Vb22 := Arv.other f57_Vb22 W60 ne_b22_b48
  have f60_Eb35 := Exa.wr W60 f57_Eb35
  have f60_Vb35 := Arv.other f57_Vb35 W60 ne_b35_b48
  have N60 := Fr.snoc X60 N57 g_b48
  have SZ60 : n0 ≤ h60.size := Nat.le_trans SZ57 (Keep.of_wr W60).1
  refine Gz.dup 151 X60 hx (dd at_150) rfl rfl ?_
  refine Gz.iconst 152 (4 : Int32) X60 hx (dd at_151) rfl rfl ?_
  refine Gz.getS 155 X60 hx hZ hown (dd at_152) (host := "") (Or.inl (ww hw 4 rfl)) Via.refl e60 f60_S_st_ARRAY rfl fun T61 X61 e61 => ?_
  obtain ⟨c62, A62, q62, S62, N62, H62, G62⟩ := id V60
  have hin62 : ¬ ((4 : Int32) < 0 ∨ c62.slots.size ≤ ((4 : Int32)).toNatClampNeg) := inb_of S62 ⟨by decide, by decide⟩
  refine Gz.stR 156 X61 hx hZ (dd at_155) e61 A62 hin62 rfl (Sto.ofV A62 q62 O48 (Ins.self f60_E_st_ARRAY)) rfl fun T63 h63 X63 e63 W63 => ?_
  have V63 := Arv.set A62 q62 S62 N62 H62 G62 rfl W63 4 rfl (Nat.le_of_ble_eq_true rfl)
  replace V63 : Arv Z h63 b48 k48 (.object cs1) (6 : Int32) [(.ref st_ARRAY), (.ref st_NUMBER), (.ref st_NUMBER), (.ref st_NUMBER), (.ref st_ARRAY), .null] .null := V63
  have f63_S_st_OBJECT := Sta.wr W63 f60_S_st_OBJECT
  have f63_S_st_ARRAY := Sta.wr W63 f60_S_st_ARRAY
  have f63_S_st_NUMBER := Sta.wr W63 f60_S_st_NUMBER
  have f63_S_st_TRUE := Sta.wr W63 f60_S_st_TRUE
  have f63_S_tb := Sta.wr W63 f60_S_tb
  have f63_V_tb := Arv.other f60_V_tb W63 ne_tb_b48
  have f63_E_st_ARRAY := Exa.wr W63 f60_E_st_ARRAY
  have f63_E_st_NUMBER := Exa.wr W63 f60_E_st_NUMBER
  have f63_E_st_TRUE := Exa.wr W63 f60_E_st_TRUE
  have f63_Eb1 := Exa.wr W63 f60_Eb1
  have f63_Vb1 := Arv.other f60_Vb1 W63 ne_b1_b48
  have f63_Eb22 := Exa.wr W63 f60_Eb22
  have f63_Vb22 := Arv.other f60_Vb22 W63 ne_b22_b48
  have f63_Eb35 := Exa.wr W63 f60_Eb35
  have f63_Vb35 := Arv.other f60_Vb35 W63 ne_b35_b48
  have N63 := Fr.snoc X63 N60 g_b48
  have SZ63 : n0 ≤ h63.size := Nat.le_trans SZ60 (Keep.of_wr W63).1
  refine Gz.dup 157 X63 hx (dd at_156) rfl rfl ?_
  refine Gz.iconst 158 (5 : Int32) X63 hx (dd at_157) rfl rfl ?_
  refine Gz.getS 161 X63 hx hZ hown (dd at_158) (host := "") (Or.inl (ww hw 10 rfl)) Via.refl e63 f63_S_st_TRUE rfl fun T64 X64 e64 => ?_
  obtain ⟨c65, A65, q65, S65, N65, H65, G65⟩ := id V63
  have hin65 : ¬ ((5 : Int32) < 0 ∨ c65.slots.size ≤ ((5 : Int32)).toNatClampNeg) := inb_of S65 ⟨by decide, by decide⟩
  refine Gz.stR 162 X64 hx hZ (dd at_161) e64 A65 hin65 rfl (Sto.ofV A65 q65 O48 (Ins.self f63_E_st_TRUE)) rfl fun T66 h66 X66 e66 W66 => ?_
  have V66 := Arv.set A65 q65 S65 N65 H65 G65 rfl W66 5 rfl (Nat.le_of_ble_eq_true rfl)
  replace V66 : Arv Z h66 b48 k48 (.object cs1) (6 : Int32) [(.ref st_ARRAY), (.ref st_NUMBER), (.ref st_NUMBER), (.ref st_NUMBER), (.ref st_ARRAY), (.ref st_TRUE)] .null := V66
  have f66_S_st_OBJECT := Sta.wr W66 f63_S_st_OBJECT
  have f66_S_st_ARRAY := Sta.wr W66 f63_S_st_ARRAY
  have f66_S_st_NUMBER := Sta.wr W66 f63_S_st_NUMBER
  have f66_S_st_TRUE := Sta.wr W66 f63_S_st_TRUE
  have f66_S_tb := Sta.wr W66 f63_S_tb
  have f66_V_tb := Arv.other f63_V_tb W66 ne_tb_b48
  have f66_E_st_ARRAY := Exa.wr W66 f63_E_st_ARRAY
  have f66_E_st_NUMBER := Exa.wr W66 f63_E_st_NUMBER
  have f66_E_st_TRUE := Exa.wr W66 f63_E_st_TRUE
  have f66_Eb1 := Exa.wr W66 f63_Eb1
  have f66_Vb1 := Arv.other f63_Vb1 W66 ne_b1_b48
  have f66_Eb22 := Exa.wr W66 f63_Eb22
  have f66_Vb22 := Arv.other f63_Vb22 W66 ne_b22_b48
  have f66_Eb35 := Exa.wr W66 f63_Eb35
  have f66_Vb35 := Arv.other f63_Vb35 W66 ne_b35_b48
  have N66 := Fr.snoc X66 N63 g_b48
  have SZ66 : n0 ≤ h66.size := Nat.le_trans SZ63 (Keep.of_wr W66).1
  refine Gz.astore 164 #[.val (.int p0), .val (.int p1), .val (.int p2), .val (.ref b1), .val (.ref b22), .val (.ref b35), .val (.ref b48), .unset, .unset, .unset, .unset, .unset, .unset, .unset, .unset] X66 hx (dd at_162) rfl rfl rfl ?_
  refine Gz.iloadN 165 X66 hx (dd at_164) rfl rfl ?_
  refine Gz.ldcI 167 X66 hx (dd at_165) hown (mvT hZ (ww hw 12 rfl)) rfl ?_
  refine Gz.iand 168 X66 hx (dd at_167) rfl ?_
  refine Gz.bipush 170 (6 : Int32) X66 hx (dd at_168) rfl rfl ?_
  refine Gz.irem 171 X66 hx (dd at_170) (by decide) rfl ?_
  show Gz p e below s _ _ _ (T66.setTop (mkF m 171 #[.val (.int p0), .val (.int p1), .val (.int p2), .val (.ref b1), .val (.ref b22), .val (.ref b35), .val (.ref b48), .unset, .unset, .unset, .unset, .unset, .unset, .unset, .unset] [(.int ((p0 &&& (2147483647 : Int32)) % (6 : Int32)))]))
  obtain ⟨kk, q_kk, h_kk⟩ : ∃ z, ((p0 &&& (2147483647 : Int32)) % (6 : Int32)) = z ∧ (z = (0 : Int32) ∨ z = (1 : Int32) ∨ z = (2 : Int32) ∨ z = (3 : Int32) ∨ z = (4 : Int32) ∨ z = (5 : Int32)) := ⟨_, rfl, own_six p0⟩
  rw [q_kk]
  show Gz p e below s _ _ _ (T66.setTop (mkF m 171 #[.val (.int p0), .val (.int p1), .val (.int p2), .val (.ref b1), .val (.ref b22), .val (.ref b35), .val (.ref b48), .unset, .unset, .unset, .unset, .unset, .unset, .unset, .unset] [(.int kk)]))
  refine Gz.istore 173 #[.val (.int p0), .val (.int p1), .val (.int p2), .val (.ref b1), .val (.ref b22), .val (.ref b35), .val (.ref b48), .val (.int kk), .unset, .unset, .unset, .unset, .unset, .unset, .unset] X66 hx (dd at_171) rfl rfl ?_
  refine Gz.iloadN 174 X66 hx (dd at_173) rfl rfl ?_
  refine Gz.iconst 175 (3 : Int32) X66 hx (dd at_174) rfl rfl ?_
  refine Gz.iand 176 X66 hx (dd at_175) rfl ?_
  show Gz p e below s _ _ _ (T66.setTop (mkF m 176 #[.val (.int p0), .val (.int p1), .val (.int p2), .val (.ref b1), .val (.ref b22), .val (.ref b35), .val (.ref b48), .val (.int kk), .unset, .unset, .unset, .unset, .unset, .unset, .unset] [(.int (p2 &&& (3 : Int32)))]))
  obtain ⟨nn, q_nn, h_nn⟩ : ∃ z, (p2 &&& (3 : Int32)) = z ∧ (z = (0 : Int32) ∨ z = (1 : Int32) ∨ z = (2 : Int32) ∨ z = (3 : Int32)) := ⟨_, rfl, own_and3 p2⟩
  rw [q_nn]
  show Gz p e below s _ _ _ (T66.setTop (mkF m 176 #[.val (.int p0), .val (.int p1), .val (.int p2), .val (.ref b1), .val (.ref b22), .val (.ref b35), .val (.ref b48), .val (.int kk), .unset, .unset, .unset, .unset, .unset, .unset, .unset] [(.int nn)]))
  refine Gz.istore 178 #[.val (.int p0), .val (.int p1), .val (.int p2), .val (.ref b1), .val (.ref b22), .val (.ref b35), .val (.ref b48), .val (.int kk), .val (.int nn), .unset, .unset, .unset, .unset, .unset, .unset] X66 hx (dd at_176) rfl rfl ?_
  refine Gz.iloadN 179 X66 hx (dd at_178) rfl rfl ?_
  by_cases hc67 : p1 < (0 : Int32)
  · refine Gz.ifYes 191 X66 hx (dd at_179) ((if0 _ _).trans (tlt hc67).1) (by decide) (by decide) ?_
    refine Gz.iconst 192 (2 : Int32) X66 hx (dd at_191) rfl rfl ?_
    refine Gz.istore 194 #[.val (.int p0), .val (.int p1), .val (.int p2), .val (.ref b1), .val (.ref b22), .val (.ref b35), .val (.ref b48), .val (.int kk), .val (.int nn), .val (.int (2 : Int32)), .unset, .unset, .unset, .unset, .unset] X66 hx (dd at_192) rfl rfl ?_
    exact sgA (.val (.int p0)) p1 (.val (.int p2)) b1 b22 b35 b48 kk nn (2 : Int32) st_OBJECT st_ARRAY st_NUMBER st_TRUE tb k_tb k1 k22 k35 k48 n0 X66 hx hZ hw hby hml hown hret hlk e66 N66 SZ66 f66_S_st_OBJECT f66_S_st_ARRAY f66_S_st_NUMBER f66_S_st_TRUE ne_st_OBJECT_st_ARRAY ne_st_OBJECT_st_NUMBER ne_st_OBJECT_st_TRUE ne_st_ARRAY_st_NUMBER ne_st_ARRAY_st_TRUE f66_S_tb f66_V_tb f66_Vb1 f66_Vb22 f66_Vb35 V66 (own_AEf32 hc67 (by decide) : ¬ (p1 = (2 : Int32))) (by decide : ¬ ((0 : Int32) = (2 : Int32))) (by decide : ¬ ((1 : Int32) = (2 : Int32))) h_kk h_nn
  · refine Gz.ifNo 182 X66 hx (dd at_179) ((if0 _ _).trans (flt hc67).1) rfl ?_
    refine Gz.iloadN 183 X66 hx (dd at_182) rfl rfl ?_
    refine Gz.iconst 184 (3 : Int32) X66 hx (dd at_183) rfl rfl ?_
    by_cases hc68 : p1 < (3 : Int32)
    · refine Gz.icmpNo 187 X66 hx (dd at_184) (tlt hc68).2.1 rfl ?_
      refine Gz.iconst 188 (3 : Int32) X66 hx (dd at_187) rfl rfl ?_
      refine Gz.goto 192 X66 hx (dd at_188) (by decide) (by decide) ?_
      refine Gz.istore 194 #[.val (.int p0), .val (.int p1), .val (.int p2), .val (.ref b1), .val (.ref b22), .val (.ref b35), .val (.ref b48), .val (.int kk), .val (.int nn), .val (.int (3 : Int32)), .unset, .unset, .unset, .unset, .unset] X66 hx (dd at_192) rfl rfl ?_
      exact sgA (.val (.int p0)) p1 (.val (.int p2)) b1 b22 b35 b48 kk nn (3 : Int32) st_OBJECT st_ARRAY st_NUMBER st_TRUE tb k_tb k1 k22 k35 k48 n0 X66 hx hZ hw hby hml hown hret hlk e66 N66 SZ66 f66_S_st_OBJECT f66_S_st_ARRAY f66_S_st_NUMBER f66_S_st_TRUE ne_st_OBJECT_st_ARRAY ne_st_OBJECT_st_NUMBER ne_st_OBJECT_st_TRUE ne_st_ARRAY_st_NUMBER ne_st_ARRAY_st_TRUE f66_S_tb f66_V_tb f66_Vb1 f66_Vb22 f66_Vb35 V66 ((by first | exact own_nlt32 hc68 | exact own_nlt64 hc68) : ¬ (p1 = (3 : Int32))) (by decide : ¬ ((0 : Int32) = (3 : Int32))) (by decide : ¬ ((1 : Int32) = (3 : Int32))) h_kk h_nn
    · refine Gz.icmpYes 191 X66 hx (dd at_184) (flt hc68).2.1 (by decide) (by decide) ?_
      refine Gz.iconst 192 (2 : Int32) X66 hx (dd at_191) rfl rfl ?_
      refine Gz.istore 194 #[.val (.int p0), .val (.int p1), .val (.int p2), .val (.ref b1), .val (.ref b22), .val (.ref b35), .val (.ref b48), .val (.int kk), .val (.int nn), .val (.int (2 : Int32)), .unset, .unset, .unset, .unset, .unset] X66 hx (dd at_192) rfl rfl ?_
      exact sgA (.val (.int p0)) p1 (.val (.int p2)) b1 b22 b35 b48 kk nn (2 : Int32) st_OBJECT st_ARRAY st_NUMBER st_TRUE tb k_tb k1 k22 k35 k48 n0 X66 hx hZ hw hby hml hown hret hlk e66 N66 SZ66 f66_S_st_OBJECT f66_S_st_ARRAY f66_S_st_NUMBER f66_S_st_TRUE ne_st_OBJECT_st_ARRAY ne_st_OBJECT_st_NUMBER ne_st_OBJECT_st_TRUE ne_st_ARRAY_st_NUMBER ne_st_ARRAY_st_TRUE f66_S_tb f66_V_tb f66_Vb1 f66_Vb22 f66_Vb35 V66 (own_BEf32 hc68 (by decide) : ¬ (p1 = (2 : Int32))) (by decide : ¬ ((0 : Int32) = (2 : Int32))) (by decide : ¬ ((1 : Int32) = (2 : Int32))) h_kk h_nn
set_option maxRecDepth 65536 in
set_option maxHeartbeats 40000000 in
theorem comes_1 {Post : Tables → Env → Array Value → State → Outcome → State → Prop} (hpost : ∀ tb e args s v u, (limb_1_1.after args s (.returned v) u = true ∧ limb_1_2.after args s (.returned v) u = true ∧ True) → FrameEnd s (.returned v) u (Jvm.fieldLocs frame_1_writes args s ++ Jvm.arrayLocs frame_1_arrays args s ++ Jvm.staticLocs frame_1_statics s) 24 192 → Post tb e args s (.returned v) u) :
    ArmFor flags0 classFile x code maxLocals ret World_1 tables_1 room_1 Calls_1 rest_1 Pre_1 Post := by
  intro l hfl _ _ p e ha hc hk s m args below hf hA hF happ hP
  obtain ⟨hcalls, hrest, hpre⟩ := hP
  obtain ⟨-, -, -, hnamed, -, -, -, hat⟩ := (Spec.applies_iff hf).mp happ
  obtain ⟨hg, hn⟩ := and_e (Cond.before_iff.mp (show (Jvm.Cond.and given_1 narrow_1).before args s = true from hpre))
  obtain ⟨hcnt, hg0⟩ := and_e hg
  obtain ⟨ha0, hg1⟩ := and_e hg0
  obtain ⟨ha1, hg2⟩ := and_e hg1
  have ha2 := hg2
  obtain ⟨w0, w1, w2, rfl⟩ : ∃ w0 w1 w2 : Value, args = #[w0, w1, w2] := by
    have hs : args.size = 3 := by simpa [Cond.value, given_1] using hcnt
    obtain ⟨L⟩ := args
    match L, hs with
    | [w0, w1, w2], _ => exact ⟨w0, w1, w2, rfl⟩
  have hw := fun d (hd : d ∈ tables_1) => atoms_spec (ws := Jvm.Cond.code x code maxLocals ret :: tables_1) hat d (List.mem_cons_of_mem _ hd)
  have hfit : Fit s := fun {y c} hc i hi => by
    obtain ⟨ha, rfl⟩ := Array.getElem?_eq_some_iff.mp hc
    have q := List.all_eq_true.mp ((Array.all_eq_true_iff_forall_mem.mp hF) _ (Array.getElem_mem ha)) i (List.mem_range.mpr hi)
    simpa [Array.getElem?_eq_getElem hi] using q
  obtain ⟨i0, ei0⟩ := is_v ha0
  obtain rfl : w0 = (.int i0) := Option.some.inj ei0
  obtain ⟨i1, ei1⟩ := is_v ha1
  obtain rfl : w1 = (.int i1) := Option.some.inj ei1
  obtain ⟨i2, ei2⟩ := is_v ha2
  obtain rfl : w2 = (.int i2) := Option.some.inj ei2
  obtain ⟨nn0, nr0⟩ := and_e hn
  obtain ⟨nn1, nr1⟩ := and_e nr0
  obtain ⟨nn2, nr2⟩ := and_e nr1
  obtain ⟨nn3, nr3⟩ := and_e nr2
  obtain ⟨nn4, nr4⟩ := and_e nr3
  obtain ⟨nn5, nr5⟩ := and_e nr4
  obtain ⟨nn6, nr6⟩ := and_e nr5
  obtain ⟨nn7, nr7⟩ := and_e nr6
  obtain ⟨nn8, nr8⟩ := and_e nr7
  obtain ⟨nn9, nr9⟩ := and_e nr8
  obtain ⟨nn10, nr10⟩ := and_e nr9
  obtain ⟨nn11, nr11⟩ := and_e nr10
  obtain ⟨nn12, nr12⟩ := and_e nr11
  have nn13 := nr12
  obtain ⟨st_ARRAY, ev_ARRAY⟩ := exa_v nn0
  have S_ARRAY : Sta s s.heap cs1 "ARRAY" "Lcom/example/bad_status/badstatus/model/JsonReader$Token;" (.ref st_ARRAY) := Sta.start ev_ARRAY (Or.inr ⟨(ww hw 5 rfl), (ww hw 6 rfl)⟩)
  have E_ARRAY : Exa s s.heap st_ARRAY cs1 := Exa.start ev_ARRAY nn0
  obtain ⟨st_NUMBER, ev_NUMBER⟩ := exa_v nn1
  have S_NUMBER : Sta s s.heap cs1 "NUMBER" "Lcom/example/bad_status/badstatus/model/JsonReader$Token;" (.ref st_NUMBER) := Sta.start ev_NUMBER (Or.inr ⟨(ww hw 5 rfl), (ww hw 9 rfl)⟩)
  have E_NUMBER : Exa s s.heap st_NUMBER cs1 := Exa.start ev_NUMBER nn1
  obtain ⟨st_TRUE, ev_TRUE⟩ := exa_v nn2
  have S_TRUE : Sta s s.heap cs1 "TRUE" "Lcom/example/bad_status/badstatus/model/JsonReader$Token;" (.ref st_TRUE) := Sta.start ev_TRUE (Or.inr ⟨(ww hw 5 rfl), (ww hw 11 rfl)⟩)
  have E_TRUE : Exa s s.heap st_TRUE cs1 := Exa.start ev_TRUE nn2
  obtain ⟨st_OBJECT, ev_OBJECT⟩ := exa_v nn3
  have S_OBJECT : Sta s s.heap cs1 "OBJECT" "Lcom/example/bad_status/badstatus/model/JsonReader$Token;" (.ref st_OBJECT) := Sta.start ev_OBJECT (Or.inr ⟨(ww hw 5 rfl), (ww hw 118 rfl)⟩)
  have E_OBJECT : Exa s s.heap st_OBJECT cs1 := Exa.start ev_OBJECT nn3
  have F_ordinal_ARRAY := own_fldI ev_ARRAY nn4
  have F_ordinal_OBJECT := own_fldI ev_OBJECT nn5
  have F_ordinal_NUMBER := own_fldI ev_NUMBER nn6
  have F_ordinal_TRUE := own_fldI ev_TRUE nn13
  have ne_ARRAY_NUMBER : st_ARRAY ≠ st_NUMBER := Fld.ne F_ordinal_ARRAY F_ordinal_NUMBER (by decide)
  have ne_ARRAY_TRUE : st_ARRAY ≠ st_TRUE := Fld.ne F_ordinal_ARRAY F_ordinal_TRUE (by decide)
  have ne_ARRAY_OBJECT : st_ARRAY ≠ st_OBJECT := Fld.ne F_ordinal_ARRAY F_ordinal_OBJECT (by decide)
  have ne_NUMBER_TRUE : st_NUMBER ≠ st_TRUE := Fld.ne F_ordinal_NUMBER F_ordinal_TRUE (by decide)
  have ne_NUMBER_OBJECT : st_NUMBER ≠ st_OBJECT := Fld.ne F_ordinal_NUMBER F_ordinal_OBJECT (by decide)
  have ne_TRUE_OBJECT : st_TRUE ≠ st_OBJECT := Fld.ne F_ordinal_TRUE F_ordinal_OBJECT (by decide)
  obtain ⟨tb, ea_tb⟩ := arr_v nn7
  have S_tb : Sta s s.heap cs0 "TRUE" "[B" (.ref tb) := Sta.start ea_tb (Or.inr ⟨(ww hw 15 rfl), (ww hw 128 rfl)⟩)
  obtain ⟨cl_tb, A_tb⟩ := Arr.start ea_tb nn7
  have l_tb := own_len ea_tb A_tb nn8
  have V_tb : Arv s s.heap tb cl_tb.cls .byte (4 : Int32) [(.int (116 : Int32)), (.int (114 : Int32)), (.int (117 : Int32)), (.int (101 : Int32))] (.int (0 : Int32)) := Arv.start hfit A_tb l_tb.1 l_tb.2 (by decide) rfl ⟨own_el ea_tb A_tb nn9, own_el ea_tb A_tb nn10, own_el ea_tb A_tb nn11, own_el ea_tb A_tb nn12, trivial⟩
  obtain ⟨n, o, h1, h2, h3, _, L, rfl, ⟨rfl, N⟩, hq⟩ := rm0 l s _ hw tables_1 i0 i1 i2 st_OBJECT st_ARRAY st_NUMBER st_TRUE tb cl_tb.cls s.heap s.heap.size (Nat.le_refl _) S_OBJECT S_ARRAY S_NUMBER S_TRUE (Ne.symm ne_ARRAY_OBJECT) (Ne.symm ne_NUMBER_OBJECT) (Ne.symm ne_TRUE_OBJECT) ne_ARRAY_NUMBER ne_ARRAY_TRUE S_tb V_tb E_ARRAY E_NUMBER E_TRUE p e ha hc hk s m _ below hf ((Spec.applies_iff_loose hf).mp happ).1 ⟨rfl, State.Warmed39.refl s, rfl⟩ trivial
  refine ⟨n, _, h1, h2, h3, hpost _ _ _ _ _ _ ⟨Cond.after_iff.mpr rfl, Cond.after_iff.mpr (eq_i res_at (Term.int_eval (1)) rfl), trivial⟩ ⟨hq.1, hq.2.1, (hq.2.2.sift fun y hy => Or.inr (N y hy)).mono (by decide) (by decide)⟩⟩
theorem main_1_1 : Claimed_1_1 := comes_1 fun _ _ _ _ _ _ h hF => ⟨h.1, hF⟩
theorem main_1_2 : Claimed_1_2 := comes_1 fun _ _ _ _ _ _ h hF => ⟨h.2.1, hF⟩
end Jvm.Pilot.@@N@@
namespace Jvm.Pilot.@@N@@
open Jvm Jvm.ClassFile Sem Op Lib Jvm.Free Jvm.Stand Jvm.Pilot.@@N@@.Jvm.D
/-! MADE BY PROGRAM (witnessworld.py) out of the Statement's table words and the real class files: 18 classes; the members and pool entries that the words name. The judged class is class 1, her method 1. -/
namespace start1
open Jvm.ClassFile
def u (s : String) : CpInfo := .utf8 (stringToUtf16 s)
/-- a pool by its gaps: so many unusable entries, then the entry; so many at the end -/
def gap : Nat → List CpInfo → List CpInfo
  | 0, r => r
  | n + 1, r => .unusable :: gap n r
def poolList (es : List (Nat × CpInfo)) (last : Nat) : List CpInfo := es.foldr (fun e r => gap e.1 (e.2 :: r)) (gap last [])
def pool (es : List (Nat × CpInfo)) (last : Nat) : Array CpInfo := ⟨poolList es last⟩
def fileOf (pool : Array CpInfo) (this : Nat) (attrs : Array Attribute := #[]) (ms : Array MethodInfo := #[]) (fl : Nat := 33) (sup : Nat := 0) (ifs : Array Nat := #[]) (fds : Array FieldInfo := #[]) : ClassFile where
  minorVersion := 0
  majorVersion := 65
  constantPool := pool
  accessFlags := fl
  thisClass := this
  superClass := sup
  interfaces := ifs
  fields := fds
  methods := ms
  attributes := attrs
def plain (name : String) (sup : Option ClassId) : Class where
  name := name
  kind := .ordinary
  loader := none
  accessFlags := 33
  super := sup
  interfaces := #[]
  cf := none
  fields := #[]
  methods := #[]
  instanceTypes := #[]
  staticTypes := #[]
  resolved := #[]
  callSites := []
  init := .initialized
  statics := none
  mirror := none

def pool0 : Array CpInfo := pool [(5, u "<init>"), (0, u "()V"), (1, .class_ 10), (1, u "java/lang/Object")] 113

def k0c0 : Code := { maxStack := 0, maxLocals := 1, code := object_method_1_code, exceptionTable := #[], attributes := #[] }
def k0m0 : Method := { name := "<init>", desc := "()V", sig := { parameters := [], returnType := none }, accessFlags := 1, code := some k0c0 }
/-- java/lang/Object -/
def k0 : Class := { plain "java/lang/Object" none with
  accessFlags := 33
  interfaces := #[]
  cf := some (fileOf pool0 8 #[] #[{ accessFlags := 1, nameIndex := 5, descriptorIndex := 6, attributes := #[] }] 33 0 #[] #[])
  fields := #[]
  methods := #[k0m0]
  instanceTypes := #[]
  staticTypes := #[]
  resolved := Array.replicate 124 none
  statics := none }

def pool1 : Array CpInfo := pool [(2, .class_ 4), (1, u "java/lang/Object"), (0, u "<init>"), (0, u "()V"), (0, .class_ 8), (0, u "com/example/bad_status/badstatus/model/JsonReader$Token"), (0, .fieldref 7 10), (0, .nameAndType 11 12), (0, u "ARRAY"), (0, u "Lcom/example/bad_status/badstatus/model/JsonReader$Token;"), (0, .fieldref 7 14), (0, .nameAndType 15 12), (0, u "NUMBER"), (0, .fieldref 7 17), (0, .nameAndType 18 12), (0, u "TRUE"), (0, .integer 2147483647), (0, .class_ 21), (0, u "com/example/bad_status/badstatus/model/JsonReader"), (0, .methodref 20 23), (0, .nameAndType 5 24), (0, u "([BII)V"), (0, .methodref 20 26), (0, .nameAndType 27 28), (0, u "next"), (0, u "()Lcom/example/bad_status/badstatus/model/JsonReader$Token;"), (0, .methodref 20 30), (0, .nameAndType 31 28), (0, u "nextElement"), (0, .class_ 33), (0, u "com/example/bad_status/badstatus/model/JsonReader$Mark"), (0, .methodref 32 35), (0, .nameAndType 5 36), (0, u "(II)V"), (0, .methodref 20 38), (0, .nameAndType 39 40), (0, u "reset"), (0, u "(Lcom/example/bad_status/badstatus/model/JsonReader$Mark;)V"), (0, .methodref 20 42), (0, .nameAndType 43 44), (0, u "mark"), (0, u "()Lcom/example/bad_status/badstatus/model/JsonReader$Mark;"), (0, .methodref 32 46), (0, .nameAndType 47 48), (0, u "depth"), (0, u "()I"), (0, .methodref 32 50), (0, .nameAndType 51 48), (0, u "position"), (0, .class_ 53), (0, u "com/example/bad_status/badstatus/model/JsonReaderResetPinLaw"), (2, u "law"), (0, u "(III)Z")] 15

def k1m0 : Method := { name := "<init>", desc := "()V", sig := { parameters := [], returnType := none }, accessFlags := 1, code := none }
def k1c1 : Code := { maxStack := 5, maxLocals := 15, code := code, exceptionTable := #[], attributes := #[] }
def k1m1 : Method := { name := "law", desc := "(III)Z", sig := { parameters := [.int, .int, .int], returnType := some .boolean }, accessFlags := 9, code := some k1c1 }
/-- com/example/bad_status/badstatus/model/JsonReaderResetPinLaw -/
def k1 : Class := { plain "com/example/bad_status/badstatus/model/JsonReaderResetPinLaw" (some 0) with
  accessFlags := 49
  interfaces := #[]
  cf := some (fileOf pool1 52 #[] #[{ accessFlags := 1, nameIndex := 5, descriptorIndex := 6, attributes := #[] }, { accessFlags := 9, nameIndex := 56, descriptorIndex := 57, attributes := #[] }] 49 2 #[] #[])
  fields := #[]
  methods := #[k1m0, k1m1]
  instanceTypes := #[]
  staticTypes := #[]
  resolved := Array.replicate 73 none
  statics := none }

def pool2 : Array CpInfo := pool [(1, .class_ 2), (0, u "java/lang/constant/Constable"), (0, .class_ 4), (0, u "java/lang/Object")] 6

/-- java/lang/constant/Constable -/
def k2 : Class := { plain "java/lang/constant/Constable" (some 0) with
  accessFlags := 1537
  interfaces := #[]
  cf := some (fileOf pool2 1 #[] #[] 1537 3 #[] #[])
  fields := #[]
  methods := #[]
  instanceTypes := #[]
  staticTypes := #[]
  resolved := Array.replicate 11 none
  statics := none }

def pool3 : Array CpInfo := pool [(1, .class_ 2), (0, u "java/lang/Comparable"), (0, .class_ 4), (0, u "java/lang/Object")] 7

/-- java/lang/Comparable -/
def k3 : Class := { plain "java/lang/Comparable" (some 0) with
  accessFlags := 1537
  interfaces := #[]
  cf := some (fileOf pool3 1 #[] #[] 1537 3 #[] #[])
  fields := #[]
  methods := #[]
  instanceTypes := #[]
  staticTypes := #[]
  resolved := Array.replicate 12 none
  statics := none }

def pool4 : Array CpInfo := pool [(1, .class_ 2), (0, u "java/io/Serializable"), (0, .class_ 4), (0, u "java/lang/Object")] 2

/-- java/io/Serializable -/
def k4 : Class := { plain "java/io/Serializable" (some 0) with
  accessFlags := 1537
  interfaces := #[]
  cf := some (fileOf pool4 1 #[] #[] 1537 3 #[] #[])
  fields := #[]
  methods := #[]
  instanceTypes := #[]
  staticTypes := #[]
  resolved := Array.replicate 7 none
  statics := none }

def pool5 : Array CpInfo := pool [(2, .class_ 4), (1, u "java/lang/Enum"), (0, u "name"), (0, u "Ljava/lang/String;"), (2, u "ordinal"), (0, u "I"), (1, .class_ 14), (1, u "java/lang/Object"), (4, u "hash"), (86, .class_ 108), (1, u "java/lang/Enum$EnumDesc"), (2, .class_ 112), (0, u "java/lang/constant/Constable"), (0, .class_ 114), (0, u "java/lang/Comparable"), (0, .class_ 116), (0, u "java/io/Serializable")] 87

/-- java/lang/Enum -/
def k5 : Class := { plain "java/lang/Enum" (some 0) with
  accessFlags := 1057
  interfaces := #[2, 3, 4]
  cf := some (fileOf pool5 2 #[.nestMembers #[106]] #[] 1057 12 #[111, 113, 115] #[{ accessFlags := 18, nameIndex := 5, descriptorIndex := 6, attributes := #[] }, { accessFlags := 18, nameIndex := 9, descriptorIndex := 10, attributes := #[] }, { accessFlags := 2, nameIndex := 19, descriptorIndex := 10, attributes := #[] }])
  fields := #[{ name := "name", type := (.object "java/lang/String"), accessFlags := 18, slot := 0, constantValue := 0 }, { name := "ordinal", type := .int, accessFlags := 18, slot := 1, constantValue := 0 }, { name := "hash", type := .int, accessFlags := 2, slot := 2, constantValue := 0 }]
  methods := #[]
  instanceTypes := #[(.object "java/lang/String"), .int, .int]
  staticTypes := #[]
  resolved := Array.replicate 204 none
  statics := none }

def pool6 : Array CpInfo := pool [(1, .class_ 2), (0, u "com/example/bad_status/badstatus/model/JsonReader$Token"), (2, u "OBJECT"), (0, u "Lcom/example/bad_status/badstatus/model/JsonReader$Token;"), (2, u "ARRAY"), (2, u "STRING"), (2, u "NUMBER"), (2, u "TRUE"), (2, u "FALSE"), (2, u "NULL"), (2, u "$VALUES"), (0, u "[Lcom/example/bad_status/badstatus/model/JsonReader$Token;"), (6, .class_ 37), (1, u "java/lang/Enum"), (30, .class_ 69), (0, u "com/example/bad_status/badstatus/model/JsonReader")] 2

/-- com/example/bad_status/badstatus/model/JsonReader$Token -/
def k6 : Class := { plain "com/example/bad_status/badstatus/model/JsonReader$Token" (some 5) with
  accessFlags := 16432
  interfaces := #[]
  cf := some (fileOf pool6 1 #[.nestHost 68] #[] 16432 35 #[] #[{ accessFlags := 16409, nameIndex := 5, descriptorIndex := 6, attributes := #[] }, { accessFlags := 16409, nameIndex := 9, descriptorIndex := 6, attributes := #[] }, { accessFlags := 16409, nameIndex := 12, descriptorIndex := 6, attributes := #[] }, { accessFlags := 16409, nameIndex := 15, descriptorIndex := 6, attributes := #[] }, { accessFlags := 16409, nameIndex := 18, descriptorIndex := 6, attributes := #[] }, { accessFlags := 16409, nameIndex := 21, descriptorIndex := 6, attributes := #[] }, { accessFlags := 16409, nameIndex := 24, descriptorIndex := 6, attributes := #[] }, { accessFlags := 4122, nameIndex := 27, descriptorIndex := 28, attributes := #[] }])
  fields := #[{ name := "OBJECT", type := (.object "com/example/bad_status/badstatus/model/JsonReader$Token"), accessFlags := 16409, slot := 0, constantValue := 0 }, { name := "ARRAY", type := (.object "com/example/bad_status/badstatus/model/JsonReader$Token"), accessFlags := 16409, slot := 1, constantValue := 0 }, { name := "STRING", type := (.object "com/example/bad_status/badstatus/model/JsonReader$Token"), accessFlags := 16409, slot := 2, constantValue := 0 }, { name := "NUMBER", type := (.object "com/example/bad_status/badstatus/model/JsonReader$Token"), accessFlags := 16409, slot := 3, constantValue := 0 }, { name := "TRUE", type := (.object "com/example/bad_status/badstatus/model/JsonReader$Token"), accessFlags := 16409, slot := 4, constantValue := 0 }, { name := "FALSE", type := (.object "com/example/bad_status/badstatus/model/JsonReader$Token"), accessFlags := 16409, slot := 5, constantValue := 0 }, { name := "NULL", type := (.object "com/example/bad_status/badstatus/model/JsonReader$Token"), accessFlags := 16409, slot := 6, constantValue := 0 }, { name := "$VALUES", type := (.array (.object "com/example/bad_status/badstatus/model/JsonReader$Token")), accessFlags := 4122, slot := 7, constantValue := 0 }]
  methods := #[]
  instanceTypes := #[(.object "java/lang/String"), .int, .int]
  staticTypes := #[(.object "com/example/bad_status/badstatus/model/JsonReader$Token"), (.object "com/example/bad_status/badstatus/model/JsonReader$Token"), (.object "com/example/bad_status/badstatus/model/JsonReader$Token"), (.object "com/example/bad_status/badstatus/model/JsonReader$Token"), (.object "com/example/bad_status/badstatus/model/JsonReader$Token"), (.object "com/example/bad_status/badstatus/model/JsonReader$Token"), (.object "com/example/bad_status/badstatus/model/JsonReader$Token"), (.array (.object "com/example/bad_status/badstatus/model/JsonReader$Token"))]
  resolved := Array.replicate 72 none
  statics := some 0 }

def pool7 : Array CpInfo := pool [(3, .methodref 4 5), (0, .class_ 6), (0, .nameAndType 7 8), (0, u "java/lang/Object"), (0, u "<init>"), (0, u "()V"), (0, .fieldref 10 11), (0, .class_ 12), (0, .nameAndType 13 14), (0, u "com/example/bad_status/badstatus/model/JsonReader"), (0, u "bytes"), (0, u "[B"), (0, .fieldref 10 16), (0, .nameAndType 17 18), (0, u "position"), (0, u "I"), (0, .fieldref 10 20), (0, .nameAndType 21 18), (0, u "maxDepth"), (0, .methodref 10 23), (0, .nameAndType 24 25), (0, u "skipWhitespace"), (0, u "()I"), (0, .fieldref 10 27), (0, .nameAndType 28 18), (0, u "tokenStart"), (0, .fieldref 30 31), (0, .class_ 32), (0, .nameAndType 33 34), (0, u "com/example/bad_status/badstatus/model/JsonReader$Token"), (0, u "OBJECT"), (0, u "Lcom/example/bad_status/badstatus/model/JsonReader$Token;"), (0, .methodref 10 36), (0, .nameAndType 37 38), (0, u "open"), (0, u "(Lcom/example/bad_status/badstatus/model/JsonReader$Token;)Lcom/example/bad_status/badstatus/model/JsonReader$Token;"), (0, .fieldref 30 40), (0, .nameAndType 41 34), (0, u "ARRAY"), (6, .fieldref 10 49), (0, .nameAndType 50 14), (0, u "TRUE"), (0, .fieldref 30 52), (0, .nameAndType 50 34), (0, .methodref 10 54), (0, .nameAndType 55 56), (0, u "readLiteral"), (0, u "([BLcom/example/bad_status/badstatus/model/JsonReader$Token;)Lcom/example/bad_status/badstatus/model/JsonReader$Token;"), (2, u "FALSE"), (4, u "NULL"), (2, .methodref 10 68), (0, .nameAndType 69 70), (0, u "isDigit"), (0, u "(I)Z"), (4, .methodref 10 76), (0, .nameAndType 77 8), (0, u "readNumber"), (0, .fieldref 30 79), (0, .nameAndType 80 34), (0, u "NUMBER"), (0, .fieldref 10 82), (0, .nameAndType 83 34), (0, u "token"), (0, .fieldref 10 85), (0, .nameAndType 86 87), (0, u "first"), (0, u "Z"), (0, .methodref 10 89), (0, .nameAndType 90 91), (0, u "pastComma"), (0, u "(I)I"), (7, .methodref 10 100), (0, .nameAndType 101 102), (0, u "next"), (0, u "()Lcom/example/bad_status/badstatus/model/JsonReader$Token;"), (9, u "nextElement"), (0, .class_ 114), (0, u "com/example/bad_status/badstatus/model/JsonReader$Mark"), (0, .fieldref 10 116), (0, .nameAndType 117 18), (0, u "depth"), (0, .methodref 113 119), (0, .nameAndType 7 120), (0, u "(II)V"), (0, .methodref 113 122), (0, .nameAndType 17 25), (0, .methodref 113 124), (0, .nameAndType 117 25), (0, .fieldref 10 126), (0, .nameAndType 127 87), (0, u "escaped"), (0, .fieldref 10 129), (0, .nameAndType 130 18), (0, u "textStart"), (0, .fieldref 10 132), (0, .nameAndType 133 18), (0, u "textEnd"), (4, .fieldref 10 139), (0, .nameAndType 140 87), (0, u "ascii"), (35, .fieldref 10 177), (0, .nameAndType 178 87), (0, u "integral"), (10, .methodref 10 190), (0, .nameAndType 191 192), (0, u "isWhitespace"), (0, u "(B)Z"), (103, .methodref 10 297), (0, .nameAndType 298 91), (0, u "digitsEnd"), (4, .methodref 304 305), (0, .class_ 306), (0, .nameAndType 307 308), (0, u "java/util/Arrays"), (0, u "equals"), (0, u "([BII[BII)Z"), (27, u "END"), (2, u "ESCAPED"), (0, u "Ljava/lang/String;"), (0, u "UNESCAPED"), (0, u "UNICODE_ESCAPE_DIGITS"), (1, u "HEX"), (1, u "QUOTES"), (0, u "J"), (0, u "BACKSLASHES"), (0, u "SPACES"), (0, u "([BII)V"), (5, u "mark"), (0, u "()Lcom/example/bad_status/badstatus/model/JsonReader$Mark;"), (0, u "reset"), (0, u "(Lcom/example/bad_status/badstatus/model/JsonReader$Mark;)V")] 31

def k7c0 : Code := { maxStack := 2, maxLocals := 4, code := prog_11_method_1_code, exceptionTable := #[], attributes := #[] }
def k7m0 : Method := { name := "<init>", desc := "([BII)V", sig := { parameters := [(.array .byte), .int, .int], returnType := none }, accessFlags := 0, code := some k7c0 }
def k7c1 : Code := { maxStack := 3, maxLocals := 3, code := prog_11_method_2_code, exceptionTable := #[], attributes := #[] }
def k7m1 : Method := { name := "next", desc := "()Lcom/example/bad_status/badstatus/model/JsonReader$Token;", sig := { parameters := [], returnType := some (.object "com/example/bad_status/badstatus/model/JsonReader$Token") }, accessFlags := 0, code := some k7c1 }
def k7c2 : Code := { maxStack := 2, maxLocals := 3, code := prog_11_method_4_code, exceptionTable := #[], attributes := #[] }
def k7m2 : Method := { name := "nextElement", desc := "()Lcom/example/bad_status/badstatus/model/JsonReader$Token;", sig := { parameters := [], returnType := some (.object "com/example/bad_status/badstatus/model/JsonReader$Token") }, accessFlags := 0, code := some k7c2 }
def k7c3 : Code := { maxStack := 5, maxLocals := 2, code := prog_11_method_7_code, exceptionTable := #[], attributes := #[] }
def k7m3 : Method := { name := "mark", desc := "()Lcom/example/bad_status/badstatus/model/JsonReader$Mark;", sig := { parameters := [], returnType := some (.object "com/example/bad_status/badstatus/model/JsonReader$Mark") }, accessFlags := 0, code := some k7c3 }
def k7c4 : Code := { maxStack := 2, maxLocals := 2, code := prog_11_method_8_code, exceptionTable := #[], attributes := #[] }
def k7m4 : Method := { name := "reset", desc := "(Lcom/example/bad_status/badstatus/model/JsonReader$Mark;)V", sig := { parameters := [(.object "com/example/bad_status/badstatus/model/JsonReader$Mark")], returnType := none }, accessFlags := 0, code := some k7c4 }
def k7c5 : Code := { maxStack := 2, maxLocals := 2, code := prog_11_method_14_code, exceptionTable := #[], attributes := #[] }
def k7m5 : Method := { name := "skipWhitespace", desc := "()I", sig := { parameters := [], returnType := some .int }, accessFlags := 2, code := some k7c5 }
def k7c6 : Code := { maxStack := 2, maxLocals := 1, code := prog_11_method_15_code, exceptionTable := #[], attributes := #[] }
def k7m6 : Method := { name := "isWhitespace", desc := "(B)Z", sig := { parameters := [.byte], returnType := some .boolean }, accessFlags := 10, code := some k7c6 }
def k7c7 : Code := { maxStack := 3, maxLocals := 2, code := prog_11_method_16_code, exceptionTable := #[], attributes := #[] }
def k7m7 : Method := { name := "pastComma", desc := "(I)I", sig := { parameters := [.int], returnType := some .int }, accessFlags := 2, code := some k7c7 }
def k7c8 : Code := { maxStack := 3, maxLocals := 2, code := prog_11_method_18_code, exceptionTable := #[], attributes := #[] }
def k7m8 : Method := { name := "open", desc := "(Lcom/example/bad_status/badstatus/model/JsonReader$Token;)Lcom/example/bad_status/badstatus/model/JsonReader$Token;", sig := { parameters := [(.object "com/example/bad_status/badstatus/model/JsonReader$Token")], returnType := some (.object "com/example/bad_status/badstatus/model/JsonReader$Token") }, accessFlags := 2, code := some k7c8 }
def k7c9 : Code := { maxStack := 3, maxLocals := 5, code := prog_11_method_26_code, exceptionTable := #[], attributes := #[] }
def k7m9 : Method := { name := "readNumber", desc := "()V", sig := { parameters := [], returnType := none }, accessFlags := 2, code := some k7c9 }
def k7c10 : Code := { maxStack := 2, maxLocals := 3, code := prog_11_method_27_code, exceptionTable := #[], attributes := #[] }
def k7m10 : Method := { name := "digitsEnd", desc := "(I)I", sig := { parameters := [.int], returnType := some .int }, accessFlags := 2, code := some k7c10 }
def k7c11 : Code := { maxStack := 2, maxLocals := 1, code := prog_11_method_28_code, exceptionTable := #[], attributes := #[] }
def k7m11 : Method := { name := "isDigit", desc := "(I)Z", sig := { parameters := [.int], returnType := some .boolean }, accessFlags := 10, code := some k7c11 }
def k7c12 : Code := { maxStack := 6, maxLocals := 4, code := prog_11_method_29_code, exceptionTable := #[], attributes := #[] }
def k7m12 : Method := { name := "readLiteral", desc := "([BLcom/example/bad_status/badstatus/model/JsonReader$Token;)Lcom/example/bad_status/badstatus/model/JsonReader$Token;", sig := { parameters := [(.array .byte), (.object "com/example/bad_status/badstatus/model/JsonReader$Token")], returnType := some (.object "com/example/bad_status/badstatus/model/JsonReader$Token") }, accessFlags := 2, code := some k7c12 }
/-- com/example/bad_status/badstatus/model/JsonReader -/
def k7 : Class := { plain "com/example/bad_status/badstatus/model/JsonReader" (some 0) with
  accessFlags := 48
  interfaces := #[]
  cf := some (fileOf pool7 10 #[.nestMembers #[113, 30]] #[{ accessFlags := 0, nameIndex := 7, descriptorIndex := 350, attributes := #[] }, { accessFlags := 0, nameIndex := 101, descriptorIndex := 102, attributes := #[] }, { accessFlags := 0, nameIndex := 112, descriptorIndex := 102, attributes := #[] }, { accessFlags := 0, nameIndex := 356, descriptorIndex := 357, attributes := #[] }, { accessFlags := 0, nameIndex := 358, descriptorIndex := 359, attributes := #[] }, { accessFlags := 2, nameIndex := 24, descriptorIndex := 25, attributes := #[] }, { accessFlags := 10, nameIndex := 191, descriptorIndex := 192, attributes := #[] }, { accessFlags := 2, nameIndex := 90, descriptorIndex := 91, attributes := #[] }, { accessFlags := 2, nameIndex := 37, descriptorIndex := 38, attributes := #[] }, { accessFlags := 2, nameIndex := 77, descriptorIndex := 8, attributes := #[] }, { accessFlags := 2, nameIndex := 298, descriptorIndex := 91, attributes := #[] }, { accessFlags := 10, nameIndex := 69, descriptorIndex := 70, attributes := #[] }, { accessFlags := 2, nameIndex := 55, descriptorIndex := 56, attributes := #[] }] 48 4 #[] #[{ accessFlags := 26, nameIndex := 336, descriptorIndex := 18, attributes := #[] }, { accessFlags := 26, nameIndex := 50, descriptorIndex := 14, attributes := #[] }, { accessFlags := 26, nameIndex := 59, descriptorIndex := 14, attributes := #[] }, { accessFlags := 26, nameIndex := 64, descriptorIndex := 14, attributes := #[] }, { accessFlags := 26, nameIndex := 339, descriptorIndex := 340, attributes := #[] }, { accessFlags := 26, nameIndex := 341, descriptorIndex := 340, attributes := #[] }, { accessFlags := 26, nameIndex := 342, descriptorIndex := 18, attributes := #[] }, { accessFlags := 26, nameIndex := 344, descriptorIndex := 18, attributes := #[] }, { accessFlags := 26, nameIndex := 346, descriptorIndex := 347, attributes := #[] }, { accessFlags := 26, nameIndex := 348, descriptorIndex := 347, attributes := #[] }, { accessFlags := 26, nameIndex := 349, descriptorIndex := 347, attributes := #[] }, { accessFlags := 18, nameIndex := 13, descriptorIndex := 14, attributes := #[] }, { accessFlags := 18, nameIndex := 21, descriptorIndex := 18, attributes := #[] }, { accessFlags := 2, nameIndex := 17, descriptorIndex := 18, attributes := #[] }, { accessFlags := 2, nameIndex := 117, descriptorIndex := 18, attributes := #[] }, { accessFlags := 2, nameIndex := 86, descriptorIndex := 87, attributes := #[] }, { accessFlags := 2, nameIndex := 83, descriptorIndex := 34, attributes := #[] }, { accessFlags := 2, nameIndex := 28, descriptorIndex := 18, attributes := #[] }, { accessFlags := 2, nameIndex := 130, descriptorIndex := 18, attributes := #[] }, { accessFlags := 2, nameIndex := 133, descriptorIndex := 18, attributes := #[] }, { accessFlags := 2, nameIndex := 127, descriptorIndex := 87, attributes := #[] }, { accessFlags := 2, nameIndex := 140, descriptorIndex := 87, attributes := #[] }, { accessFlags := 2, nameIndex := 178, descriptorIndex := 87, attributes := #[] }])
  fields := #[{ name := "END", type := .int, accessFlags := 26, slot := 0, constantValue := 0 }, { name := "TRUE", type := (.array .byte), accessFlags := 26, slot := 1, constantValue := 0 }, { name := "FALSE", type := (.array .byte), accessFlags := 26, slot := 2, constantValue := 0 }, { name := "NULL", type := (.array .byte), accessFlags := 26, slot := 3, constantValue := 0 }, { name := "ESCAPED", type := (.object "java/lang/String"), accessFlags := 26, slot := 4, constantValue := 0 }, { name := "UNESCAPED", type := (.object "java/lang/String"), accessFlags := 26, slot := 5, constantValue := 0 }, { name := "UNICODE_ESCAPE_DIGITS", type := .int, accessFlags := 26, slot := 6, constantValue := 0 }, { name := "HEX", type := .int, accessFlags := 26, slot := 7, constantValue := 0 }, { name := "QUOTES", type := .long, accessFlags := 26, slot := 8, constantValue := 0 }, { name := "BACKSLASHES", type := .long, accessFlags := 26, slot := 9, constantValue := 0 }, { name := "SPACES", type := .long, accessFlags := 26, slot := 10, constantValue := 0 }, { name := "bytes", type := (.array .byte), accessFlags := 18, slot := 0, constantValue := 0 }, { name := "maxDepth", type := .int, accessFlags := 18, slot := 1, constantValue := 0 }, { name := "position", type := .int, accessFlags := 2, slot := 2, constantValue := 0 }, { name := "depth", type := .int, accessFlags := 2, slot := 3, constantValue := 0 }, { name := "first", type := .boolean, accessFlags := 2, slot := 4, constantValue := 0 }, { name := "token", type := (.object "com/example/bad_status/badstatus/model/JsonReader$Token"), accessFlags := 2, slot := 5, constantValue := 0 }, { name := "tokenStart", type := .int, accessFlags := 2, slot := 6, constantValue := 0 }, { name := "textStart", type := .int, accessFlags := 2, slot := 7, constantValue := 0 }, { name := "textEnd", type := .int, accessFlags := 2, slot := 8, constantValue := 0 }, { name := "escaped", type := .boolean, accessFlags := 2, slot := 9, constantValue := 0 }, { name := "ascii", type := .boolean, accessFlags := 2, slot := 10, constantValue := 0 }, { name := "integral", type := .boolean, accessFlags := 2, slot := 11, constantValue := 0 }]
  methods := #[k7m0, k7m1, k7m2, k7m3, k7m4, k7m5, k7m6, k7m7, k7m8, k7m9, k7m10, k7m11, k7m12]
  instanceTypes := #[(.array .byte), .int, .int, .int, .boolean, (.object "com/example/bad_status/badstatus/model/JsonReader$Token"), .int, .int, .int, .boolean, .boolean, .boolean]
  staticTypes := #[.int, (.array .byte), (.array .byte), (.array .byte), (.object "java/lang/String"), (.object "java/lang/String"), .int, .int, .long, .long, .long]
  resolved := Array.replicate 391 none
  statics := some 1 }

def pool8 : Array CpInfo := pool [(1, .methodref 2 3), (0, .class_ 4), (0, .nameAndType 5 6), (0, u "java/lang/Object"), (0, u "<init>"), (0, u "()V"), (0, .class_ 8), (0, u "java/lang/Record")] 13

def k8c0 : Code := { maxStack := 1, maxLocals := 1, code := jdk_30_method_1_code, exceptionTable := #[], attributes := #[] }
def k8m0 : Method := { name := "<init>", desc := "()V", sig := { parameters := [], returnType := none }, accessFlags := 4, code := some k8c0 }
/-- java/lang/Record -/
def k8 : Class := { plain "java/lang/Record" (some 0) with
  accessFlags := 1057
  interfaces := #[]
  cf := some (fileOf pool8 7 #[] #[{ accessFlags := 4, nameIndex := 5, descriptorIndex := 6, attributes := #[] }] 1057 2 #[] #[])
  fields := #[]
  methods := #[k8m0]
  instanceTypes := #[]
  staticTypes := #[]
  resolved := Array.replicate 22 none
  statics := none }

def pool9 : Array CpInfo := pool [(1, .methodref 2 3), (0, .class_ 4), (0, .nameAndType 5 6), (0, u "java/lang/Record"), (0, u "<init>"), (0, u "()V"), (0, .fieldref 8 9), (0, .class_ 10), (0, .nameAndType 11 12), (0, u "com/example/bad_status/badstatus/model/JsonReader$Mark"), (0, u "position"), (0, u "I"), (0, .fieldref 8 14), (0, .nameAndType 15 12), (0, u "depth"), (12, u "(II)V"), (4, u "()I"), (4, .class_ 39), (0, u "com/example/bad_status/badstatus/model/JsonReader")] 20

def k9c0 : Code := { maxStack := 2, maxLocals := 3, code := prog_12_method_1_code, exceptionTable := #[], attributes := #[] }
def k9m0 : Method := { name := "<init>", desc := "(II)V", sig := { parameters := [.int, .int], returnType := none }, accessFlags := 0, code := some k9c0 }
def k9c1 : Code := { maxStack := 1, maxLocals := 1, code := prog_12_method_5_code, exceptionTable := #[], attributes := #[] }
def k9m1 : Method := { name := "position", desc := "()I", sig := { parameters := [], returnType := some .int }, accessFlags := 1, code := some k9c1 }
def k9c2 : Code := { maxStack := 1, maxLocals := 1, code := prog_12_method_6_code, exceptionTable := #[], attributes := #[] }
def k9m2 : Method := { name := "depth", desc := "()I", sig := { parameters := [], returnType := some .int }, accessFlags := 1, code := some k9c2 }
/-- com/example/bad_status/badstatus/model/JsonReader$Mark -/
def k9 : Class := { plain "com/example/bad_status/badstatus/model/JsonReader$Mark" (some 8) with
  accessFlags := 48
  interfaces := #[]
  cf := some (fileOf pool9 8 #[.nestHost 38] #[{ accessFlags := 0, nameIndex := 5, descriptorIndex := 28, attributes := #[] }, { accessFlags := 1, nameIndex := 11, descriptorIndex := 33, attributes := #[] }, { accessFlags := 1, nameIndex := 15, descriptorIndex := 33, attributes := #[] }] 48 2 #[] #[{ accessFlags := 18, nameIndex := 11, descriptorIndex := 12, attributes := #[] }, { accessFlags := 18, nameIndex := 15, descriptorIndex := 12, attributes := #[] }])
  fields := #[{ name := "position", type := .int, accessFlags := 18, slot := 0, constantValue := 0 }, { name := "depth", type := .int, accessFlags := 18, slot := 1, constantValue := 0 }]
  methods := #[k9m0, k9m1, k9m2]
  instanceTypes := #[.int, .int]
  staticTypes := #[]
  resolved := Array.replicate 60 none
  statics := none }

def pool10 : Array CpInfo := pool [(2, .class_ 4), (1, u "java/lang/Object"), (0, u "<init>"), (0, u "()V"), (6, .methodref 14 15), (0, .class_ 16), (0, .nameAndType 17 18), (0, u "java/util/Arrays"), (0, u "rangeCheck"), (0, u "(III)V"), (55, .class_ 76), (1, u "java/util/Arrays$NaturalOrder"), (36, .class_ 115), (1, u "java/util/Arrays$LegacyMergeSort"), (1, u "Z"), (128, .class_ 248), (1, u "jdk/internal/util/ArraysSupport"), (0, u "mismatch"), (25, .methodref 246 276), (0, .nameAndType 249 277), (0, u "([BI[BII)I"), (20, u "equals"), (76, .class_ 376), (0, u "java/util/Arrays$ArrayList"), (68, u "$assertionsDisabled"), (269, u "MIN_ARRAY_SORT_GRAN"), (0, u "I"), (2, u "INSERTIONSORT_THRESHOLD"), (111, u "([BII[BII)Z"), (143, .class_ 976), (0, u "java/util/Arrays$ArrayItr")] 52

def k10m0 : Method := { name := "<init>", desc := "()V", sig := { parameters := [], returnType := none }, accessFlags := 2, code := none }
def k10c1 : Code := { maxStack := 4, maxLocals := 3, code := jdk_65_method_30_code, exceptionTable := #[], attributes := #[] }
def k10m1 : Method := { name := "rangeCheck", desc := "(III)V", sig := { parameters := [.int, .int, .int], returnType := none }, accessFlags := 8, code := some k10c1 }
def k10c2 : Code := { maxStack := 5, maxLocals := 8, code := jdk_65_method_90_code, exceptionTable := #[], attributes := #[] }
def k10m2 : Method := { name := "equals", desc := "([BII[BII)Z", sig := { parameters := [(.array .byte), .int, .int, (.array .byte), .int, .int], returnType := some .boolean }, accessFlags := 9, code := some k10c2 }
/-- java/util/Arrays -/
def k10 : Class := { plain "java/util/Arrays" (some 0) with
  accessFlags := 49
  interfaces := #[]
  cf := some (fileOf pool10 14 #[.nestMembers #[975, 375, 113, 74]] #[{ accessFlags := 2, nameIndex := 5, descriptorIndex := 6, attributes := #[] }, { accessFlags := 8, nameIndex := 17, descriptorIndex := 18, attributes := #[] }, { accessFlags := 9, nameIndex := 298, descriptorIndex := 831, attributes := #[] }] 49 2 #[] #[{ accessFlags := 26, nameIndex := 715, descriptorIndex := 716, attributes := #[] }, { accessFlags := 26, nameIndex := 719, descriptorIndex := 716, attributes := #[] }, { accessFlags := 4120, nameIndex := 445, descriptorIndex := 117, attributes := #[] }])
  fields := #[{ name := "MIN_ARRAY_SORT_GRAN", type := .int, accessFlags := 26, slot := 0, constantValue := 0 }, { name := "INSERTIONSORT_THRESHOLD", type := .int, accessFlags := 26, slot := 1, constantValue := 0 }, { name := "$assertionsDisabled", type := .boolean, accessFlags := 4120, slot := 2, constantValue := 0 }]
  methods := #[k10m0, k10m1, k10m2]
  instanceTypes := #[]
  staticTypes := #[.int, .int, .boolean]
  resolved := Array.replicate 1029 none
  statics := none }

def pool11 : Array CpInfo := pool [(9, u "<init>"), (6, .class_ 18), (1, u "java/lang/Object"), (0, u "()V"), (1, .class_ 23), (1, u "jdk/internal/util/ArraysSupport"), (0, u "LOG2_ARRAY_LONG_INDEX_SCALE"), (0, u "I"), (2, u "U"), (0, u "Ljdk/internal/misc/Unsafe;"), (8, u "BIG_ENDIAN"), (0, u "Z"), (8, u "LOG2_BYTE_BIT_SIZE"), (4, u "LOG2_ARRAY_INT_INDEX_SCALE"), (54, u "JLA"), (0, u "Ljdk/internal/access/JavaLangAccess;"), (11, u "LOG2_ARRAY_BOOLEAN_INDEX_SCALE"), (9, u "LOG2_ARRAY_BYTE_INDEX_SCALE"), (5, u "LOG2_ARRAY_CHAR_INDEX_SCALE"), (5, u "LOG2_ARRAY_SHORT_INDEX_SCALE"), (5, u "mismatch"), (12, u "LOG2_ARRAY_FLOAT_INDEX_SCALE"), (24, u "LOG2_ARRAY_DOUBLE_INDEX_SCALE"), (89, u "T_BOOLEAN"), (2, u "T_CHAR"), (1, u "T_FLOAT"), (1, u "T_DOUBLE"), (1, u "T_BYTE"), (1, u "T_SHORT"), (1, u "T_INT"), (1, u "T_LONG"), (1, u "SOFT_MAX_ARRAY_LENGTH"), (42, u "([BI[BII)I")] 40

def k11m0 : Method := { name := "<init>", desc := "()V", sig := { parameters := [], returnType := none }, accessFlags := 2, code := none }
def k11c1 : Code := { maxStack := 8, maxLocals := 8, code := jdk_48_method_14_code, exceptionTable := #[], attributes := #[] }
def k11m1 : Method := { name := "mismatch", desc := "([BI[BII)I", sig := { parameters := [(.array .byte), .int, (.array .byte), .int, .int], returnType := some .int }, accessFlags := 9, code := some k11c1 }
/-- jdk/internal/util/ArraysSupport -/
def k11 : Class := { plain "jdk/internal/util/ArraysSupport" (some 0) with
  accessFlags := 33
  interfaces := #[]
  cf := some (fileOf pool11 21 #[] #[{ accessFlags := 2, nameIndex := 9, descriptorIndex := 19, attributes := #[] }, { accessFlags := 9, nameIndex := 149, descriptorIndex := 337, attributes := #[] }] 33 16 #[] #[{ accessFlags := 24, nameIndex := 28, descriptorIndex := 29, attributes := #[] }, { accessFlags := 26, nameIndex := 38, descriptorIndex := 39, attributes := #[] }, { accessFlags := 25, nameIndex := 121, descriptorIndex := 25, attributes := #[] }, { accessFlags := 25, nameIndex := 131, descriptorIndex := 25, attributes := #[] }, { accessFlags := 25, nameIndex := 137, descriptorIndex := 25, attributes := #[] }, { accessFlags := 25, nameIndex := 143, descriptorIndex := 25, attributes := #[] }, { accessFlags := 25, nameIndex := 53, descriptorIndex := 25, attributes := #[] }, { accessFlags := 25, nameIndex := 24, descriptorIndex := 25, attributes := #[] }, { accessFlags := 25, nameIndex := 162, descriptorIndex := 25, attributes := #[] }, { accessFlags := 25, nameIndex := 187, descriptorIndex := 25, attributes := #[] }, { accessFlags := 26, nameIndex := 48, descriptorIndex := 25, attributes := #[] }, { accessFlags := 25, nameIndex := 277, descriptorIndex := 25, attributes := #[] }, { accessFlags := 25, nameIndex := 280, descriptorIndex := 25, attributes := #[] }, { accessFlags := 25, nameIndex := 282, descriptorIndex := 25, attributes := #[] }, { accessFlags := 25, nameIndex := 284, descriptorIndex := 25, attributes := #[] }, { accessFlags := 25, nameIndex := 286, descriptorIndex := 25, attributes := #[] }, { accessFlags := 25, nameIndex := 288, descriptorIndex := 25, attributes := #[] }, { accessFlags := 25, nameIndex := 290, descriptorIndex := 25, attributes := #[] }, { accessFlags := 25, nameIndex := 292, descriptorIndex := 25, attributes := #[] }, { accessFlags := 26, nameIndex := 108, descriptorIndex := 109, attributes := #[] }, { accessFlags := 25, nameIndex := 294, descriptorIndex := 25, attributes := #[] }])
  fields := #[{ name := "U", type := (.object "jdk/internal/misc/Unsafe"), accessFlags := 24, slot := 0, constantValue := 0 }, { name := "BIG_ENDIAN", type := .boolean, accessFlags := 26, slot := 1, constantValue := 0 }, { name := "LOG2_ARRAY_BOOLEAN_INDEX_SCALE", type := .int, accessFlags := 25, slot := 2, constantValue := 0 }, { name := "LOG2_ARRAY_BYTE_INDEX_SCALE", type := .int, accessFlags := 25, slot := 3, constantValue := 0 }, { name := "LOG2_ARRAY_CHAR_INDEX_SCALE", type := .int, accessFlags := 25, slot := 4, constantValue := 0 }, { name := "LOG2_ARRAY_SHORT_INDEX_SCALE", type := .int, accessFlags := 25, slot := 5, constantValue := 0 }, { name := "LOG2_ARRAY_INT_INDEX_SCALE", type := .int, accessFlags := 25, slot := 6, constantValue := 0 }, { name := "LOG2_ARRAY_LONG_INDEX_SCALE", type := .int, accessFlags := 25, slot := 7, constantValue := 0 }, { name := "LOG2_ARRAY_FLOAT_INDEX_SCALE", type := .int, accessFlags := 25, slot := 8, constantValue := 0 }, { name := "LOG2_ARRAY_DOUBLE_INDEX_SCALE", type := .int, accessFlags := 25, slot := 9, constantValue := 0 }, { name := "LOG2_BYTE_BIT_SIZE", type := .int, accessFlags := 26, slot := 10, constantValue := 0 }, { name := "T_BOOLEAN", type := .int, accessFlags := 25, slot := 11, constantValue := 0 }, { name := "T_CHAR", type := .int, accessFlags := 25, slot := 12, constantValue := 0 }, { name := "T_FLOAT", type := .int, accessFlags := 25, slot := 13, constantValue := 0 }, { name := "T_DOUBLE", type := .int, accessFlags := 25, slot := 14, constantValue := 0 }, { name := "T_BYTE", type := .int, accessFlags := 25, slot := 15, constantValue := 0 }, { name := "T_SHORT", type := .int, accessFlags := 25, slot := 16, constantValue := 0 }, { name := "T_INT", type := .int, accessFlags := 25, slot := 17, constantValue := 0 }, { name := "T_LONG", type := .int, accessFlags := 25, slot := 18, constantValue := 0 }, { name := "JLA", type := (.object "jdk/internal/access/JavaLangAccess"), accessFlags := 26, slot := 19, constantValue := 0 }, { name := "SOFT_MAX_ARRAY_LENGTH", type := .int, accessFlags := 25, slot := 20, constantValue := 0 }]
  methods := #[k11m0, k11m1]
  instanceTypes := #[]
  staticTypes := #[(.object "jdk/internal/misc/Unsafe"), .boolean, .int, .int, .int, .int, .int, .int, .int, .int, .int, .int, .int, .int, .int, .int, .int, .int, .int, (.object "jdk/internal/access/JavaLangAccess"), .int]
  resolved := Array.replicate 378 none
  statics := none }

def pool12 : Array CpInfo := pool [(1, u "java/lang/Cloneable"), (0, .class_ 1), (0, u "java/lang/Object"), (0, .class_ 3)] 3

/-- java/lang/Cloneable -/
def k12 : Class := { plain "java/lang/Cloneable" (some 0) with
  accessFlags := 1537
  interfaces := #[]
  cf := some (fileOf pool12 2 #[] #[] 1537 4 #[] #[])
  fields := #[]
  methods := #[]
  instanceTypes := #[]
  staticTypes := #[]
  resolved := Array.replicate 8 none
  statics := none }

/-- the primitive byte -/
def k13 : Class := { plain "byte" none with kind := .primitive 'B', accessFlags := 0x411 }
/-- [B -/
def k14 : Class := { plain "[B" (some 0) with kind := .array 13 .byte, interfaces := #[12, 4], accessFlags := 1041 }

/-- the primitive int -/
def k15 : Class := { plain "int" none with kind := .primitive 'I', accessFlags := 0x411 }
/-- [I -/
def k16 : Class := { plain "[I" (some 0) with kind := .array 15 .int, interfaces := #[12, 4], accessFlags := 1041 }

/-- [Lcom/example/bad_status/badstatus/model/JsonReader$Token; -/
def k17 : Class := { plain "[Lcom/example/bad_status/badstatus/model/JsonReader$Token;" (some 0) with kind := .array 6 (.object "com/example/bad_status/badstatus/model/JsonReader$Token"), interfaces := #[12, 4], accessFlags := 1041 }

def heap : Heap := #[{ cls := 6, slots := #[.ref 2, .ref 3, .null, .ref 4, .ref 5, .null, .null, .null], vm := .statics 6 },
  { cls := 7, slots := #[.int 0, .ref 6, .null, .null, .null, .null, .int 0, .int 0, .long 0, .long 0, .long 0], vm := .statics 7 },
  { cls := 6, slots := #[.null, .int 0, .int 0], vm := .none },
  { cls := 6, slots := #[.null, .int 1, .int 0], vm := .none },
  { cls := 6, slots := #[.null, .int 3, .int 0], vm := .none },
  { cls := 6, slots := #[.null, .int 4, .int 0], vm := .none },
  { cls := 14, slots := #[.int 116, .int 114, .int 117, .int 101], vm := .none }]
def classes : Array Class := #[k0, k1, k2, k3, k4, k5, k6, k7, k8, k9, k10, k11, k12, k13, k14, k15, k16, k17]
def interned : List (Array UInt16 × Addr) := []
def slotsUsed : Nat := 35
def theMethod : MethodId := ⟨1, 1⟩
def args0 : Array Value := #[.int 1, .int 2, .int 3]
def aboutOver (below : List Frame) : State where
  vm := { classes := classes, interned := interned.toArray }
  heap := heap
  slotsUsed := slotsUsed
  threads := #[{ frames := .invoking theMethod args0 :: below }]
def below0 : List Frame := [.native { method := ⟨0, 0⟩, args := #[] }]
def about1 : State := aboutOver below0
def p0 : Program := .bare "" "" ""
def e0 : Env := launch0.env 0 0 0
theorem w_frames : about1.frames = Frame.invoking theMethod args0 :: below0 := rfl
set_option maxRecDepth 65536 in
theorem w_args : argsFit about1.vm theMethod args0 = true := by decide +kernel
set_option maxRecDepth 65536 in
theorem w_heap : heapFits about1 = true := by decide +kernel
set_option maxRecDepth 65536 in
theorem w_runnable : about1.curStatus? = some .runnable := by decide +kernel
set_option maxRecDepth 65536 in
theorem w_alone : about1.alone = true := by decide +kernel
set_option maxRecDepth 65536 in
theorem w_named : about1.methodNamed? x = some theMethod := by decide +kernel
set_option maxRecDepth 65536 in
theorem w_hears : about1.hears theMethod below0 = true := by decide +kernel
set_option maxRecDepth 65536 in
theorem w_ripe : about1.ripe theMethod args0 below0 = true := by decide +kernel
theorem w_running : about1.status = .running := rfl
set_option maxRecDepth 65536 in
theorem w_room : about1.hasRoom e0.platform room_1 = true :=
  launch0.hasRoom_least _ room_1 (by decide +kernel) (by decide +kernel) (by decide +kernel) (by decide +kernel) (by decide +kernel) (by decide +kernel)
theorem allAtoms_all (ts : List Jvm.Cond) (a : Array Jvm.Value) (st : Jvm.State) : (allAtoms ts).before a st = ts.all (fun c => c.before a st) := by
  induction ts with
  | nil => rfl
  | cons c t ih =>
    show (Jvm.Cond.and c (allAtoms t)).before a st = _
    rw [Jvm.Cond.before_and, ih, List.all_cons]
def words1 : List Jvm.Cond := Jvm.Cond.code x code maxLocals ret :: tables_1
/-- a 'code' word, met by the world's own term for the bytes: nothing is compared byte by byte -/
theorem code_word {y : MethodName} {bytes : ByteArray} {mx : Nat} {rt : Option FieldType} {a : Array Value} {s : State} {m : MethodId} {meth : Method} {c : Code} (h1 : s.methodNamed? y = some m) (h2 : s.vm.method? m = some meth) (h3 : meth.code = some c) (h4 : c.code = bytes)
    (h5 : (c.maxLocals == mx && c.exceptionTable.isEmpty && decide (c.maxStack ≤ mostOperands) && decide (meth.sig.returnType = rt) && !meth.locks && decide (parseMethodDescriptor y.desc = some meth.sig)) = true) : (Jvm.Cond.code y bytes mx rt).before a s = true := by
  simp only [Bool.and_eq_true, beq_iff_eq, Bool.not_eq_true', decide_eq_true_eq] at h5
  obtain ⟨⟨⟨⟨⟨g1, g2⟩, g3⟩, g4⟩, g5⟩, g6⟩ := h5
  simp [Cond.before, Cond.holds, Cond.value, h1, h2, h3, h4, g1, g2, g3, g4, g5, g6]
def isCode : Jvm.Cond → Bool
  | .code _ _ _ _ => true
  | _ => false
theorem all_split {L : List Jvm.Cond} {P : Jvm.Cond → Bool} (h1 : L.all (fun c => isCode c || P c) = true) (h2 : ∀ c ∈ L.filter isCode, P c = true) : L.all P = true := by
  refine List.all_eq_true.mpr fun c hc => ?_
  have h := List.all_eq_true.mp h1 c hc
  rcases Bool.eq_false_or_eq_true (isCode c) with hi | hi
  · exact h2 c (List.mem_filter.mpr ⟨hc, hi⟩)
  · simpa [hi] using h
set_option maxRecDepth 65536 in
theorem w_c0 : (Jvm.Cond.code x code maxLocals ret).before args0 about1 = true := code_word (m := ⟨1, 1⟩) (meth := k1m1) (c := k1c1) (by decide +kernel) rfl rfl rfl (by decide +kernel)
set_option maxRecDepth 65536 in
theorem w_c1 : (Jvm.Cond.code ({ cls := "com/example/bad_status/badstatus/model/JsonReader", name := "<init>", desc := "([BII)V" } : Jvm.MethodName) prog_11_method_1_code (4 : Nat) (Option.none : Option Jvm.ClassFile.FieldType)).before args0 about1 = true := code_word (m := ⟨7, 0⟩) (meth := k7m0) (c := k7c0) (by decide +kernel) rfl rfl rfl (by decide +kernel)
set_option maxRecDepth 65536 in
theorem w_c2 : (Jvm.Cond.code ({ cls := "java/lang/Object", name := "<init>", desc := "()V" } : Jvm.MethodName) object_method_1_code (1 : Nat) (Option.none : Option Jvm.ClassFile.FieldType)).before args0 about1 = true := code_word (m := ⟨0, 0⟩) (meth := k0m0) (c := k0c0) (by decide +kernel) rfl rfl rfl (by decide +kernel)
set_option maxRecDepth 65536 in
theorem w_c3 : (Jvm.Cond.code ({ cls := "com/example/bad_status/badstatus/model/JsonReader", name := "next", desc := "()Lcom/example/bad_status/badstatus/model/JsonReader$Token;" } : Jvm.MethodName) prog_11_method_2_code (3 : Nat) (Option.some (Jvm.ClassFile.FieldType.object "com/example/bad_status/badstatus/model/JsonReader$Token"))).before args0 about1 = true := code_word (m := ⟨7, 1⟩) (meth := k7m1) (c := k7c1) (by decide +kernel) rfl rfl rfl (by decide +kernel)
set_option maxRecDepth 65536 in
theorem w_c4 : (Jvm.Cond.code ({ cls := "com/example/bad_status/badstatus/model/JsonReader", name := "skipWhitespace", desc := "()I" } : Jvm.MethodName) prog_11_method_14_code (2 : Nat) (Option.some Jvm.ClassFile.FieldType.int)).before args0 about1 = true := code_word (m := ⟨7, 5⟩) (meth := k7m5) (c := k7c5) (by decide +kernel) rfl rfl rfl (by decide +kernel)
set_option maxRecDepth 65536 in
theorem w_c5 : (Jvm.Cond.code ({ cls := "com/example/bad_status/badstatus/model/JsonReader", name := "isWhitespace", desc := "(B)Z" } : Jvm.MethodName) prog_11_method_15_code (1 : Nat) (Option.some Jvm.ClassFile.FieldType.boolean)).before args0 about1 = true := code_word (m := ⟨7, 6⟩) (meth := k7m6) (c := k7c6) (by decide +kernel) rfl rfl rfl (by decide +kernel)
set_option maxRecDepth 65536 in
theorem w_c6 : (Jvm.Cond.code ({ cls := "com/example/bad_status/badstatus/model/JsonReader", name := "open", desc := "(Lcom/example/bad_status/badstatus/model/JsonReader$Token;)Lcom/example/bad_status/badstatus/model/JsonReader$Token;" } : Jvm.MethodName) prog_11_method_18_code (2 : Nat) (Option.some (Jvm.ClassFile.FieldType.object "com/example/bad_status/badstatus/model/JsonReader$Token"))).before args0 about1 = true := code_word (m := ⟨7, 8⟩) (meth := k7m8) (c := k7c8) (by decide +kernel) rfl rfl rfl (by decide +kernel)
set_option maxRecDepth 65536 in
theorem w_c7 : (Jvm.Cond.code ({ cls := "com/example/bad_status/badstatus/model/JsonReader", name := "nextElement", desc := "()Lcom/example/bad_status/badstatus/model/JsonReader$Token;" } : Jvm.MethodName) prog_11_method_4_code (3 : Nat) (Option.some (Jvm.ClassFile.FieldType.object "com/example/bad_status/badstatus/model/JsonReader$Token"))).before args0 about1 = true := code_word (m := ⟨7, 2⟩) (meth := k7m2) (c := k7c2) (by decide +kernel) rfl rfl rfl (by decide +kernel)
set_option maxRecDepth 65536 in
theorem w_c8 : (Jvm.Cond.code ({ cls := "com/example/bad_status/badstatus/model/JsonReader", name := "isDigit", desc := "(I)Z" } : Jvm.MethodName) prog_11_method_28_code (1 : Nat) (Option.some Jvm.ClassFile.FieldType.boolean)).before args0 about1 = true := code_word (m := ⟨7, 11⟩) (meth := k7m11) (c := k7c11) (by decide +kernel) rfl rfl rfl (by decide +kernel)
set_option maxRecDepth 65536 in
theorem w_c9 : (Jvm.Cond.code ({ cls := "com/example/bad_status/badstatus/model/JsonReader", name := "readNumber", desc := "()V" } : Jvm.MethodName) prog_11_method_26_code (5 : Nat) (Option.none : Option Jvm.ClassFile.FieldType)).before args0 about1 = true := code_word (m := ⟨7, 9⟩) (meth := k7m9) (c := k7c9) (by decide +kernel) rfl rfl rfl (by decide +kernel)
set_option maxRecDepth 65536 in
theorem w_c10 : (Jvm.Cond.code ({ cls := "com/example/bad_status/badstatus/model/JsonReader", name := "digitsEnd", desc := "(I)I" } : Jvm.MethodName) prog_11_method_27_code (3 : Nat) (Option.some Jvm.ClassFile.FieldType.int)).before args0 about1 = true := code_word (m := ⟨7, 10⟩) (meth := k7m10) (c := k7c10) (by decide +kernel) rfl rfl rfl (by decide +kernel)
set_option maxRecDepth 65536 in
theorem w_c11 : (Jvm.Cond.code ({ cls := "com/example/bad_status/badstatus/model/JsonReader$Mark", name := "<init>", desc := "(II)V" } : Jvm.MethodName) prog_12_method_1_code (3 : Nat) (Option.none : Option Jvm.ClassFile.FieldType)).before args0 about1 = true := code_word (m := ⟨9, 0⟩) (meth := k9m0) (c := k9c0) (by decide +kernel) rfl rfl rfl (by decide +kernel)
set_option maxRecDepth 65536 in
theorem w_c12 : (Jvm.Cond.code ({ cls := "java/lang/Record", name := "<init>", desc := "()V" } : Jvm.MethodName) jdk_30_method_1_code (1 : Nat) (Option.none : Option Jvm.ClassFile.FieldType)).before args0 about1 = true := code_word (m := ⟨8, 0⟩) (meth := k8m0) (c := k8c0) (by decide +kernel) rfl rfl rfl (by decide +kernel)
set_option maxRecDepth 65536 in
theorem w_c13 : (Jvm.Cond.code ({ cls := "com/example/bad_status/badstatus/model/JsonReader", name := "reset", desc := "(Lcom/example/bad_status/badstatus/model/JsonReader$Mark;)V" } : Jvm.MethodName) prog_11_method_8_code (2 : Nat) (Option.none : Option Jvm.ClassFile.FieldType)).before args0 about1 = true := code_word (m := ⟨7, 4⟩) (meth := k7m4) (c := k7c4) (by decide +kernel) rfl rfl rfl (by decide +kernel)
set_option maxRecDepth 65536 in
theorem w_c14 : (Jvm.Cond.code ({ cls := "com/example/bad_status/badstatus/model/JsonReader$Mark", name := "position", desc := "()I" } : Jvm.MethodName) prog_12_method_5_code (1 : Nat) (Option.some Jvm.ClassFile.FieldType.int)).before args0 about1 = true := code_word (m := ⟨9, 1⟩) (meth := k9m1) (c := k9c1) (by decide +kernel) rfl rfl rfl (by decide +kernel)
set_option maxRecDepth 65536 in
theorem w_c15 : (Jvm.Cond.code ({ cls := "com/example/bad_status/badstatus/model/JsonReader$Mark", name := "depth", desc := "()I" } : Jvm.MethodName) prog_12_method_6_code (1 : Nat) (Option.some Jvm.ClassFile.FieldType.int)).before args0 about1 = true := code_word (m := ⟨9, 2⟩) (meth := k9m2) (c := k9c2) (by decide +kernel) rfl rfl rfl (by decide +kernel)
set_option maxRecDepth 65536 in
theorem w_c16 : (Jvm.Cond.code ({ cls := "com/example/bad_status/badstatus/model/JsonReader", name := "mark", desc := "()Lcom/example/bad_status/badstatus/model/JsonReader$Mark;" } : Jvm.MethodName) prog_11_method_7_code (2 : Nat) (Option.some (Jvm.ClassFile.FieldType.object "com/example/bad_status/badstatus/model/JsonReader$Mark"))).before args0 about1 = true := code_word (m := ⟨7, 3⟩) (meth := k7m3) (c := k7c3) (by decide +kernel) rfl rfl rfl (by decide +kernel)
set_option maxRecDepth 65536 in
theorem w_c17 : (Jvm.Cond.code ({ cls := "com/example/bad_status/badstatus/model/JsonReader", name := "pastComma", desc := "(I)I" } : Jvm.MethodName) prog_11_method_16_code (2 : Nat) (Option.some Jvm.ClassFile.FieldType.int)).before args0 about1 = true := code_word (m := ⟨7, 7⟩) (meth := k7m7) (c := k7c7) (by decide +kernel) rfl rfl rfl (by decide +kernel)
set_option maxRecDepth 65536 in
theorem w_c18 : (Jvm.Cond.code ({ cls := "com/example/bad_status/badstatus/model/JsonReader", name := "readLiteral", desc := "([BLcom/example/bad_status/badstatus/model/JsonReader$Token;)Lcom/example/bad_status/badstatus/model/JsonReader$Token;" } : Jvm.MethodName) prog_11_method_29_code (4 : Nat) (Option.some (Jvm.ClassFile.FieldType.object "com/example/bad_status/badstatus/model/JsonReader$Token"))).before args0 about1 = true := code_word (m := ⟨7, 12⟩) (meth := k7m12) (c := k7c12) (by decide +kernel) rfl rfl rfl (by decide +kernel)
set_option maxRecDepth 65536 in
theorem w_c19 : (Jvm.Cond.code ({ cls := "java/util/Arrays", name := "equals", desc := "([BII[BII)Z" } : Jvm.MethodName) jdk_65_method_90_code (8 : Nat) (Option.some Jvm.ClassFile.FieldType.boolean)).before args0 about1 = true := code_word (m := ⟨10, 2⟩) (meth := k10m2) (c := k10c2) (by decide +kernel) rfl rfl rfl (by decide +kernel)
set_option maxRecDepth 65536 in
theorem w_c20 : (Jvm.Cond.code ({ cls := "java/util/Arrays", name := "rangeCheck", desc := "(III)V" } : Jvm.MethodName) jdk_65_method_30_code (3 : Nat) (Option.none : Option Jvm.ClassFile.FieldType)).before args0 about1 = true := code_word (m := ⟨10, 1⟩) (meth := k10m1) (c := k10c1) (by decide +kernel) rfl rfl rfl (by decide +kernel)
set_option maxRecDepth 65536 in
theorem w_c21 : (Jvm.Cond.code ({ cls := "jdk/internal/util/ArraysSupport", name := "mismatch", desc := "([BI[BII)I" } : Jvm.MethodName) jdk_48_method_14_code (8 : Nat) (Option.some Jvm.ClassFile.FieldType.int)).before args0 about1 = true := code_word (m := ⟨11, 1⟩) (meth := k11m1) (c := k11c1) (by decide +kernel) rfl rfl rfl (by decide +kernel)
def codes1 : List Jvm.Cond := [Jvm.Cond.code x code maxLocals ret, Jvm.Cond.code ({ cls := "com/example/bad_status/badstatus/model/JsonReader", name := "<init>", desc := "([BII)V" } : Jvm.MethodName) prog_11_method_1_code (4 : Nat) (Option.none : Option Jvm.ClassFile.FieldType), Jvm.Cond.code ({ cls := "java/lang/Object", name := "<init>", desc := "()V" } : Jvm.MethodName) object_method_1_code (1 : Nat) (Option.none : Option Jvm.ClassFile.FieldType), Jvm.Cond.code ({ cls := "com/example/bad_status/badstatus/model/JsonReader", name := "next", desc := "()Lcom/example/bad_status/badstatus/model/JsonReader$Token;" } : Jvm.MethodName) prog_11_method_2_code (3 : Nat) (Option.some (Jvm.ClassFile.FieldType.object "com/example/bad_status/badstatus/model/JsonReader$Token")), Jvm.Cond.code ({ cls := "com/example/bad_status/badstatus/model/JsonReader", name := "skipWhitespace", desc := "()I" } : Jvm.MethodName) prog_11_method_14_code (2 : Nat) (Option.some Jvm.ClassFile.FieldType.int), Jvm.Cond.code ({ cls := "com/example/bad_status/badstatus/model/JsonReader", name := "isWhitespace", desc := "(B)Z" } : Jvm.MethodName) prog_11_method_15_code (1 : Nat) (Option.some Jvm.ClassFile.FieldType.boolean), Jvm.Cond.code ({ cls := "com/example/bad_status/badstatus/model/JsonReader", name := "open", desc := "(Lcom/example/bad_status/badstatus/model/JsonReader$Token;)Lcom/example/bad_status/badstatus/model/JsonReader$Token;" } : Jvm.MethodName) prog_11_method_18_code (2 : Nat) (Option.some (Jvm.ClassFile.FieldType.object "com/example/bad_status/badstatus/model/JsonReader$Token")), Jvm.Cond.code ({ cls := "com/example/bad_status/badstatus/model/JsonReader", name := "nextElement", desc := "()Lcom/example/bad_status/badstatus/model/JsonReader$Token;" } : Jvm.MethodName) prog_11_method_4_code (3 : Nat) (Option.some (Jvm.ClassFile.FieldType.object "com/example/bad_status/badstatus/model/JsonReader$Token")), Jvm.Cond.code ({ cls := "com/example/bad_status/badstatus/model/JsonReader", name := "isDigit", desc := "(I)Z" } : Jvm.MethodName) prog_11_method_28_code (1 : Nat) (Option.some Jvm.ClassFile.FieldType.boolean), Jvm.Cond.code ({ cls := "com/example/bad_status/badstatus/model/JsonReader", name := "readNumber", desc := "()V" } : Jvm.MethodName) prog_11_method_26_code (5 : Nat) (Option.none : Option Jvm.ClassFile.FieldType), Jvm.Cond.code ({ cls := "com/example/bad_status/badstatus/model/JsonReader", name := "digitsEnd", desc := "(I)I" } : Jvm.MethodName) prog_11_method_27_code (3 : Nat) (Option.some Jvm.ClassFile.FieldType.int), Jvm.Cond.code ({ cls := "com/example/bad_status/badstatus/model/JsonReader$Mark", name := "<init>", desc := "(II)V" } : Jvm.MethodName) prog_12_method_1_code (3 : Nat) (Option.none : Option Jvm.ClassFile.FieldType), Jvm.Cond.code ({ cls := "java/lang/Record", name := "<init>", desc := "()V" } : Jvm.MethodName) jdk_30_method_1_code (1 : Nat) (Option.none : Option Jvm.ClassFile.FieldType), Jvm.Cond.code ({ cls := "com/example/bad_status/badstatus/model/JsonReader", name := "reset", desc := "(Lcom/example/bad_status/badstatus/model/JsonReader$Mark;)V" } : Jvm.MethodName) prog_11_method_8_code (2 : Nat) (Option.none : Option Jvm.ClassFile.FieldType), Jvm.Cond.code ({ cls := "com/example/bad_status/badstatus/model/JsonReader$Mark", name := "position", desc := "()I" } : Jvm.MethodName) prog_12_method_5_code (1 : Nat) (Option.some Jvm.ClassFile.FieldType.int), Jvm.Cond.code ({ cls := "com/example/bad_status/badstatus/model/JsonReader$Mark", name := "depth", desc := "()I" } : Jvm.MethodName) prog_12_method_6_code (1 : Nat) (Option.some Jvm.ClassFile.FieldType.int), Jvm.Cond.code ({ cls := "com/example/bad_status/badstatus/model/JsonReader", name := "mark", desc := "()Lcom/example/bad_status/badstatus/model/JsonReader$Mark;" } : Jvm.MethodName) prog_11_method_7_code (2 : Nat) (Option.some (Jvm.ClassFile.FieldType.object "com/example/bad_status/badstatus/model/JsonReader$Mark")), Jvm.Cond.code ({ cls := "com/example/bad_status/badstatus/model/JsonReader", name := "pastComma", desc := "(I)I" } : Jvm.MethodName) prog_11_method_16_code (2 : Nat) (Option.some Jvm.ClassFile.FieldType.int), Jvm.Cond.code ({ cls := "com/example/bad_status/badstatus/model/JsonReader", name := "readLiteral", desc := "([BLcom/example/bad_status/badstatus/model/JsonReader$Token;)Lcom/example/bad_status/badstatus/model/JsonReader$Token;" } : Jvm.MethodName) prog_11_method_29_code (4 : Nat) (Option.some (Jvm.ClassFile.FieldType.object "com/example/bad_status/badstatus/model/JsonReader$Token")), Jvm.Cond.code ({ cls := "java/util/Arrays", name := "equals", desc := "([BII[BII)Z" } : Jvm.MethodName) jdk_65_method_90_code (8 : Nat) (Option.some Jvm.ClassFile.FieldType.boolean), Jvm.Cond.code ({ cls := "java/util/Arrays", name := "rangeCheck", desc := "(III)V" } : Jvm.MethodName) jdk_65_method_30_code (3 : Nat) (Option.none : Option Jvm.ClassFile.FieldType), Jvm.Cond.code ({ cls := "jdk/internal/util/ArraysSupport", name := "mismatch", desc := "([BI[BII)I" } : Jvm.MethodName) jdk_48_method_14_code (8 : Nat) (Option.some Jvm.ClassFile.FieldType.int)]
set_option maxRecDepth 65536 in
theorem codes_eq : words1.filter isCode = codes1 := rfl
theorem w_codes : ∀ c ∈ words1.filter isCode, c.before args0 about1 = true := by
  rw [codes_eq]
  intro c hc
  simp only [codes1, List.mem_cons, List.not_mem_nil, or_false] at hc
  rcases hc with rfl | rfl | rfl | rfl | rfl | rfl | rfl | rfl | rfl | rfl | rfl | rfl | rfl | rfl | rfl | rfl | rfl | rfl | rfl | rfl | rfl | rfl
  · exact w_c0
  · exact w_c1
  · exact w_c2
  · exact w_c3
  · exact w_c4
  · exact w_c5
  · exact w_c6
  · exact w_c7
  · exact w_c8
  · exact w_c9
  · exact w_c10
  · exact w_c11
  · exact w_c12
  · exact w_c13
  · exact w_c14
  · exact w_c15
  · exact w_c16
  · exact w_c17
  · exact w_c18
  · exact w_c19
  · exact w_c20
  · exact w_c21
set_option maxRecDepth 65536 in
theorem w_t1 : (words1.take 24).all (fun c => isCode c || c.before args0 about1) = true := by decide +kernel
set_option maxRecDepth 65536 in
theorem w_t2 : ((words1.drop 24).take 24).all (fun c => isCode c || c.before args0 about1) = true := by decide +kernel
set_option maxRecDepth 65536 in
theorem w_t3 : (((words1.drop 24).drop 24).take 24).all (fun c => isCode c || c.before args0 about1) = true := by decide +kernel
set_option maxRecDepth 65536 in
theorem w_t4 : ((((words1.drop 24).drop 24).drop 24).take 24).all (fun c => isCode c || c.before args0 about1) = true := by decide +kernel
set_option maxRecDepth 65536 in
theorem w_t5 : (((((words1.drop 24).drop 24).drop 24).drop 24).take 24).all (fun c => isCode c || c.before args0 about1) = true := by decide +kernel
set_option maxRecDepth 65536 in
theorem w_t6 : ((((((words1.drop 24).drop 24).drop 24).drop 24).drop 24).take 24).all (fun c => isCode c || c.before args0 about1) = true := by decide +kernel
set_option maxRecDepth 65536 in
theorem w_t7 : ((((((words1.drop 24).drop 24).drop 24).drop 24).drop 24).drop 24).all (fun c => isCode c || c.before args0 about1) = true := by decide +kernel
theorem w_tables : (allAtoms (Jvm.Cond.code x code maxLocals ret :: tables_1)).before args0 about1 = true := by
  rw [allAtoms_all]
  show words1.all (fun c => c.before args0 about1) = true
  refine all_split ?_ w_codes
  rw [← List.take_append_drop 24 words1, List.all_append, w_t1, ← List.take_append_drop 24 (words1.drop 24), List.all_append, w_t2, ← List.take_append_drop 24 ((words1.drop 24).drop 24), List.all_append, w_t3, ← List.take_append_drop 24 (((words1.drop 24).drop 24).drop 24), List.all_append, w_t4, ← List.take_append_drop 24 ((((words1.drop 24).drop 24).drop 24).drop 24), List.all_append, w_t5, ← List.take_append_drop 24 (((((words1.drop 24).drop 24).drop 24).drop 24).drop 24), List.all_append, w_t6, w_t7]
  rfl
set_option maxRecDepth 65536 in
theorem w_case : (Jvm.Cond.and given_1 narrow_1).before args0 about1 = true := by decide +kernel
theorem w_applies : (headSpec (Jvm.Cond.code x code maxLocals ret :: tables_1) room_1).applies x e0.platform about1 = true :=
  (Spec.applies_iff w_frames).mpr ⟨w_running, w_runnable, w_alone, w_named, w_hears, w_ripe, w_room, w_tables⟩
theorem atStart : AtStart classFile x code maxLocals ret World_1 tables_1 room_1 Calls_1 rest_1 Pre_1 launch0 p0 e0 about1 theMethod args0 below0 :=
  ⟨lists_1, trivial, launch0.admits_env _ _ _, launch0.least_env, fairChoices_fair.cas, fairChoices_fair.clock, w_frames, w_args, w_heap, w_applies, trivial, trivial, w_case⟩
end start1
theorem witness_1 : WitnessClaimed_1 := ⟨start1.p0, start1.e0, start1.about1, start1.theMethod, start1.args0, start1.below0, start1.atStart⟩
end Jvm.Pilot.@@N@@
