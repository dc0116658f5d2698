import JvmDerived
import JvmDerived.Pilot.@@N@@Statement
import JvmDerived.Pilot.@@N@@Code
set_option linter.unusedVariables false
set_option linter.unusedSimpArgs false
namespace Jvm.RoadKit
open Sem ClassFile Op Lib Jvm.Stand Jvm.Free Jvm.LawKit
section New
variable {p : Program} {l : Launch} {e : Env} {R : Room} {s : State} {m : MethodId} {args : Array Value} {below : List Frame} {meth : Method} {c : Code} {T : State} {locs : List Loc} {cells slots : Nat}
theorem retI (X : Stand p l e R s m args below meth c T locs cells slots) (hx : p.tables.exec = Jvm.exec) {pc : Nat} {Ls : Array Slot} {z : Int32} {rest : List Value} (hret : meth.sig.returnType = some .int) (hd : decode c.code pc = .ok (.ireturn, 1)) {fs : List Frame}
    (hl : ∀ (f : JFrame) (acts : List Action), f.method = m → f.locked = none → f.entered = [] → (doReturn e (T.setTop f) acts (some (.int z))).1 = T.setFrames fs) : Steps p.tables e below (T.setTop (mkF m pc Ls (.int z :: rest))) (T.setFrames fs) :=
  retOut X hx hret rfl (Or.inl ⟨rfl, Or.inl rfl, z, rfl⟩) hd hl
theorem retJ (X : Stand p l e R s m args below meth c T locs cells slots) (hx : p.tables.exec = Jvm.exec) {pc : Nat} {Ls : Array Slot} {z : Int64} {rest : List Value} (hret : meth.sig.returnType = some .long) (hd : decode c.code pc = .ok (.lreturn, 1)) {fs : List Frame}
    (hl : ∀ (f : JFrame) (acts : List Action), f.method = m → f.locked = none → f.entered = [] → (doReturn e (T.setTop f) acts (some (.long z))).1 = T.setFrames fs) : Steps p.tables e below (T.setTop (mkF m pc Ls (.long z :: rest))) (T.setFrames fs) :=
  retOut X hx hret rfl (Or.inr (Or.inl ⟨rfl, rfl, z, rfl⟩)) hd hl
theorem retA (X : Stand p l e R s m args below meth c T locs cells slots) (hx : p.tables.exec = Jvm.exec) {pc : Nat} {Ls : Array Slot} {w : Value} {t : FieldType} {rest : List Value} (hret : meth.sig.returnType = some t) (hd : decode c.code pc = .ok (.areturn, 1)) {fs : List Frame}
    (hl : ∀ (f : JFrame) (acts : List Action), f.method = m → f.locked = none → f.entered = [] → (doReturn e (T.setTop f) acts (some w)).1 = T.setFrames fs) (ht : t.isReference = true) (hw : w.isRef = true) : Steps p.tables e below (T.setTop (mkF m pc Ls (w :: rest))) (T.setFrames fs) :=
  retOut X hx hret (by cases t <;> first | rfl | (cases ht; done)) (Or.inr (Or.inr (Or.inr (Or.inr ⟨rfl, ht, hw⟩)))) hd hl
/-- from the state S on, the body runs to its end and leaves what Q says -/
def Gz (p : Program) (e : Env) (below : List Frame) (s : State) (C N : Nat) (Q : Option Value → Heap → List Loc → Prop) (S : State) : Prop :=
  ∃ s₂ o, Steps p.tables e below S s₂ ∧ s₂.status = .running ∧ Ended s₂ below o ∧ ∃ v L, o = .returned v ∧ Q v s₂.heap L ∧ FrameEnd s o s₂ L C N
variable {C N : Nat} {Q : Option Value → Heap → List Loc → Prop} {S S' : State}
theorem Gz.st (k : ∀ t, Steps p.tables e below S' t → Steps p.tables e below S t) (h : Gz p e below s C N Q S') : Gz p e below s C N Q S := by
  obtain ⟨s₂, o, h1, h2⟩ := h
  exact ⟨s₂, o, k _ h1, h2⟩
theorem Gz.tr (k : Steps p.tables e below S S') (h : Gz p e below s C N Q S') : Gz p e below s C N Q S := by
  obtain ⟨s₂, o, h1, h2⟩ := h
  exact ⟨s₂, o, k.trans h1, h2⟩
variable {pc : Nat} {Ls : Array Slot} {st : List Value} {Z : State} {a0 : Array Value} {hh : Heap}
theorem Gz.iloadN (n : Nat) {k : Fin 4} {v : Int32} (X : Stand p l e R s m args below meth c T locs cells slots) (hx : p.tables.exec = Jvm.exec) (hd : decode c.code pc = .ok (.iload_n k, 1)) (hl : Ls[k.val]? = some (.val (.int v))) (q : pc + 1 = n) (h : Gz p e below s C N Q (T.setTop (mkF m n Ls (.int v :: st)))) : Gz p e below s C N Q (T.setTop (mkF m pc Ls st)) := by subst q; exact Gz.st (fun t k => XS.iloadN X.here hx rfl hd hl k) h
theorem Gz.iload (n : Nat) {k : Nat} {v : Int32} (X : Stand p l e R s m args below meth c T locs cells slots) (hx : p.tables.exec = Jvm.exec) (hd : decode c.code pc = .ok (.iload k, 2)) (hl : Ls[k]? = some (.val (.int v))) (q : pc + 2 = n) (h : Gz p e below s C N Q (T.setTop (mkF m n Ls (.int v :: st)))) : Gz p e below s C N Q (T.setTop (mkF m pc Ls st)) := by subst q; exact Gz.st (fun t k => XS.iload X.here hx rfl hd hl k) h
theorem Gz.istoreN (n : Nat) (l' : Array Slot) {k : Fin 4} {v : Int32} (X : Stand p l e R s m args below meth c T locs cells slots) (hx : p.tables.exec = Jvm.exec) (hd : decode c.code pc = .ok (.istore_n k, 1)) (hl : storeLocals Ls k.val (.int v) = some l') (q : pc + 1 = n) (h : Gz p e below s C N Q (T.setTop (mkF m n l' st))) : Gz p e below s C N Q (T.setTop (mkF m pc Ls (.int v :: st))) := by subst q; exact Gz.st (fun t k => XS.istoreN X.here hx rfl hd rfl hl k) h
theorem Gz.istore (n : Nat) (l' : Array Slot) {k : Nat} {v : Int32} (X : Stand p l e R s m args below meth c T locs cells slots) (hx : p.tables.exec = Jvm.exec) (hd : decode c.code pc = .ok (.istore k, 2)) (hl : storeLocals Ls k (.int v) = some l') (q : pc + 2 = n) (h : Gz p e below s C N Q (T.setTop (mkF m n l' st))) : Gz p e below s C N Q (T.setTop (mkF m pc Ls (.int v :: st))) := by subst q; exact Gz.st (fun t k => XS.istore X.here hx rfl hd rfl hl k) h
theorem Gz.aloadN (n : Nat) {k : Fin 4} {v : Value} (X : Stand p l e R s m args below meth c T locs cells slots) (hx : p.tables.exec = Jvm.exec) (hd : decode c.code pc = .ok (.aload_n k, 1)) (hl : Ls[k.val]? = some (.val v)) (hv : v.isRef = true) (q : pc + 1 = n) (h : Gz p e below s C N Q (T.setTop (mkF m n Ls (v :: st)))) : Gz p e below s C N Q (T.setTop (mkF m pc Ls st)) := by subst q; exact Gz.st (fun t k => XS.aloadN X.here hx rfl hd hl hv k) h
theorem Gz.aload (n : Nat) {k : Nat} {v : Value} (X : Stand p l e R s m args below meth c T locs cells slots) (hx : p.tables.exec = Jvm.exec) (hd : decode c.code pc = .ok (.aload k, 2)) (hl : Ls[k]? = some (.val v)) (hv : v.isRef = true) (q : pc + 2 = n) (h : Gz p e below s C N Q (T.setTop (mkF m n Ls (v :: st)))) : Gz p e below s C N Q (T.setTop (mkF m pc Ls st)) := by subst q; exact Gz.st (fun t k => XS.aload X.here hx rfl hd hl hv k) h
theorem Gz.astore (n : Nat) (l' : Array Slot) {k : Nat} {v : Value} (X : Stand p l e R s m args below meth c T locs cells slots) (hx : p.tables.exec = Jvm.exec) (hd : decode c.code pc = .ok (.astore k, 2)) (hl : storeLocals Ls k v = some l') (hv : v.isRef = true) (q : pc + 2 = n) (h : Gz p e below s C N Q (T.setTop (mkF m n l' st))) : Gz p e below s C N Q (T.setTop (mkF m pc Ls (v :: st))) := by subst q; exact Gz.st (fun t k => XS.astore X.here hx rfl hd rfl hv hl k) h
theorem Gz.iconst (n : Nat) (v : Int32) (X : Stand p l e R s m args below meth c T locs cells slots) (hx : p.tables.exec = Jvm.exec) {i : Int} (hd : decode c.code pc = .ok (.iconst i, 1)) (hv : Int32.ofInt i = v) (q : pc + 1 = n) (h : Gz p e below s C N Q (T.setTop (mkF m n Ls (.int v :: st)))) : Gz p e below s C N Q (T.setTop (mkF m pc Ls st)) := by subst q hv; exact Gz.st (fun t k => XS.iconst X.here hx rfl hd k) h
theorem Gz.bipush (n : Nat) (v : Int32) (X : Stand p l e R s m args below meth c T locs cells slots) (hx : p.tables.exec = Jvm.exec) {i : Int} (hd : decode c.code pc = .ok (.bipush i, 2)) (hv : (Int8.ofInt i).toInt32 = v) (q : pc + 2 = n) (h : Gz p e below s C N Q (T.setTop (mkF m n Ls (.int v :: st)))) : Gz p e below s C N Q (T.setTop (mkF m pc Ls st)) := by subst q hv; exact Gz.st (fun t k => XS.bipush X.here hx rfl hd k) h
theorem Gz.sipush (n : Nat) (v : Int32) (X : Stand p l e R s m args below meth c T locs cells slots) (hx : p.tables.exec = Jvm.exec) {i : Int} (hd : decode c.code pc = .ok (.sipush i, 3)) (hv : (Int16.ofInt i).toInt32 = v) (q : pc + 3 = n) (h : Gz p e below s C N Q (T.setTop (mkF m n Ls (.int v :: st)))) : Gz p e below s C N Q (T.setTop (mkF m pc Ls st)) := by subst q hv; exact Gz.st (fun t k => XS.sipush X.here hx rfl hd k) h
theorem Gz.iadd (n : Nat) {x y : Int32} (X : Stand p l e R s m args below meth c T locs cells slots) (hx : p.tables.exec = Jvm.exec) (hd : decode c.code pc = .ok (.iadd, 1))  (q : pc + 1 = n) (h : Gz p e below s C N Q (T.setTop (mkF m n Ls (.int (x + y) :: st)))) : Gz p e below s C N Q (T.setTop (mkF m pc Ls (.int y :: .int x :: st))) := by subst q; exact Gz.st (fun t k => XS.iadd X.here hx rfl hd rfl k) h
theorem Gz.isub (n : Nat) {x y : Int32} (X : Stand p l e R s m args below meth c T locs cells slots) (hx : p.tables.exec = Jvm.exec) (hd : decode c.code pc = .ok (.isub, 1))  (q : pc + 1 = n) (h : Gz p e below s C N Q (T.setTop (mkF m n Ls (.int (x - y) :: st)))) : Gz p e below s C N Q (T.setTop (mkF m pc Ls (.int y :: .int x :: st))) := by subst q; exact Gz.st (fun t k => XS.isub X.here hx rfl hd rfl k) h
theorem Gz.iand (n : Nat) {x y : Int32} (X : Stand p l e R s m args below meth c T locs cells slots) (hx : p.tables.exec = Jvm.exec) (hd : decode c.code pc = .ok (.iand, 1))  (q : pc + 1 = n) (h : Gz p e below s C N Q (T.setTop (mkF m n Ls (.int (x &&& y) :: st)))) : Gz p e below s C N Q (T.setTop (mkF m pc Ls (.int y :: .int x :: st))) := by subst q; exact Gz.st (fun t k => XS.iand X.here hx rfl hd rfl k) h
theorem Gz.ior (n : Nat) {x y : Int32} (X : Stand p l e R s m args below meth c T locs cells slots) (hx : p.tables.exec = Jvm.exec) (hd : decode c.code pc = .ok (.ior, 1))  (q : pc + 1 = n) (h : Gz p e below s C N Q (T.setTop (mkF m n Ls (.int (x ||| y) :: st)))) : Gz p e below s C N Q (T.setTop (mkF m pc Ls (.int y :: .int x :: st))) := by subst q; exact Gz.st (fun t k => XS.ior X.here hx rfl hd rfl k) h
theorem Gz.ishl (n : Nat) {x : Int32} {y : Int32} (X : Stand p l e R s m args below meth c T locs cells slots) (hx : p.tables.exec = Jvm.exec) (hd : decode c.code pc = .ok (.ishl, 1))  (q : pc + 1 = n) (h : Gz p e below s C N Q (T.setTop (mkF m n Ls (.int (x <<< (y &&& 31)) :: st)))) : Gz p e below s C N Q (T.setTop (mkF m pc Ls (.int y :: .int x :: st))) := by subst q; exact Gz.st (fun t k => XS.ishl X.here hx rfl hd rfl k) h
theorem Gz.dup (n : Nat) {x : Value} (X : Stand p l e R s m args below meth c T locs cells slots) (hx : p.tables.exec = Jvm.exec) (hd : decode c.code pc = .ok (.dup, 1)) (hc : x.category = 1) (q : pc + 1 = n) (h : Gz p e below s C N Q (T.setTop (mkF m n Ls (x :: x :: st)))) : Gz p e below s C N Q (T.setTop (mkF m pc Ls (x :: st))) := by subst q; exact Gz.st (fun t k => XS.dup X.here hx rfl hd rfl hc k) h
theorem Gz.goto (n : Nat) (X : Stand p l e R s m args below meth c T locs cells slots) (hx : p.tables.exec = Jvm.exec) {o : Int} (hd : decode c.code pc = .ok (.goto o, 3)) (ho : 0 ≤ (pc : Int) + o) (q : ((pc : Int) + o).toNat = n) (h : Gz p e below s C N Q (T.setTop (mkF m n Ls st))) : Gz p e below s C N Q (T.setTop (mkF m pc Ls st)) := Gz.st (fun t k => XS.goto X.here hx rfl (pc0 := pc) (pc' := n) rfl hd ho q k) h
theorem Gz.ifYes (n : Nat) (X : Stand p l e R s m args below meth c T locs cells slots) (hx : p.tables.exec = Jvm.exec) {cd : ClassFile.Cond} {x : Int32} {o : Int} (hd : decode c.code pc = .ok (.ifCond cd o, 3)) (hc : ifCond.holds cd x = true) (ho : 0 ≤ (pc : Int) + o) (q : ((pc : Int) + o).toNat = n) (h : Gz p e below s C N Q (T.setTop (mkF m n Ls st))) : Gz p e below s C N Q (T.setTop (mkF m pc Ls (.int x :: st))) := Gz.st (fun t k => XS.ifYes X.here hx rfl (pc0 := pc) (pc' := n) rfl hd rfl hc ho q k) h
theorem Gz.ifNo (n : Nat) (X : Stand p l e R s m args below meth c T locs cells slots) (hx : p.tables.exec = Jvm.exec) {cd : ClassFile.Cond} {x : Int32} {o : Int} (hd : decode c.code pc = .ok (.ifCond cd o, 3)) (hc : ifCond.holds cd x = false) (q : pc + 3 = n) (h : Gz p e below s C N Q (T.setTop (mkF m n Ls st))) : Gz p e below s C N Q (T.setTop (mkF m pc Ls (.int x :: st))) := by subst q; exact Gz.st (fun t k => XS.ifNo X.here hx rfl hd rfl hc k) h
theorem Gz.icmpYes (n : Nat) (X : Stand p l e R s m args below meth c T locs cells slots) (hx : p.tables.exec = Jvm.exec) {cd : ClassFile.Cond} {x y : Int32} {o : Int} (hd : decode c.code pc = .ok (.if_icmp cd o, 3)) (hc : if_icmp.holds cd x y = true) (ho : 0 ≤ (pc : Int) + o) (q : ((pc : Int) + o).toNat = n) (h : Gz p e below s C N Q (T.setTop (mkF m n Ls st))) : Gz p e below s C N Q (T.setTop (mkF m pc Ls (.int y :: .int x :: st))) := Gz.st (fun t k => XS.icmpYes X.here hx rfl (pc0 := pc) (pc' := n) rfl hd rfl hc ho q k) h
theorem Gz.icmpNo (n : Nat) (X : Stand p l e R s m args below meth c T locs cells slots) (hx : p.tables.exec = Jvm.exec) {cd : ClassFile.Cond} {x y : Int32} {o : Int} (hd : decode c.code pc = .ok (.if_icmp cd o, 3)) (hc : if_icmp.holds cd x y = false) (q : pc + 3 = n) (h : Gz p e below s C N Q (T.setTop (mkF m n Ls st))) : Gz p e below s C N Q (T.setTop (mkF m pc Ls (.int y :: .int x :: st))) := by subst q; exact Gz.st (fun t k => XS.icmpNo X.here hx rfl hd rfl hc k) h
theorem Gz.ldcI (n : Nat) (X : Stand p l e R s m args below meth c T locs cells slots) (hx : p.tables.exec = Jvm.exec) {own : String} {ix : Nat} {v : Int32} (hd : decode c.code pc = .ok (.ldc ix, 2)) (hown : s.vm.findClass own = some m.cls) (w : (Cond.constant own ix v).before args s = true) (q : pc + 2 = n) (h : Gz p e below s C N Q (T.setTop (mkF m n Ls (.int v :: st)))) : Gz p e below s C N Q (T.setTop (mkF m pc Ls st)) := by subst q; exact Gz.st (X.ldcInt hx hown w (g := mkF m pc Ls st) rfl hd) h
theorem Gz.getF (n : Nat) (X : Stand p l e R s m args below meth c T locs cells slots) (hx : p.tables.exec = Jvm.exec) (hZ : Z.Warmed39 s.vm) {own : String} (hown : s.vm.findClass own = some m.cls) {R0 O nm d host : String} {ix : Nat} (hd : decode c.code pc = .ok (.getfield ix, 3)) (w : (Cond.fieldLink own ix R0 nm d).before a0 Z = true ∨ (Cond.fieldLinkNest own ix R0 nm d host).before a0 Z = true) (via : Via Z R0 O nm d) (eT : T.heap = hh) {a : Addr} {v : Value} (F : Fld Z hh a O nm d v) (q : pc + 3 = n) (h : ∀ T', Stand p l e R s m args below meth c T' (locs) (cells) (slots) → T'.heap = hh → Gz p e below s C N Q (T'.setTop (mkF m n Ls (v :: st)))) : Gz p e below s C N Q (T.setTop (mkF m pc Ls (.ref a :: st))) := by
  subst q
  obtain ⟨T', X', e', st'⟩ := Jvm.RoadKit.getF X hx hZ hown w via eT F (g := mkF m pc Ls (.ref a :: st)) rfl rfl hd
  exact Gz.st st' (h T' X' e')
theorem Gz.putF (n : Nat) (X : Stand p l e R s m args below meth c T locs cells slots) (hx : p.tables.exec = Jvm.exec) (hZ : Z.Warmed39 s.vm) {own : String} (hown : s.vm.findClass own = some m.cls) {R0 O nm d host K : String} {ix kk : Nat} (ty : FieldType) (hd : decode c.code pc = .ok (.putfield ix, 3)) (w : (Cond.fieldLink own ix R0 nm d).before a0 Z = true ∨ (Cond.fieldLinkNest own ix R0 nm d host).before a0 Z = true) (via : Via Z R0 O nm d) (eT : T.heap = hh) {a : Addr} {v old : Value} (F : Fld Z hh a O nm d old) (E : Exa Z hh a K) (L : (Cond.lays K O nm d).before a0 Z = true ∨ ((Cond.laysFinal K O nm d).before a0 Z = true ∧ own = O ∧ meth.name = "<init>")) (wi : (Cond.instantiable K kk).before a0 Z = true) (hty : parseFieldDescriptor d = some ty) (hn : narrow ty v = v) (hf : fits ty v = true) (q : pc + 3 = n) (h : ∀ T' h', Stand p l e R s m args below meth c T' (locs ++ [⟨a, slotOf Z O nm d⟩]) (cells) (slots) → T'.heap = h' → Wr hh h' a (slotOf Z O nm d) v → Gz p e below s C N Q (T'.setTop (mkF m n Ls st))) : Gz p e below s C N Q (T.setTop (mkF m pc Ls (v :: .ref a :: st))) := by
  subst q
  obtain ⟨T', h', X', e', W, st'⟩ := Jvm.RoadKit.putF X hx hZ hown w via eT F E L wi hty hn hf (g := mkF m pc Ls (v :: .ref a :: st)) rfl rfl hd
  exact Gz.st st' (h T' h' X' e' W)
theorem Gz.stI (n : Nat) (X : Stand p l e R s m args below meth c T locs cells slots) (hx : p.tables.exec = Jvm.exec) (hZ : Z.Warmed39 s.vm) {a : Addr} {cl : Cell} {j : Int32} {x : Int32} (hd : decode c.code pc = .ok (.iastore, 1)) (eT : T.heap = hh) (A : Arr Z hh a cl .int) (hj : ¬ (j < 0 ∨ cl.slots.size ≤ j.toNatClampNeg)) (q : pc + 1 = n) (h : ∀ T' h', Stand p l e R s m args below meth c T' (locs ++ [⟨a, j.toNatClampNeg⟩]) (cells) (slots) → T'.heap = h' → Wr hh h' a j.toNatClampNeg (.int x) → Gz p e below s C N Q (T'.setTop (mkF m n Ls st))) : Gz p e below s C N Q (T.setTop (mkF m pc Ls (.int x :: .int j :: .ref a :: st))) := by
  subst q
  obtain ⟨T', h', X', e', W, st'⟩ := Jvm.RoadKit.stI X hx hZ eT A (j := j) hj (g := mkF m pc Ls (.int x :: .int j :: .ref a :: st)) rfl rfl hd
  exact Gz.st st' (h T' h' X' e' W)
theorem Gz.ldI (n : Nat) (X : Stand p l e R s m args below meth c T locs cells slots) (hx : p.tables.exec = Jvm.exec) (hZ : Z.Warmed39 s.vm) {a : Addr} {cl : Cell} {j : Int32} {v : Value} (hd : decode c.code pc = .ok (.iaload, 1)) (eT : T.heap = hh) (A : Arr Z hh a cl .int) (hj : ¬ (j < 0 ∨ cl.slots.size ≤ j.toNatClampNeg)) (hv : cl.slots[j.toNatClampNeg]? = some v) (q : pc + 1 = n) (h : Gz p e below s C N Q (T.setTop (mkF m n Ls (v :: st)))) : Gz p e below s C N Q (T.setTop (mkF m pc Ls (.int j :: .ref a :: st))) := by
  subst q
  exact Gz.st (X.iaload hx (j := j) (v := v) (by rw [eT]; exact A.1) (State.isArrayOf_alike hZ.alike A.2.1) A.2.2 hj hv (g := mkF m pc Ls (.int j :: .ref a :: st)) rfl rfl hd) h
theorem Gz.enter {g g' : JFrame} (q : g = g') (h : Gz p e below s C N Q (T.setTop g')) : Gz p e below s C N Q (T.setTop g) := q ▸ h
theorem Gz.fin (X : Stand p l e R s m args below meth c T locs cells slots) {v : Option Value} (hv : meth.sig.returnType = none → v = none) (hlocks : meth.locks = false) (hc : cells ≤ C) (hn : slots ≤ N)
    (hst : ∀ fs, (∀ (f : JFrame) (acts : List Action), f.method = m → f.locked = none → f.entered = [] → (doReturn e (T.setTop f) acts v).1 = T.setFrames fs) → Steps p.tables e below S (T.setFrames fs)) (hq : Q v T.heap locs) : Gz p e below s C N Q S := by
  obtain ⟨fs, hr, hrun, hended, hW, hsame⟩ := X.leave hv hlocks
  exact ⟨_, _, hst fs hr, hrun, hended, _, _, rfl, hq, ⟨_, rfl⟩, hW, hsame.mono hc hn⟩
theorem retNV (X : Stand p l e R s m args below meth c T locs cells slots) (hx : p.tables.exec = Jvm.exec) {pc : Nat} {Ls : Array Slot} {z w : Int32} {t : FieldType} {rest : List Value} (hret : meth.sig.returnType = some t) (ht : t = .boolean ∨ t = .byte ∨ t = .char ∨ t = .short)
    (hd : decode c.code pc = .ok (.ireturn, 1)) {fs : List Frame} (hl : ∀ (f : JFrame) (acts : List Action), f.method = m → f.locked = none → f.entered = [] → (doReturn e (T.setTop f) acts (some (.int w))).1 = T.setFrames fs) (hw : nar t z = w) :
    Steps p.tables e below (T.setTop (mkF m pc Ls (.int z :: rest))) (T.setFrames fs) := by subst hw; exact retN X hx hret ht hd hl
theorem own_nb (x : Int32) : nar .byte (x.toInt8.toInt32) = x.toInt8.toInt32 := by show (x.toInt8.toInt32).toInt8.toInt32 = _; simp
theorem lt_irr (x : Int32) : ¬ x < x := Int32.lt_irrefl
theorem own_fldI {a0 : Array Value} {Z : State} {t : Term} {a : Addr} {C n d : String} {k : Int32} (ev : t.eval a0 Z none [] Z = some (.ref a)) (h : (Cond.eq (.field t C n d) (.int k)).value a0 Z none Z [] = some true) : Fld Z Z.heap a C n d (.int k) := by
  obtain ⟨x, y, e1, e2, k1, k2⟩ := cmp_v (Or.inl h)
  cases Option.some.inj (e2.symm.trans (Term.int_eval k))
  obtain ⟨z, rfl⟩ := k2
  have q := gotT (Cond.eq_ints e1 (Term.int_eval k)) h
  subst q
  rw [fld_at ev] at e1
  exact Fld.start e1
theorem own_len {a0 : Array Value} {Z : State} {t : Term} {a : Addr} {cl : Cell} {ty : FieldType} {z : Int32} (ev : t.eval a0 Z none [] Z = some (.ref a)) (A : Arr Z Z.heap a cl ty) (h : (Cond.eq (.length t) (.int z)).value a0 Z none Z [] = some true) : cl.slots.size < 2 ^ 31 ∧ cl.slots.size.toInt32 = z := by
  obtain ⟨x, y, e1, e2, k1, k2⟩ := cmp_v (Or.inl h)
  obtain ⟨b, cell, f1, f2, f3, f4⟩ := Jvm.Lib.length_spec e1
  cases Option.some.inj (ev.symm.trans f1)
  cases f2.symm.trans (Arr.fin (U := Z) (Vm.Alike.refl _) A)
  subst f4
  exact ⟨f3, gotT (Cond.eq_ints e1 (Term.int_eval z)) h⟩
theorem own_el {a0 : Array Value} {Z : State} {t : Term} {a : Addr} {cl : Cell} {ty : FieldType} {j v : Int32} (ev : t.eval a0 Z none [] Z = some (.ref a)) (A : Arr Z Z.heap a cl ty) (h : (Cond.eq (.elem t (.int j)) (.int v)).value a0 Z none Z [] = some true) : cl.slots[j.toNatClampNeg]? = some (.int v) := by
  obtain ⟨x, y, e1, e2, k1, k2⟩ := cmp_v (Or.inl h)
  cases Option.some.inj (e2.symm.trans (Term.int_eval v))
  obtain ⟨z, rfl⟩ := k2
  have q := gotT (Cond.eq_ints e1 (Term.int_eval v)) h
  subst q
  exact (elem_in e1 ev (Term.int_eval j) A.1).2
end New
end Jvm.RoadKit
namespace Jvm.Pilot.@@N@@
open Jvm Jvm.ClassFile Sem Op Lib Jvm.Free Jvm.Stand Jvm.LawKit Jvm.RoadKit Bundle Jvm.Pilot.@@N@@.Jvm.D
theorem ww {av : Array Value} {Z : State} (hw : ∀ d ∈ tables_1, d.before av Z = true) (i : Nat) {d : Jvm.Cond} (h : tables_1[i]? = some d) : d.before av Z = true := hw _ (List.mem_of_getElem? h)
theorem own_nat (z : Int32) (n : Nat) (hn : n ≤ 2147483648) (h0 : 0 ≤ z.toInt) (h1 : z.toInt < n) : ∃ k : Nat, k < n ∧ z = Int32.ofNat k := by
  refine ⟨z.toInt.toNat, by omega, ?_⟩
  apply Int32.toInt_inj.mp
  rw [Int32.toInt_ofNat_of_lt (by omega)]
  omega
theorem own_i2c (z : Int32) (h0 : 0 ≤ z.toInt) (h1 : z.toInt < 65536) : z.toUInt32.toUInt16.toUInt32.toInt32 = z := by
  apply Int32.toInt_inj.mp
  have := c_i2c z
  omega
theorem own_asym32 {x y : Int32} (h : y < x) : ¬ x < y := fun q => by rw [Int32.lt_iff_toInt_lt] at *; omega
theorem own_asym64 {x y : Int64} (h : y < x) : ¬ x < y := fun q => by rw [Int64.lt_iff_toInt_lt] at *; omega
theorem own_irr32 {x y : Int32} (h : x = y) : ¬ x < y := fun q => by rw [Int32.lt_iff_toInt_lt] at *; subst h; omega
theorem own_irr64 {x y : Int64} (h : x = y) : ¬ x < y := fun q => by rw [Int64.lt_iff_toInt_lt] at *; subst h; omega
theorem own_tri32 {x y : Int32} (h : ¬ y < x) (g : ¬ x = y) : x < y := by
  rw [← Int32.toInt_inj] at g; rw [Int32.lt_iff_toInt_lt] at *; omega
theorem own_tri64 {x y : Int64} (h : ¬ y < x) (g : ¬ x = y) : x < y := by
  rw [← Int64.toInt_inj] at g; rw [Int64.lt_iff_toInt_lt] at *; omega
theorem own_nlt32 {x y : Int32} (h : x < y) : ¬ x = y := fun q => own_irr32 q h
theorem own_nlt64 {x y : Int64} (h : x < y) : ¬ x = y := fun q => own_irr64 q h
theorem own_ngt32 {x y : Int32} (h : y < x) : ¬ x = y := fun q => own_irr32 q.symm h
theorem own_ngt64 {x y : Int64} (h : y < x) : ¬ x = y := fun q => own_irr64 q.symm h
theorem own_both32 {x y : Int32} (h : ¬ x < y) (g : ¬ y < x) : x = y := by
  rw [← Int32.toInt_inj]; rw [Int32.lt_iff_toInt_lt] at *; omega
theorem own_both64 {x y : Int64} (h : ¬ x < y) (g : ¬ y < x) : x = y := by
  rw [← Int64.toInt_inj]; rw [Int64.lt_iff_toInt_lt] at *; omega
theorem own_rem (z d : Int32) (hd : d ≠ 0) (h0 : 0 ≤ z.toInt) (n : Nat) (hn : d.toInt = n) (hn2 : n ≤ 2147483648) : ∃ k : Nat, k < n ∧ z % d = Int32.ofNat k := by
  have hr := c_irem z d n hn
  have hn0 : n ≠ 0 := fun q => hd (Int32.toInt_inj.mp (by rw [hn, q]; rfl))
  have h1 := hr.1 h0
  have h2 : 0 ≤ z.toInt % (n : Int) := Int.emod_nonneg _ (by omega)
  have h3 : z.toInt % (n : Int) < n := Int.emod_lt_of_pos _ (by omega)
  exact own_nat _ n hn2 (by omega) (by omega)
theorem own_ALt32 {e j k : Int32} (h : e < j) (q : j.toInt ≤ k.toInt) : e < k := by
  rw [Int32.lt_iff_toInt_lt] at *; omega
theorem own_AGf32 {e j k : Int32} (h : e < j) (q : j.toInt ≤ k.toInt + 1) : ¬ k < e := by
  rw [Int32.lt_iff_toInt_lt] at *; omega
theorem own_AEf32 {e j k : Int32} (h : e < j) (q : j.toInt ≤ k.toInt) : ¬ e = k := by
  intro z; subst z; rw [Int32.lt_iff_toInt_lt] at h; omega
theorem own_BLf32 {e j k : Int32} (h : ¬ e < j) (q : k.toInt ≤ j.toInt) : ¬ e < k := by
  rw [Int32.lt_iff_toInt_lt] at *; omega
theorem own_BGt32 {e j k : Int32} (h : ¬ e < j) (q : k.toInt < j.toInt) : k < e := by
  rw [Int32.lt_iff_toInt_lt] at *; omega
theorem own_BEf32 {e j k : Int32} (h : ¬ e < j) (q : k.toInt < j.toInt) : ¬ e = k := by
  intro z; subst z; rw [Int32.lt_iff_toInt_lt] at h; omega
theorem own_CLf32 {e j k : Int32} (h : j < e) (q : k.toInt ≤ j.toInt + 1) : ¬ e < k := by
  rw [Int32.lt_iff_toInt_lt] at *; omega
theorem own_CGt32 {e j k : Int32} (h : j < e) (q : k.toInt ≤ j.toInt) : k < e := by
  rw [Int32.lt_iff_toInt_lt] at *; omega
theorem own_CEf32 {e j k : Int32} (h : j < e) (q : k.toInt ≤ j.toInt) : ¬ e = k := by
  intro z; subst z; rw [Int32.lt_iff_toInt_lt] at h; omega
theorem own_DLt32 {e j k : Int32} (h : ¬ j < e) (q : j.toInt < k.toInt) : e < k := by
  rw [Int32.lt_iff_toInt_lt] at *; omega
theorem own_DGf32 {e j k : Int32} (h : ¬ j < e) (q : j.toInt ≤ k.toInt) : ¬ k < e := by
  rw [Int32.lt_iff_toInt_lt] at *; omega
theorem own_DEf32 {e j k : Int32} (h : ¬ j < e) (q : j.toInt < k.toInt) : ¬ e = k := by
  intro z; subst z; rw [Int32.lt_iff_toInt_lt] at h; omega
theorem own_eqEt32 {e j k : Int32} (h : e = j) (q : j = k) : e = k := by rw [h]; exact q
theorem own_eqEf32 {e j k : Int32} (h : e = j) (q : ¬ j = k) : ¬ e = k := by rw [h]; exact q
theorem own_eqLt32 {e j k : Int32} (h : e = j) (q : j < k) : e < k := by rw [h]; exact q
theorem own_eqLf32 {e j k : Int32} (h : e = j) (q : ¬ j < k) : ¬ e < k := by rw [h]; exact q
theorem own_eqGt32 {e j k : Int32} (h : e = j) (q : k < j) : k < e := by rw [h]; exact q
theorem own_eqGf32 {e j k : Int32} (h : e = j) (q : ¬ k < j) : ¬ k < e := by rw [h]; exact q
theorem own_ALt64 {e j k : Int64} (h : e < j) (q : j.toInt ≤ k.toInt) : e < k := by
  rw [Int64.lt_iff_toInt_lt] at *; omega
theorem own_AGf64 {e j k : Int64} (h : e < j) (q : j.toInt ≤ k.toInt + 1) : ¬ k < e := by
  rw [Int64.lt_iff_toInt_lt] at *; omega
theorem own_AEf64 {e j k : Int64} (h : e < j) (q : j.toInt ≤ k.toInt) : ¬ e = k := by
  intro z; subst z; rw [Int64.lt_iff_toInt_lt] at h; omega
theorem own_BLf64 {e j k : Int64} (h : ¬ e < j) (q : k.toInt ≤ j.toInt) : ¬ e < k := by
  rw [Int64.lt_iff_toInt_lt] at *; omega
theorem own_BGt64 {e j k : Int64} (h : ¬ e < j) (q : k.toInt < j.toInt) : k < e := by
  rw [Int64.lt_iff_toInt_lt] at *; omega
theorem own_BEf64 {e j k : Int64} (h : ¬ e < j) (q : k.toInt < j.toInt) : ¬ e = k := by
  intro z; subst z; rw [Int64.lt_iff_toInt_lt] at h; omega
theorem own_CLf64 {e j k : Int64} (h : j < e) (q : k.toInt ≤ j.toInt + 1) : ¬ e < k := by
  rw [Int64.lt_iff_toInt_lt] at *; omega
theorem own_CGt64 {e j k : Int64} (h : j < e) (q : k.toInt ≤ j.toInt) : k < e := by
  rw [Int64.lt_iff_toInt_lt] at *; omega
theorem own_CEf64 {e j k : Int64} (h : j < e) (q : k.toInt ≤ j.toInt) : ¬ e = k := by
  intro z; subst z; rw [Int64.lt_iff_toInt_lt] at h; omega
theorem own_DLt64 {e j k : Int64} (h : ¬ j < e) (q : j.toInt < k.toInt) : e < k := by
  rw [Int64.lt_iff_toInt_lt] at *; omega
theorem own_DGf64 {e j k : Int64} (h : ¬ j < e) (q : j.toInt ≤ k.toInt) : ¬ k < e := by
  rw [Int64.lt_iff_toInt_lt] at *; omega
theorem own_DEf64 {e j k : Int64} (h : ¬ j < e) (q : j.toInt < k.toInt) : ¬ e = k := by
  intro z; subst z; rw [Int64.lt_iff_toInt_lt] at h; omega
theorem own_eqEt64 {e j k : Int64} (h : e = j) (q : j = k) : e = k := by rw [h]; exact q
theorem own_eqEf64 {e j k : Int64} (h : e = j) (q : ¬ j = k) : ¬ e = k := by rw [h]; exact q
theorem own_eqLt64 {e j k : Int64} (h : e = j) (q : j < k) : e < k := by rw [h]; exact q
theorem own_eqLf64 {e j k : Int64} (h : e = j) (q : ¬ j < k) : ¬ e < k := by rw [h]; exact q
theorem own_eqGt64 {e j k : Int64} (h : e = j) (q : k < j) : k < e := by rw [h]; exact q
theorem own_eqGf64 {e j k : Int64} (h : e = j) (q : ¬ k < j) : ¬ k < e := by rw [h]; exact q
theorem d1_0 : decode prog_23_method_1_code 0 = .ok (.aload_n 0, 1) := by decide +kernel
theorem d1_1 : decode prog_23_method_1_code 1 = .ok (.invokespecial 1, 3) := by decide +kernel
theorem d1_4 : decode prog_23_method_1_code 4 = .ok (.return_, 1) := by decide +kernel
theorem pn_0 : plainName "com/example/fold3/fold3/input/Utf8Check" = true := by first | (simp [plainName, overriddenIn]; done) | decide +kernel
theorem ef_rm1 (m : MethodId) (a0 : Addr) : entryFrame m #[(.ref a0)] 1 = mkF m 0 #[.val (.ref a0)] [] := by first | (simp [entryFrame, mkF, argsToLocals, Value.category]; done) | rfl
def Q_rm1 (Z : State) (a0 : Addr) (h0 : Heap) (n0 : Nat) (v : Option Value) (h : Heap) (L : List Loc) : Prop := v = none ∧ Fr n0 L ∧ Keep h0 h []
set_option maxRecDepth 65536 in
set_option maxHeartbeats 40000000 in
theorem rm1 (l : Launch) (Z : State) (av0 : Array Value) (hw : ∀ d ∈ tables_1, d.before av0 Z = true) (ws : List Jvm.Cond) (a0 : Addr) (h0 : Heap) (n0 : Nat) (Z0 : n0 ≤ h0.size) (E_a0 : Exa Z h0 a0 "com/example/fold3/fold3/input/Utf8Check") :
    MetFree l (⟨"com/example/fold3/fold3/input/Utf8Check", "<init>", "()V"⟩ : MethodName) (head1 (Jvm.Cond.code (⟨"com/example/fold3/fold3/input/Utf8Check", "<init>", "()V"⟩ : MethodName) prog_23_method_1_code 1 none :: ws) ({ frames := 1, cells := 0, slots := 0, locals := 12 } : Room)) (fun a U => a = #[(.ref a0)] ∧ Z.Warmed39 U.vm ∧ U.heap = h0) (fun _ _ _ _ _ => True) (fun _ U o U' => ∃ v L, o = .returned v ∧ Q_rm1 Z a0 h0 n0 v U'.heap L ∧ FrameEnd U o U' L ({ frames := 1, cells := 0, slots := 0, locals := 12 } : Room).cells ({ frames := 1, cells := 0, slots := 0, locals := 12 } : Room).slots) := by
  refine MetFree.of_bodySF (plainFor_of_name pn_0) hisR ?_
  intro p e s m args below meth c s₁ Bd hml0 hP hK
  obtain ⟨rfl, hZ, hh⟩ := hP
  have hx := Bd.exec
  have hby := Bd.bytes
  have hml : c.maxLocals = 1 := hml0
  have dd : ∀ {pc : Nat} {r : Except DecodeError (Instr × Nat)}, decode prog_23_method_1_code pc = r → decode c.code pc = r := fun q => hb hby q
  have hown : s.vm.findClass "com/example/fold3/fold3/input/Utf8Check" = some m.cls := findClass_of_methodNamed Bd.named
  have hnm := (name_of_methodNamed Bd.named Bd.method).1
  have X0 : Stand p l e ({ frames := 1, cells := 0, slots := 0, locals := 12 } : Room) s m #[(.ref a0)] below meth c s₁ [] 0 0 := Stand.of_body Bd
  have e0 : s₁.heap = h0 := by rw [← hh, Bd.state]; rfl
  have N0 := Fr.nil n0
  have hret := Bd.returns
  have hlk := Bd.notSynchronized
  show Gz p e below s ({ frames := 1, cells := 0, slots := 0, locals := 12 } : Room).cells ({ frames := 1, cells := 0, slots := 0, locals := 12 } : Room).slots (Q_rm1 Z a0 h0 n0) (s₁.setTop (entryFrame m #[(.ref a0)] 1))
  refine Gz.enter (ef_rm1 m a0) ?_
  refine Gz.aloadN 1 X0 hx (dd d1_0) rfl rfl rfl ?_
  obtain ⟨T1, X1, e1, st1⟩ := initO X0 hx hZ hown (ww hw 7 rfl) (ww hw 8 rfl) (ww hw 9 rfl) e0 (g := (mkF m 1 #[.val (.ref a0)] [(.ref a0)])) rfl (by rw [hml]; rfl) rfl (dd d1_1) (by decide) (W := 0) (by show 2 * 0 + _ ≤ _; exact Nat.le_of_eq rfl) (by decide)
  refine Gz.st st1 ?_
  refine Gz.fin X1 (v := none) (fun _ => rfl) hlk (by decide) (by decide) (fun fs hr => X1.returnOut hx hret (dd d1_4) hr) ?_
  rw [e1]
  exact ⟨rfl, N0, (Keep.refl h0 [])⟩
theorem d5_0 : decode method_3_code 0 = .ok (.iload_n 0, 1) := by decide +kernel
theorem d5_1 : decode method_3_code 1 = .ok (.sipush 128, 3) := by decide +kernel
theorem d5_4 : decode method_3_code 4 = .ok (.if_icmp .ge 5, 3) := by decide +kernel
theorem d5_7 : decode method_3_code 7 = .ok (.iconst 1, 1) := by decide +kernel
theorem d5_8 : decode method_3_code 8 = .ok (.ireturn, 1) := by decide +kernel
theorem d5_9 : decode method_3_code 9 = .ok (.iload_n 0, 1) := by decide +kernel
theorem d5_10 : decode method_3_code 10 = .ok (.sipush 192, 3) := by decide +kernel
theorem d5_13 : decode method_3_code 13 = .ok (.if_icmp .ge 5, 3) := by decide +kernel
theorem d5_16 : decode method_3_code 16 = .ok (.iconst 0, 1) := by decide +kernel
theorem d5_17 : decode method_3_code 17 = .ok (.ireturn, 1) := by decide +kernel
theorem d5_18 : decode method_3_code 18 = .ok (.iload_n 0, 1) := by decide +kernel
theorem d5_19 : decode method_3_code 19 = .ok (.sipush 224, 3) := by decide +kernel
theorem d5_22 : decode method_3_code 22 = .ok (.if_icmp .ge 25, 3) := by decide +kernel
theorem d5_25 : decode method_3_code 25 = .ok (.iload_n 0, 1) := by decide +kernel
theorem d5_26 : decode method_3_code 26 = .ok (.bipush 31, 2) := by decide +kernel
theorem d5_28 : decode method_3_code 28 = .ok (.iand, 1) := by decide +kernel
theorem d5_29 : decode method_3_code 29 = .ok (.bipush 6, 2) := by decide +kernel
theorem d5_31 : decode method_3_code 31 = .ok (.ishl, 1) := by decide +kernel
theorem d5_32 : decode method_3_code 32 = .ok (.bipush 63, 2) := by decide +kernel
theorem d5_34 : decode method_3_code 34 = .ok (.ior, 1) := by decide +kernel
theorem d5_35 : decode method_3_code 35 = .ok (.sipush 128, 3) := by decide +kernel
theorem d5_38 : decode method_3_code 38 = .ok (.if_icmp .lt 7, 3) := by decide +kernel
theorem d5_41 : decode method_3_code 41 = .ok (.iconst 2, 1) := by decide +kernel
theorem d5_42 : decode method_3_code 42 = .ok (.goto 4, 3) := by decide +kernel
theorem d5_45 : decode method_3_code 45 = .ok (.iconst 0, 1) := by decide +kernel
theorem d5_46 : decode method_3_code 46 = .ok (.ireturn, 1) := by decide +kernel
theorem d5_47 : decode method_3_code 47 = .ok (.iload_n 0, 1) := by decide +kernel
theorem d5_48 : decode method_3_code 48 = .ok (.sipush 240, 3) := by decide +kernel
theorem d5_51 : decode method_3_code 51 = .ok (.if_icmp .ge 5, 3) := by decide +kernel
theorem d5_54 : decode method_3_code 54 = .ok (.iconst 3, 1) := by decide +kernel
theorem d5_55 : decode method_3_code 55 = .ok (.ireturn, 1) := by decide +kernel
theorem d5_56 : decode method_3_code 56 = .ok (.iload_n 0, 1) := by decide +kernel
theorem d5_57 : decode method_3_code 57 = .ok (.sipush 248, 3) := by decide +kernel
theorem d5_60 : decode method_3_code 60 = .ok (.if_icmp .ge 21, 3) := by decide +kernel
theorem d5_63 : decode method_3_code 63 = .ok (.iload_n 0, 1) := by decide +kernel
theorem d5_64 : decode method_3_code 64 = .ok (.bipush 7, 2) := by decide +kernel
theorem d5_66 : decode method_3_code 66 = .ok (.iand, 1) := by decide +kernel
theorem d5_67 : decode method_3_code 67 = .ok (.bipush 18, 2) := by decide +kernel
theorem d5_69 : decode method_3_code 69 = .ok (.ishl, 1) := by decide +kernel
theorem d5_70 : decode method_3_code 70 = .ok (.ldc 16, 2) := by decide +kernel
theorem d5_72 : decode method_3_code 72 = .ok (.if_icmp .gt 7, 3) := by decide +kernel
theorem d5_75 : decode method_3_code 75 = .ok (.iconst 4, 1) := by decide +kernel
theorem d5_76 : decode method_3_code 76 = .ok (.goto 4, 3) := by decide +kernel
theorem d5_79 : decode method_3_code 79 = .ok (.iconst 0, 1) := by decide +kernel
theorem d5_80 : decode method_3_code 80 = .ok (.ireturn, 1) := by decide +kernel
theorem d5_81 : decode method_3_code 81 = .ok (.iconst 0, 1) := by decide +kernel
theorem d5_82 : decode method_3_code 82 = .ok (.ireturn, 1) := by decide +kernel
theorem pn_1 : plainName "com/example/fold3/fold3/input/Utf8CheckAcceptPinLaw" = true := by first | (simp [plainName, overriddenIn]; done) | decide +kernel
theorem ef_rm5 (m : MethodId) (p0 : Int32) : entryFrame m #[(.int p0)] 1 = mkF m 0 #[.val (.int p0)] [] := by first | (simp [entryFrame, mkF, argsToLocals, Value.category]; done) | rfl
def fLen (p0 : Int32) : Int32 := (if p0 < (128 : Int32) then (1 : Int32) else (if p0 < (192 : Int32) then (0 : Int32) else (if p0 < (224 : Int32) then (if (((p0 &&& (31 : Int32)) <<< ((6 : Int32) &&& 31)) ||| (63 : Int32)) < (128 : Int32) then (0 : Int32) else (2 : Int32)) else (if p0 < (240 : Int32) then (3 : Int32) else (if p0 < (248 : Int32) then (if (1114111 : Int32) < ((p0 &&& (7 : Int32)) <<< ((18 : Int32) &&& 31)) then (0 : Int32) else (4 : Int32)) else (0 : Int32))))))
def Q_rm5 (Z : State) (p0 : Int32) (h0 : Heap) (n0 : Nat) (v : Option Value) (h : Heap) (L : List Loc) : Prop := v = some (.int (fLen p0)) ∧ Fr n0 L ∧ h = h0
set_option maxRecDepth 65536 in
set_option maxHeartbeats 40000000 in
theorem rm5 (l : Launch) (Z : State) (av0 : Array Value) (hw : ∀ d ∈ tables_1, d.before av0 Z = true) (ws : List Jvm.Cond) (p0 : Int32) (h0 : Heap) (n0 : Nat) (Z0 : n0 ≤ h0.size)  :
    MetFree l (⟨"com/example/fold3/fold3/input/Utf8CheckAcceptPinLaw", "len", "(I)I"⟩ : MethodName) (head1 (Jvm.Cond.code (⟨"com/example/fold3/fold3/input/Utf8CheckAcceptPinLaw", "len", "(I)I"⟩ : MethodName) method_3_code 1 (some .int) :: ws) ({ frames := 0, cells := 0, slots := 0, locals := 0 } : Room)) (fun a U => a = #[(.int p0)] ∧ Z.Warmed39 U.vm ∧ U.heap = h0) (fun _ _ _ _ _ => True) (fun _ U o U' => ∃ v L, o = .returned v ∧ Q_rm5 Z p0 h0 n0 v U'.heap L ∧ FrameEnd U o U' L ({ frames := 0, cells := 0, slots := 0, locals := 0 } : Room).cells ({ frames := 0, cells := 0, slots := 0, locals := 0 } : Room).slots) := by
  refine MetFree.of_bodySF (plainFor_of_name pn_1) hisR ?_
  intro p e s m args below meth c s₁ Bd hml0 hP hK
  obtain ⟨rfl, hZ, hh⟩ := hP
  have hx := Bd.exec
  have hby := Bd.bytes
  have hml : c.maxLocals = 1 := hml0
  have dd : ∀ {pc : Nat} {r : Except DecodeError (Instr × Nat)}, decode method_3_code pc = r → decode c.code pc = r := fun q => hb hby q
  have hown : s.vm.findClass "com/example/fold3/fold3/input/Utf8CheckAcceptPinLaw" = some m.cls := findClass_of_methodNamed Bd.named
  have hnm := (name_of_methodNamed Bd.named Bd.method).1
  have X0 : Stand p l e ({ frames := 0, cells := 0, slots := 0, locals := 0 } : Room) s m #[(.int p0)] below meth c s₁ [] 0 0 := Stand.of_body Bd
  have e0 : s₁.heap = h0 := by rw [← hh, Bd.state]; rfl
  have N0 := Fr.nil n0
  have hret := Bd.returns
  have hlk := Bd.notSynchronized
  show Gz p e below s ({ frames := 0, cells := 0, slots := 0, locals := 0 } : Room).cells ({ frames := 0, cells := 0, slots := 0, locals := 0 } : Room).slots (Q_rm5 Z p0 h0 n0) (s₁.setTop (entryFrame m #[(.int p0)] 1))
  refine Gz.enter (ef_rm5 m p0) ?_
  refine Gz.iloadN 1 X0 hx (dd d5_0) rfl rfl ?_
  refine Gz.sipush 4 (128 : Int32) X0 hx (dd d5_1) rfl rfl ?_
  by_cases hc1 : p0 < (128 : Int32)
  · refine Gz.icmpNo 7 X0 hx (dd d5_4) (tlt hc1).2.1 rfl ?_
    refine Gz.iconst 8 (1 : Int32) X0 hx (dd d5_7) rfl rfl ?_
    refine Gz.fin X0 (v := some (.int (1 : Int32))) (fun h => by rw [hret] at h; cases h) hlk (by decide) (by decide) (fun fs hr => retI X0 hx hret (dd d5_8) hr) ?_
    rw [e0]
    exact ⟨(by unfold fLen; rw [if_pos hc1]), N0, rfl⟩
  · refine Gz.icmpYes 9 X0 hx (dd d5_4) (flt hc1).2.1 (by decide) (by decide) ?_
    refine Gz.iloadN 10 X0 hx (dd d5_9) rfl rfl ?_
    refine Gz.sipush 13 (192 : Int32) X0 hx (dd d5_10) rfl rfl ?_
    by_cases hc2 : p0 < (192 : Int32)
    · refine Gz.icmpNo 16 X0 hx (dd d5_13) (tlt hc2).2.1 rfl ?_
      refine Gz.iconst 17 (0 : Int32) X0 hx (dd d5_16) rfl rfl ?_
      refine Gz.fin X0 (v := some (.int (0 : Int32))) (fun h => by rw [hret] at h; cases h) hlk (by decide) (by decide) (fun fs hr => retI X0 hx hret (dd d5_17) hr) ?_
      rw [e0]
      exact ⟨(by unfold fLen; rw [if_neg hc1, if_pos hc2]), N0, rfl⟩
    · refine Gz.icmpYes 18 X0 hx (dd d5_13) (flt hc2).2.1 (by decide) (by decide) ?_
      refine Gz.iloadN 19 X0 hx (dd d5_18) rfl rfl ?_
      refine Gz.sipush 22 (224 : Int32) X0 hx (dd d5_19) rfl rfl ?_
      by_cases hc3 : p0 < (224 : Int32)
      · refine Gz.icmpNo 25 X0 hx (dd d5_22) (tlt hc3).2.1 rfl ?_
        refine Gz.iloadN 26 X0 hx (dd d5_25) rfl rfl ?_
        refine Gz.bipush 28 (31 : Int32) X0 hx (dd d5_26) rfl rfl ?_
        refine Gz.iand 29 X0 hx (dd d5_28) rfl ?_
        refine Gz.bipush 31 (6 : Int32) X0 hx (dd d5_29) rfl rfl ?_
        refine Gz.ishl 32 X0 hx (dd d5_31) rfl ?_
        refine Gz.bipush 34 (63 : Int32) X0 hx (dd d5_32) rfl rfl ?_
        refine Gz.ior 35 X0 hx (dd d5_34) rfl ?_
        refine Gz.sipush 38 (128 : Int32) X0 hx (dd d5_35) rfl rfl ?_
        by_cases hc4 : (((p0 &&& (31 : Int32)) <<< ((6 : Int32) &&& 31)) ||| (63 : Int32)) < (128 : Int32)
        · refine Gz.icmpYes 45 X0 hx (dd d5_38) (tlt hc4).1 (by decide) (by decide) ?_
          refine Gz.iconst 46 (0 : Int32) X0 hx (dd d5_45) rfl rfl ?_
          refine Gz.fin X0 (v := some (.int (0 : Int32))) (fun h => by rw [hret] at h; cases h) hlk (by decide) (by decide) (fun fs hr => retI X0 hx hret (dd d5_46) hr) ?_
          rw [e0]
          exact ⟨(by unfold fLen; rw [if_neg hc1, if_neg hc2, if_pos hc3, if_pos hc4]), N0, rfl⟩
        · refine Gz.icmpNo 41 X0 hx (dd d5_38) (flt hc4).1 rfl ?_
          refine Gz.iconst 42 (2 : Int32) X0 hx (dd d5_41) rfl rfl ?_
          refine Gz.goto 46 X0 hx (dd d5_42) (by decide) (by decide) ?_
          refine Gz.fin X0 (v := some (.int (2 : Int32))) (fun h => by rw [hret] at h; cases h) hlk (by decide) (by decide) (fun fs hr => retI X0 hx hret (dd d5_46) hr) ?_
          rw [e0]
          exact ⟨(by unfold fLen; rw [if_neg hc1, if_neg hc2, if_pos hc3, if_neg hc4]), N0, rfl⟩
      · refine Gz.icmpYes 47 X0 hx (dd d5_22) (flt hc3).2.1 (by decide) (by decide) ?_
        refine Gz.iloadN 48 X0 hx (dd d5_47) rfl rfl ?_
        refine Gz.sipush 51 (240 : Int32) X0 hx (dd d5_48) rfl rfl ?_
        by_cases hc5 : p0 < (240 : Int32)
        · refine Gz.icmpNo 54 X0 hx (dd d5_51) (tlt hc5).2.1 rfl ?_
          refine Gz.iconst 55 (3 : Int32) X0 hx (dd d5_54) rfl rfl ?_
          refine Gz.fin X0 (v := some (.int (3 : Int32))) (fun h => by rw [hret] at h; cases h) hlk (by decide) (by decide) (fun fs hr => retI X0 hx hret (dd d5_55) hr) ?_
          rw [e0]
          exact ⟨(by unfold fLen; rw [if_neg hc1, if_neg hc2, if_neg hc3, if_pos hc5]), N0, rfl⟩
        · refine Gz.icmpYes 56 X0 hx (dd d5_51) (flt hc5).2.1 (by decide) (by decide) ?_
          refine Gz.iloadN 57 X0 hx (dd d5_56) rfl rfl ?_
          refine Gz.sipush 60 (248 : Int32) X0 hx (dd d5_57) rfl rfl ?_
          by_cases hc6 : p0 < (248 : Int32)
          · refine Gz.icmpNo 63 X0 hx (dd d5_60) (tlt hc6).2.1 rfl ?_
            refine Gz.iloadN 64 X0 hx (dd d5_63) rfl rfl ?_
            refine Gz.bipush 66 (7 : Int32) X0 hx (dd d5_64) rfl rfl ?_
            refine Gz.iand 67 X0 hx (dd d5_66) rfl ?_
            refine Gz.bipush 69 (18 : Int32) X0 hx (dd d5_67) rfl rfl ?_
            refine Gz.ishl 70 X0 hx (dd d5_69) rfl ?_
            refine Gz.ldcI 72 X0 hx (dd d5_70) hown (mvT hZ (ww hw 39 rfl)) rfl ?_
            by_cases hc7 : (1114111 : Int32) < ((p0 &&& (7 : Int32)) <<< ((18 : Int32) &&& 31))
            · refine Gz.icmpYes 79 X0 hx (dd d5_72) (tlt hc7).2.2.1 (by decide) (by decide) ?_
              refine Gz.iconst 80 (0 : Int32) X0 hx (dd d5_79) rfl rfl ?_
              refine Gz.fin X0 (v := some (.int (0 : Int32))) (fun h => by rw [hret] at h; cases h) hlk (by decide) (by decide) (fun fs hr => retI X0 hx hret (dd d5_80) hr) ?_
              rw [e0]
              exact ⟨(by unfold fLen; rw [if_neg hc1, if_neg hc2, if_neg hc3, if_neg hc5, if_pos hc6, if_pos hc7]), N0, rfl⟩
            · refine Gz.icmpNo 75 X0 hx (dd d5_72) (flt hc7).2.2.1 rfl ?_
              refine Gz.iconst 76 (4 : Int32) X0 hx (dd d5_75) rfl rfl ?_
              refine Gz.goto 80 X0 hx (dd d5_76) (by decide) (by decide) ?_
              refine Gz.fin X0 (v := some (.int (4 : Int32))) (fun h => by rw [hret] at h; cases h) hlk (by decide) (by decide) (fun fs hr => retI X0 hx hret (dd d5_80) hr) ?_
              rw [e0]
              exact ⟨(by unfold fLen; rw [if_neg hc1, if_neg hc2, if_neg hc3, if_neg hc5, if_pos hc6, if_neg hc7]), N0, rfl⟩
          · refine Gz.icmpYes 81 X0 hx (dd d5_60) (flt hc6).2.1 (by decide) (by decide) ?_
            refine Gz.iconst 82 (0 : Int32) X0 hx (dd d5_81) rfl rfl ?_
            refine Gz.fin X0 (v := some (.int (0 : Int32))) (fun h => by rw [hret] at h; cases h) hlk (by decide) (by decide) (fun fs hr => retI X0 hx hret (dd d5_82) hr) ?_
            rw [e0]
            exact ⟨(by unfold fLen; rw [if_neg hc1, if_neg hc2, if_neg hc3, if_neg hc5, if_neg hc6]), N0, rfl⟩
theorem d8_0 : decode method_4_code 0 = .ok (.iload_n 0, 1) := by decide +kernel
theorem d8_1 : decode method_4_code 1 = .ok (.sipush 128, 3) := by decide +kernel
theorem d8_4 : decode method_4_code 4 = .ok (.if_icmp .lt 14, 3) := by decide +kernel
theorem d8_7 : decode method_4_code 7 = .ok (.iload_n 0, 1) := by decide +kernel
theorem d8_8 : decode method_4_code 8 = .ok (.sipush 191, 3) := by decide +kernel
theorem d8_11 : decode method_4_code 11 = .ok (.if_icmp .gt 7, 3) := by decide +kernel
theorem d8_14 : decode method_4_code 14 = .ok (.iconst 1, 1) := by decide +kernel
theorem d8_15 : decode method_4_code 15 = .ok (.goto 4, 3) := by decide +kernel
theorem d8_18 : decode method_4_code 18 = .ok (.iconst 0, 1) := by decide +kernel
theorem d8_19 : decode method_4_code 19 = .ok (.ireturn, 1) := by decide +kernel
theorem ef_rm8 (m : MethodId) (p0 : Int32) : entryFrame m #[(.int p0)] 1 = mkF m 0 #[.val (.int p0)] [] := by first | (simp [entryFrame, mkF, argsToLocals, Value.category]; done) | rfl
def fCont (p0 : Int32) : Int32 := (if p0 < (128 : Int32) then (0 : Int32) else (if (191 : Int32) < p0 then (0 : Int32) else (1 : Int32)))
def Q_rm8 (Z : State) (p0 : Int32) (h0 : Heap) (n0 : Nat) (v : Option Value) (h : Heap) (L : List Loc) : Prop := v = some (.int (fCont p0)) ∧ Fr n0 L ∧ h = h0
set_option maxRecDepth 65536 in
set_option maxHeartbeats 40000000 in
theorem rm8 (l : Launch) (Z : State) (av0 : Array Value) (hw : ∀ d ∈ tables_1, d.before av0 Z = true) (ws : List Jvm.Cond) (p0 : Int32) (h0 : Heap) (n0 : Nat) (Z0 : n0 ≤ h0.size)  :
    MetFree l (⟨"com/example/fold3/fold3/input/Utf8CheckAcceptPinLaw", "cont", "(I)Z"⟩ : MethodName) (head1 (Jvm.Cond.code (⟨"com/example/fold3/fold3/input/Utf8CheckAcceptPinLaw", "cont", "(I)Z"⟩ : MethodName) method_4_code 1 (some .boolean) :: ws) ({ frames := 0, cells := 0, slots := 0, locals := 0 } : Room)) (fun a U => a = #[(.int p0)] ∧ Z.Warmed39 U.vm ∧ U.heap = h0) (fun _ _ _ _ _ => True) (fun _ U o U' => ∃ v L, o = .returned v ∧ Q_rm8 Z p0 h0 n0 v U'.heap L ∧ FrameEnd U o U' L ({ frames := 0, cells := 0, slots := 0, locals := 0 } : Room).cells ({ frames := 0, cells := 0, slots := 0, locals := 0 } : Room).slots) := by
  refine MetFree.of_bodySF (plainFor_of_name pn_1) hisR ?_
  intro p e s m args below meth c s₁ Bd hml0 hP hK
  obtain ⟨rfl, hZ, hh⟩ := hP
  have hx := Bd.exec
  have hby := Bd.bytes
  have hml : c.maxLocals = 1 := hml0
  have dd : ∀ {pc : Nat} {r : Except DecodeError (Instr × Nat)}, decode method_4_code pc = r → decode c.code pc = r := fun q => hb hby q
  have hown : s.vm.findClass "com/example/fold3/fold3/input/Utf8CheckAcceptPinLaw" = some m.cls := findClass_of_methodNamed Bd.named
  have hnm := (name_of_methodNamed Bd.named Bd.method).1
  have X0 : Stand p l e ({ frames := 0, cells := 0, slots := 0, locals := 0 } : Room) s m #[(.int p0)] below meth c s₁ [] 0 0 := Stand.of_body Bd
  have e0 : s₁.heap = h0 := by rw [← hh, Bd.state]; rfl
  have N0 := Fr.nil n0
  have hret := Bd.returns
  have hlk := Bd.notSynchronized
  show Gz p e below s ({ frames := 0, cells := 0, slots := 0, locals := 0 } : Room).cells ({ frames := 0, cells := 0, slots := 0, locals := 0 } : Room).slots (Q_rm8 Z p0 h0 n0) (s₁.setTop (entryFrame m #[(.int p0)] 1))
  refine Gz.enter (ef_rm8 m p0) ?_
  refine Gz.iloadN 1 X0 hx (dd d8_0) rfl rfl ?_
  refine Gz.sipush 4 (128 : Int32) X0 hx (dd d8_1) rfl rfl ?_
  by_cases hc1 : p0 < (128 : Int32)
  · refine Gz.icmpYes 18 X0 hx (dd d8_4) (tlt hc1).1 (by decide) (by decide) ?_
    refine Gz.iconst 19 (0 : Int32) X0 hx (dd d8_18) rfl rfl ?_
    refine Gz.fin X0 (v := some (.int (0 : Int32))) (fun h => by rw [hret] at h; cases h) hlk (by decide) (by decide) (fun fs hr => retN X0 hx (t := .boolean) hret (by simp) (dd d8_19) hr) ?_
    rw [e0]
    exact ⟨(by unfold fCont; rw [if_pos hc1]), N0, rfl⟩
  · refine Gz.icmpNo 7 X0 hx (dd d8_4) (flt hc1).1 rfl ?_
    refine Gz.iloadN 8 X0 hx (dd d8_7) rfl rfl ?_
    refine Gz.sipush 11 (191 : Int32) X0 hx (dd d8_8) rfl rfl ?_
    by_cases hc2 : (191 : Int32) < p0
    · refine Gz.icmpYes 18 X0 hx (dd d8_11) (tlt hc2).2.2.1 (by decide) (by decide) ?_
      refine Gz.iconst 19 (0 : Int32) X0 hx (dd d8_18) rfl rfl ?_
      refine Gz.fin X0 (v := some (.int (0 : Int32))) (fun h => by rw [hret] at h; cases h) hlk (by decide) (by decide) (fun fs hr => retN X0 hx (t := .boolean) hret (by simp) (dd d8_19) hr) ?_
      rw [e0]
      exact ⟨(by unfold fCont; rw [if_neg hc1, if_pos hc2]), N0, rfl⟩
    · refine Gz.icmpNo 14 X0 hx (dd d8_11) (flt hc2).2.2.1 rfl ?_
      refine Gz.iconst 15 (1 : Int32) X0 hx (dd d8_14) rfl rfl ?_
      refine Gz.goto 19 X0 hx (dd d8_15) (by decide) (by decide) ?_
      refine Gz.fin X0 (v := some (.int (1 : Int32))) (fun h => by rw [hret] at h; cases h) hlk (by decide) (by decide) (fun fs hr => retN X0 hx (t := .boolean) hret (by simp) (dd d8_19) hr) ?_
      rw [e0]
      exact ⟨(by unfold fCont; rw [if_neg hc1, if_neg hc2]), N0, rfl⟩
theorem pd_0 : parseMethodDescriptor "(I)I" = some ⟨[.int], some .int⟩ := by decide +kernel
theorem pd_1 : parseMethodDescriptor "(I)Z" = some ⟨[.int], some .boolean⟩ := by decide +kernel
theorem d4_0 : decode method_5_code 0 = .ok (.aload_n 0, 1) := by decide +kernel
theorem d4_1 : decode method_5_code 1 = .ok (.iload_n 1, 1) := by decide +kernel
theorem d4_2 : decode method_5_code 2 = .ok (.iaload, 1) := by decide +kernel
theorem d4_3 : decode method_5_code 3 = .ok (.istore_n 3, 1) := by decide +kernel
theorem d4_4 : decode method_5_code 4 = .ok (.iload_n 3, 1) := by decide +kernel
theorem d4_5 : decode method_5_code 5 = .ok (.invokestatic 17, 3) := by decide +kernel
theorem d4_8 : decode method_5_code 8 = .ok (.istore 4, 2) := by decide +kernel
theorem d4_10 : decode method_5_code 10 = .ok (.iload_n 2, 1) := by decide +kernel
theorem d4_11 : decode method_5_code 11 = .ok (.ifCond .ne 14, 3) := by decide +kernel
theorem d4_14 : decode method_5_code 14 = .ok (.iload 4, 2) := by decide +kernel
theorem d4_16 : decode method_5_code 16 = .ok (.ifCond .eq 7, 3) := by decide +kernel
theorem d4_19 : decode method_5_code 19 = .ok (.iconst 1, 1) := by decide +kernel
theorem d4_20 : decode method_5_code 20 = .ok (.goto 4, 3) := by decide +kernel
theorem d4_23 : decode method_5_code 23 = .ok (.iconst 0, 1) := by decide +kernel
theorem d4_24 : decode method_5_code 24 = .ok (.ireturn, 1) := by decide +kernel
theorem d4_25 : decode method_5_code 25 = .ok (.aload_n 0, 1) := by decide +kernel
theorem d4_26 : decode method_5_code 26 = .ok (.iload_n 1, 1) := by decide +kernel
theorem d4_27 : decode method_5_code 27 = .ok (.iload_n 2, 1) := by decide +kernel
theorem d4_28 : decode method_5_code 28 = .ok (.iadd, 1) := by decide +kernel
theorem d4_29 : decode method_5_code 29 = .ok (.iaload, 1) := by decide +kernel
theorem d4_30 : decode method_5_code 30 = .ok (.istore 5, 2) := by decide +kernel
theorem d4_32 : decode method_5_code 32 = .ok (.iload 5, 2) := by decide +kernel
theorem d4_34 : decode method_5_code 34 = .ok (.invokestatic 21, 3) := by decide +kernel
theorem d4_37 : decode method_5_code 37 = .ok (.ifCond .ne 5, 3) := by decide +kernel
theorem d4_40 : decode method_5_code 40 = .ok (.iconst 0, 1) := by decide +kernel
theorem d4_41 : decode method_5_code 41 = .ok (.ireturn, 1) := by decide +kernel
theorem d4_42 : decode method_5_code 42 = .ok (.iload_n 2, 1) := by decide +kernel
theorem d4_43 : decode method_5_code 43 = .ok (.iconst 1, 1) := by decide +kernel
theorem d4_44 : decode method_5_code 44 = .ok (.if_icmp .ne 55, 3) := by decide +kernel
theorem d4_47 : decode method_5_code 47 = .ok (.iload 4, 2) := by decide +kernel
theorem d4_49 : decode method_5_code 49 = .ok (.iconst 3, 1) := by decide +kernel
theorem d4_50 : decode method_5_code 50 = .ok (.if_icmp .ne 49, 3) := by decide +kernel
theorem d4_53 : decode method_5_code 53 = .ok (.iload_n 3, 1) := by decide +kernel
theorem d4_54 : decode method_5_code 54 = .ok (.bipush 15, 2) := by decide +kernel
theorem d4_56 : decode method_5_code 56 = .ok (.iand, 1) := by decide +kernel
theorem d4_57 : decode method_5_code 57 = .ok (.bipush 12, 2) := by decide +kernel
theorem d4_59 : decode method_5_code 59 = .ok (.ishl, 1) := by decide +kernel
theorem d4_60 : decode method_5_code 60 = .ok (.iload 5, 2) := by decide +kernel
theorem d4_62 : decode method_5_code 62 = .ok (.bipush 63, 2) := by decide +kernel
theorem d4_64 : decode method_5_code 64 = .ok (.iand, 1) := by decide +kernel
theorem d4_65 : decode method_5_code 65 = .ok (.bipush 6, 2) := by decide +kernel
theorem d4_67 : decode method_5_code 67 = .ok (.ishl, 1) := by decide +kernel
theorem d4_68 : decode method_5_code 68 = .ok (.ior, 1) := by decide +kernel
theorem d4_69 : decode method_5_code 69 = .ok (.istore 6, 2) := by decide +kernel
theorem d4_71 : decode method_5_code 71 = .ok (.iload 6, 2) := by decide +kernel
theorem d4_73 : decode method_5_code 73 = .ok (.sipush 2048, 3) := by decide +kernel
theorem d4_76 : decode method_5_code 76 = .ok (.if_icmp .lt 21, 3) := by decide +kernel
theorem d4_79 : decode method_5_code 79 = .ok (.iload 6, 2) := by decide +kernel
theorem d4_81 : decode method_5_code 81 = .ok (.ldc 25, 2) := by decide +kernel
theorem d4_83 : decode method_5_code 83 = .ok (.if_icmp .lt 10, 3) := by decide +kernel
theorem d4_86 : decode method_5_code 86 = .ok (.iload 6, 2) := by decide +kernel
theorem d4_88 : decode method_5_code 88 = .ok (.ldc 26, 2) := by decide +kernel
theorem d4_90 : decode method_5_code 90 = .ok (.if_icmp .le 7, 3) := by decide +kernel
theorem d4_93 : decode method_5_code 93 = .ok (.iconst 1, 1) := by decide +kernel
theorem d4_94 : decode method_5_code 94 = .ok (.goto 4, 3) := by decide +kernel
theorem d4_97 : decode method_5_code 97 = .ok (.iconst 0, 1) := by decide +kernel
theorem d4_98 : decode method_5_code 98 = .ok (.ireturn, 1) := by decide +kernel
theorem d4_99 : decode method_5_code 99 = .ok (.iload_n 2, 1) := by decide +kernel
theorem d4_100 : decode method_5_code 100 = .ok (.iconst 1, 1) := by decide +kernel
theorem d4_101 : decode method_5_code 101 = .ok (.if_icmp .ne 47, 3) := by decide +kernel
theorem d4_104 : decode method_5_code 104 = .ok (.iload 4, 2) := by decide +kernel
theorem d4_106 : decode method_5_code 106 = .ok (.iconst 4, 1) := by decide +kernel
theorem d4_107 : decode method_5_code 107 = .ok (.if_icmp .ne 41, 3) := by decide +kernel
theorem d4_110 : decode method_5_code 110 = .ok (.iload_n 3, 1) := by decide +kernel
theorem d4_111 : decode method_5_code 111 = .ok (.bipush 7, 2) := by decide +kernel
theorem d4_113 : decode method_5_code 113 = .ok (.iand, 1) := by decide +kernel
theorem d4_114 : decode method_5_code 114 = .ok (.bipush 18, 2) := by decide +kernel
theorem d4_116 : decode method_5_code 116 = .ok (.ishl, 1) := by decide +kernel
theorem d4_117 : decode method_5_code 117 = .ok (.iload 5, 2) := by decide +kernel
theorem d4_119 : decode method_5_code 119 = .ok (.bipush 63, 2) := by decide +kernel
theorem d4_121 : decode method_5_code 121 = .ok (.iand, 1) := by decide +kernel
theorem d4_122 : decode method_5_code 122 = .ok (.bipush 12, 2) := by decide +kernel
theorem d4_124 : decode method_5_code 124 = .ok (.ishl, 1) := by decide +kernel
theorem d4_125 : decode method_5_code 125 = .ok (.ior, 1) := by decide +kernel
theorem d4_126 : decode method_5_code 126 = .ok (.istore 6, 2) := by decide +kernel
theorem d4_128 : decode method_5_code 128 = .ok (.iload 6, 2) := by decide +kernel
theorem d4_130 : decode method_5_code 130 = .ok (.ldc 27, 2) := by decide +kernel
theorem d4_132 : decode method_5_code 132 = .ok (.if_icmp .lt 14, 3) := by decide +kernel
theorem d4_135 : decode method_5_code 135 = .ok (.iload 6, 2) := by decide +kernel
theorem d4_137 : decode method_5_code 137 = .ok (.ldc 16, 2) := by decide +kernel
theorem d4_139 : decode method_5_code 139 = .ok (.if_icmp .gt 7, 3) := by decide +kernel
theorem d4_142 : decode method_5_code 142 = .ok (.iconst 1, 1) := by decide +kernel
theorem d4_143 : decode method_5_code 143 = .ok (.goto 4, 3) := by decide +kernel
theorem d4_146 : decode method_5_code 146 = .ok (.iconst 0, 1) := by decide +kernel
theorem d4_147 : decode method_5_code 147 = .ok (.ireturn, 1) := by decide +kernel
theorem d4_148 : decode method_5_code 148 = .ok (.iconst 1, 1) := by decide +kernel
theorem d4_149 : decode method_5_code 149 = .ok (.ireturn, 1) := by decide +kernel
theorem ef_rm4 (m : MethodId) (a0 : Addr) (p1 : Int32) (p2 : Int32) : entryFrame m #[(.ref a0), (.int p1), (.int p2)] 7 = mkF m 0 #[.val (.ref a0), .val (.int p1), .val (.int p2), .unset, .unset, .unset, .unset] [] := by first | (simp [entryFrame, mkF, argsToLocals, Value.category]; done) | rfl
def fVal (a0 : Addr) (p1 : Int32) (p2 : Int32) (ld : Int32) (vv : Int32) : Int32 := (if p2 = (0 : Int32) then (if (fLen ld) = (0 : Int32) then (0 : Int32) else (1 : Int32)) else (if (fCont vv) = (0 : Int32) then (0 : Int32) else (if p2 = (1 : Int32) then (if (fLen ld) = (3 : Int32) then (if (((ld &&& (15 : Int32)) <<< ((12 : Int32) &&& 31)) ||| ((vv &&& (63 : Int32)) <<< ((6 : Int32) &&& 31))) < (2048 : Int32) then (0 : Int32) else (if (((ld &&& (15 : Int32)) <<< ((12 : Int32) &&& 31)) ||| ((vv &&& (63 : Int32)) <<< ((6 : Int32) &&& 31))) < (55296 : Int32) then (1 : Int32) else (if (57343 : Int32) < (((ld &&& (15 : Int32)) <<< ((12 : Int32) &&& 31)) ||| ((vv &&& (63 : Int32)) <<< ((6 : Int32) &&& 31))) then (1 : Int32) else (0 : Int32)))) else (if (fLen ld) = (4 : Int32) then (if (((ld &&& (7 : Int32)) <<< ((18 : Int32) &&& 31)) ||| ((vv &&& (63 : Int32)) <<< ((12 : Int32) &&& 31))) < (65536 : Int32) then (0 : Int32) else (if (1114111 : Int32) < (((ld &&& (7 : Int32)) <<< ((18 : Int32) &&& 31)) ||| ((vv &&& (63 : Int32)) <<< ((12 : Int32) &&& 31))) then (0 : Int32) else (1 : Int32))) else (1 : Int32))) else (1 : Int32))))
def Q_rm4 (Z : State) (a0 : Addr) (p1 : Int32) (p2 : Int32) (cl_a0 : Cell) (ld : Int32) (vv : Int32) (h0 : Heap) (n0 : Nat) (v : Option Value) (h : Heap) (L : List Loc) : Prop := v = some (.int (fVal a0 p1 p2 ld vv)) ∧ Fr n0 L ∧ h = h0
set_option maxRecDepth 65536 in
set_option maxHeartbeats 40000000 in
theorem rm4 (l : Launch) (Z : State) (av0 : Array Value) (hw : ∀ d ∈ tables_1, d.before av0 Z = true) (ws : List Jvm.Cond) (a0 : Addr) (p1 : Int32) (p2 : Int32) (cl_a0 : Cell) (ld : Int32) (vv : Int32) (h0 : Heap) (n0 : Nat) (Z0 : n0 ≤ h0.size) (Ar_a0 : Arr Z h0 a0 cl_a0 .int) (hin_a0_1 : ¬ (p1 < 0 ∨ cl_a0.slots.size ≤ (p1).toNatClampNeg)) (hat_a0_1 : cl_a0.slots[(p1).toNatClampNeg]? = some (.int ld)) (hin_a0_3 : ¬ ((p1 + p2) < 0 ∨ cl_a0.slots.size ≤ ((p1 + p2)).toNatClampNeg)) (hat_a0_3 : cl_a0.slots[((p1 + p2)).toNatClampNeg]? = some (.int vv)) :
    MetFree l (⟨"com/example/fold3/fold3/input/Utf8CheckAcceptPinLaw", "valid", "([III)Z"⟩ : MethodName) (head1 (Jvm.Cond.code (⟨"com/example/fold3/fold3/input/Utf8CheckAcceptPinLaw", "valid", "([III)Z"⟩ : MethodName) method_5_code 7 (some .boolean) :: ws) ({ frames := 1, cells := 0, slots := 0, locals := 12 } : Room)) (fun a U => a = #[(.ref a0), (.int p1), (.int p2)] ∧ Z.Warmed39 U.vm ∧ U.heap = h0) (fun _ _ _ _ _ => True) (fun _ U o U' => ∃ v L, o = .returned v ∧ Q_rm4 Z a0 p1 p2 cl_a0 ld vv h0 n0 v U'.heap L ∧ FrameEnd U o U' L ({ frames := 1, cells := 0, slots := 0, locals := 12 } : Room).cells ({ frames := 1, cells := 0, slots := 0, locals := 12 } : Room).slots) := by
  refine MetFree.of_bodySF (plainFor_of_name pn_1) hisR ?_
  intro p e s m args below meth c s₁ Bd hml0 hP hK
  obtain ⟨rfl, hZ, hh⟩ := hP
  have hx := Bd.exec
  have hby := Bd.bytes
  have hml : c.maxLocals = 7 := hml0
  have dd : ∀ {pc : Nat} {r : Except DecodeError (Instr × Nat)}, decode method_5_code pc = r → decode c.code pc = r := fun q => hb hby q
  have hown : s.vm.findClass "com/example/fold3/fold3/input/Utf8CheckAcceptPinLaw" = some m.cls := findClass_of_methodNamed Bd.named
  have hnm := (name_of_methodNamed Bd.named Bd.method).1
  have X0 : Stand p l e ({ frames := 1, cells := 0, slots := 0, locals := 12 } : Room) s m #[(.ref a0), (.int p1), (.int p2)] below meth c s₁ [] 0 0 := Stand.of_body Bd
  have e0 : s₁.heap = h0 := by rw [← hh, Bd.state]; rfl
  have N0 := Fr.nil n0
  have hret := Bd.returns
  have hlk := Bd.notSynchronized
  show Gz p e below s ({ frames := 1, cells := 0, slots := 0, locals := 12 } : Room).cells ({ frames := 1, cells := 0, slots := 0, locals := 12 } : Room).slots (Q_rm4 Z a0 p1 p2 cl_a0 ld vv h0 n0) (s₁.setTop (entryFrame m #[(.ref a0), (.int p1), (.int p2)] 7))
  refine Gz.enter (ef_rm4 m a0 p1 p2) ?_
  refine Gz.aloadN 1 X0 hx (dd d4_0) rfl rfl rfl ?_
  refine Gz.iloadN 2 X0 hx (dd d4_1) rfl rfl ?_
  refine Gz.ldI 3 X0 hx hZ (dd d4_2) e0 Ar_a0 hin_a0_1 hat_a0_1 rfl ?_
  refine Gz.istoreN 4 #[.val (.ref a0), .val (.int p1), .val (.int p2), .val (.int ld), .unset, .unset, .unset] X0 hx (dd d4_3) rfl rfl ?_
  refine Gz.iloadN 5 X0 hx (dd d4_4) rfl rfl ?_
  obtain ⟨_, _, ⟨T1, L1, k1, n1⟩, -, X1, ⟨Lc1, hQ1, l1, y1, z1⟩, st1⟩ := Jvm.LawKit.callS X0 hx (y := (⟨"com/example/fold3/fold3/input/Utf8CheckAcceptPinLaw", "len", "(I)I"⟩ : MethodName)) hown (mvT hZ (ww hw 17 rfl)) (mvT hZ (ww hw 18 rfl)) (mvT hZ (ww hw 12 rfl)) (mvT hZ (ww hw 19 rfl)) (by decide) (backOf (W := 0) (rm5 l Z av0 hw [] ld  h0 n0 Z0 ) hZ (ww hw 19 rfl) (ww hw 12 rfl) (by decide) (by decide)) (g := (mkF m 5 #[.val (.ref a0), .val (.int p1), .val (.int p2), .val (.int ld), .unset, .unset, .unset] [(.int ld)])) rfl (by rw [hml]; rfl) (argsL := [(.int ld)]) (rest := []) (lenOf pd_0 rfl) rfl (by show 2 * 0 + _ ≤ _; exact Nat.le_of_eq rfl) (dd d4_5) (fun _ _ => ⟨rfl, e0, (by decide : 0 + 0 ≤ _), (by decide : 0 + 0 ≤ _)⟩)
  dsimp only [Pt.U, Pt.locs, Pt.cells, Pt.slots, Q_rm5] at X1 l1 y1 z1 st1 hQ1
  subst l1 y1 z1
  obtain ⟨rfl, N1q, e1⟩ := hQ1
  have N1 := Fr.app N0 N1q
  refine Gz.st st1 ?_
  refine Gz.istore 10 #[.val (.ref a0), .val (.int p1), .val (.int p2), .val (.int ld), .val (.int (fLen ld)), .unset, .unset] X1 hx (dd d4_8) rfl rfl ?_
  refine Gz.iloadN 11 X1 hx (dd d4_10) rfl rfl ?_
  by_cases hc2 : p2 = (0 : Int32)
  · refine Gz.ifNo 14 X1 hx (dd d4_11) ((if0 _ _).trans (teq hc2).2) rfl ?_
    refine Gz.iload 16 X1 hx (dd d4_14) rfl rfl ?_
    by_cases hc3 : (fLen ld) = (0 : Int32)
    · refine Gz.ifYes 23 X1 hx (dd d4_16) ((if0 _ _).trans (teq hc3).1) (by decide) (by decide) ?_
      refine Gz.iconst 24 (0 : Int32) X1 hx (dd d4_23) rfl rfl ?_
      refine Gz.fin X1 (v := some (.int (0 : Int32))) (fun h => by rw [hret] at h; cases h) hlk (by decide) (by decide) (fun fs hr => retN X1 hx (t := .boolean) hret (by simp) (dd d4_24) hr) ?_
      rw [e1]
      exact ⟨(by unfold fVal; rw [if_pos hc2, if_pos hc3]), N1, rfl⟩
    · refine Gz.ifNo 19 X1 hx (dd d4_16) ((if0 _ _).trans (feq hc3).1) rfl ?_
      refine Gz.iconst 20 (1 : Int32) X1 hx (dd d4_19) rfl rfl ?_
      refine Gz.goto 24 X1 hx (dd d4_20) (by decide) (by decide) ?_
      refine Gz.fin X1 (v := some (.int (1 : Int32))) (fun h => by rw [hret] at h; cases h) hlk (by decide) (by decide) (fun fs hr => retN X1 hx (t := .boolean) hret (by simp) (dd d4_24) hr) ?_
      rw [e1]
      exact ⟨(by unfold fVal; rw [if_pos hc2, if_neg hc3]), N1, rfl⟩
  · refine Gz.ifYes 25 X1 hx (dd d4_11) ((if0 _ _).trans (feq hc2).2) (by decide) (by decide) ?_
    refine Gz.aloadN 26 X1 hx (dd d4_25) rfl rfl rfl ?_
    refine Gz.iloadN 27 X1 hx (dd d4_26) rfl rfl ?_
    refine Gz.iloadN 28 X1 hx (dd d4_27) rfl rfl ?_
    refine Gz.iadd 29 X1 hx (dd d4_28) rfl ?_
    refine Gz.ldI 30 X1 hx hZ (dd d4_29) e1 Ar_a0 hin_a0_3 hat_a0_3 rfl ?_
    refine Gz.istore 32 #[.val (.ref a0), .val (.int p1), .val (.int p2), .val (.int ld), .val (.int (fLen ld)), .val (.int vv), .unset] X1 hx (dd d4_30) rfl rfl ?_
    refine Gz.iload 34 X1 hx (dd d4_32) rfl rfl ?_
    obtain ⟨_, _, ⟨T4, L4, k4, n4⟩, -, X4, ⟨Lc4, hQ4, l4, y4, z4⟩, st4⟩ := Jvm.LawKit.callS X1 hx (y := (⟨"com/example/fold3/fold3/input/Utf8CheckAcceptPinLaw", "cont", "(I)Z"⟩ : MethodName)) hown (mvT hZ (ww hw 36 rfl)) (mvT hZ (ww hw 37 rfl)) (mvT hZ (ww hw 12 rfl)) (mvT hZ (ww hw 38 rfl)) (by decide) (backOf (W := 0) (rm8 l Z av0 hw [] vv  h0 n0 Z0 ) hZ (ww hw 38 rfl) (ww hw 12 rfl) (by decide) (by decide)) (g := (mkF m 34 #[.val (.ref a0), .val (.int p1), .val (.int p2), .val (.int ld), .val (.int (fLen ld)), .val (.int vv), .unset] [(.int vv)])) rfl (by rw [hml]; rfl) (argsL := [(.int vv)]) (rest := []) (lenOf pd_1 rfl) rfl (by show 2 * 0 + _ ≤ _; exact Nat.le_of_eq rfl) (dd d4_34) (fun _ _ => ⟨rfl, e1, (by decide : 0 + 0 ≤ _), (by decide : 0 + 0 ≤ _)⟩)
    dsimp only [Pt.U, Pt.locs, Pt.cells, Pt.slots, Q_rm8] at X4 l4 y4 z4 st4 hQ4
    subst l4 y4 z4
    obtain ⟨rfl, N4q, e4⟩ := hQ4
    have N4 := Fr.app N1 N4q
    refine Gz.st st4 ?_
    by_cases hc5 : (fCont vv) = (0 : Int32)
    · refine Gz.ifNo 40 X4 hx (dd d4_37) ((if0 _ _).trans (teq hc5).2) rfl ?_
      refine Gz.iconst 41 (0 : Int32) X4 hx (dd d4_40) rfl rfl ?_
      refine Gz.fin X4 (v := some (.int (0 : Int32))) (fun h => by rw [hret] at h; cases h) hlk (by decide) (by decide) (fun fs hr => retN X4 hx (t := .boolean) hret (by simp) (dd d4_41) hr) ?_
      rw [e4]
      exact ⟨(by unfold fVal; rw [if_neg hc2, if_pos hc5]), N4, rfl⟩
    · refine Gz.ifYes 42 X4 hx (dd d4_37) ((if0 _ _).trans (feq hc5).2) (by decide) (by decide) ?_
      refine Gz.iloadN 43 X4 hx (dd d4_42) rfl rfl ?_
      refine Gz.iconst 44 (1 : Int32) X4 hx (dd d4_43) rfl rfl ?_
      by_cases hc6 : p2 = (1 : Int32)
      · refine Gz.icmpNo 47 X4 hx (dd d4_44) (teq hc6).2 rfl ?_
        refine Gz.iload 49 X4 hx (dd d4_47) rfl rfl ?_
        refine Gz.iconst 50 (3 : Int32) X4 hx (dd d4_49) rfl rfl ?_
        by_cases hc7 : (fLen ld) = (3 : Int32)
        · refine Gz.icmpNo 53 X4 hx (dd d4_50) (teq hc7).2 rfl ?_
          refine Gz.iloadN 54 X4 hx (dd d4_53) rfl rfl ?_
          refine Gz.bipush 56 (15 : Int32) X4 hx (dd d4_54) rfl rfl ?_
          refine Gz.iand 57 X4 hx (dd d4_56) rfl ?_
          refine Gz.bipush 59 (12 : Int32) X4 hx (dd d4_57) rfl rfl ?_
          refine Gz.ishl 60 X4 hx (dd d4_59) rfl ?_
          refine Gz.iload 62 X4 hx (dd d4_60) rfl rfl ?_
          refine Gz.bipush 64 (63 : Int32) X4 hx (dd d4_62) rfl rfl ?_
          refine Gz.iand 65 X4 hx (dd d4_64) rfl ?_
          refine Gz.bipush 67 (6 : Int32) X4 hx (dd d4_65) rfl rfl ?_
          refine Gz.ishl 68 X4 hx (dd d4_67) rfl ?_
          refine Gz.ior 69 X4 hx (dd d4_68) rfl ?_
          refine Gz.istore 71 #[.val (.ref a0), .val (.int p1), .val (.int p2), .val (.int ld), .val (.int (fLen ld)), .val (.int vv), .val (.int (((ld &&& (15 : Int32)) <<< ((12 : Int32) &&& 31)) ||| ((vv &&& (63 : Int32)) <<< ((6 : Int32) &&& 31))))] X4 hx (dd d4_69) rfl rfl ?_
          refine Gz.iload 73 X4 hx (dd d4_71) rfl rfl ?_
          refine Gz.sipush 76 (2048 : Int32) X4 hx (dd d4_73) rfl rfl ?_
          by_cases hc8 : (((ld &&& (15 : Int32)) <<< ((12 : Int32) &&& 31)) ||| ((vv &&& (63 : Int32)) <<< ((6 : Int32) &&& 31))) < (2048 : Int32)
          · refine Gz.icmpYes 97 X4 hx (dd d4_76) (tlt hc8).1 (by decide) (by decide) ?_
            refine Gz.iconst 98 (0 : Int32) X4 hx (dd d4_97) rfl rfl ?_
            refine Gz.fin X4 (v := some (.int (0 : Int32))) (fun h => by rw [hret] at h; cases h) hlk (by decide) (by decide) (fun fs hr => retN X4 hx (t := .boolean) hret (by simp) (dd d4_98) hr) ?_
            rw [e4]
            exact ⟨(by unfold fVal; rw [if_neg hc2, if_neg hc5, if_pos hc6, if_pos hc7, if_pos hc8]), N4, rfl⟩
          · refine Gz.icmpNo 79 X4 hx (dd d4_76) (flt hc8).1 rfl ?_
            refine Gz.iload 81 X4 hx (dd d4_79) rfl rfl ?_
            refine Gz.ldcI 83 X4 hx (dd d4_81) hown (mvT hZ (ww hw 41 rfl)) rfl ?_
            by_cases hc9 : (((ld &&& (15 : Int32)) <<< ((12 : Int32) &&& 31)) ||| ((vv &&& (63 : Int32)) <<< ((6 : Int32) &&& 31))) < (55296 : Int32)
            · refine Gz.icmpYes 93 X4 hx (dd d4_83) (tlt hc9).1 (by decide) (by decide) ?_
              refine Gz.iconst 94 (1 : Int32) X4 hx (dd d4_93) rfl rfl ?_
              refine Gz.goto 98 X4 hx (dd d4_94) (by decide) (by decide) ?_
              refine Gz.fin X4 (v := some (.int (1 : Int32))) (fun h => by rw [hret] at h; cases h) hlk (by decide) (by decide) (fun fs hr => retN X4 hx (t := .boolean) hret (by simp) (dd d4_98) hr) ?_
              rw [e4]
              exact ⟨(by unfold fVal; rw [if_neg hc2, if_neg hc5, if_pos hc6, if_pos hc7, if_neg hc8, if_pos hc9]), N4, rfl⟩
            · refine Gz.icmpNo 86 X4 hx (dd d4_83) (flt hc9).1 rfl ?_
              refine Gz.iload 88 X4 hx (dd d4_86) rfl rfl ?_
              refine Gz.ldcI 90 X4 hx (dd d4_88) hown (mvT hZ (ww hw 42 rfl)) rfl ?_
              by_cases hc10 : (57343 : Int32) < (((ld &&& (15 : Int32)) <<< ((12 : Int32) &&& 31)) ||| ((vv &&& (63 : Int32)) <<< ((6 : Int32) &&& 31)))
              · refine Gz.icmpNo 93 X4 hx (dd d4_90) (tlt hc10).2.2.2 rfl ?_
                refine Gz.iconst 94 (1 : Int32) X4 hx (dd d4_93) rfl rfl ?_
                refine Gz.goto 98 X4 hx (dd d4_94) (by decide) (by decide) ?_
                refine Gz.fin X4 (v := some (.int (1 : Int32))) (fun h => by rw [hret] at h; cases h) hlk (by decide) (by decide) (fun fs hr => retN X4 hx (t := .boolean) hret (by simp) (dd d4_98) hr) ?_
                rw [e4]
                exact ⟨(by unfold fVal; rw [if_neg hc2, if_neg hc5, if_pos hc6, if_pos hc7, if_neg hc8, if_neg hc9, if_pos hc10]), N4, rfl⟩
              · refine Gz.icmpYes 97 X4 hx (dd d4_90) (flt hc10).2.2.2 (by decide) (by decide) ?_
                refine Gz.iconst 98 (0 : Int32) X4 hx (dd d4_97) rfl rfl ?_
                refine Gz.fin X4 (v := some (.int (0 : Int32))) (fun h => by rw [hret] at h; cases h) hlk (by decide) (by decide) (fun fs hr => retN X4 hx (t := .boolean) hret (by simp) (dd d4_98) hr) ?_
                rw [e4]
                exact ⟨(by unfold fVal; rw [if_neg hc2, if_neg hc5, if_pos hc6, if_pos hc7, if_neg hc8, if_neg hc9, if_neg hc10]), N4, rfl⟩
        · refine Gz.icmpYes 99 X4 hx (dd d4_50) (feq hc7).2 (by decide) (by decide) ?_
          refine Gz.iloadN 100 X4 hx (dd d4_99) rfl rfl ?_
          refine Gz.iconst 101 (1 : Int32) X4 hx (dd d4_100) rfl rfl ?_
          refine Gz.icmpNo 104 X4 hx (dd d4_101) (teq hc6).2 rfl ?_
          refine Gz.iload 106 X4 hx (dd d4_104) rfl rfl ?_
          refine Gz.iconst 107 (4 : Int32) X4 hx (dd d4_106) rfl rfl ?_
          by_cases hc11 : (fLen ld) = (4 : Int32)
          · refine Gz.icmpNo 110 X4 hx (dd d4_107) (teq hc11).2 rfl ?_
            refine Gz.iloadN 111 X4 hx (dd d4_110) rfl rfl ?_
            refine Gz.bipush 113 (7 : Int32) X4 hx (dd d4_111) rfl rfl ?_
            refine Gz.iand 114 X4 hx (dd d4_113) rfl ?_
            refine Gz.bipush 116 (18 : Int32) X4 hx (dd d4_114) rfl rfl ?_
            refine Gz.ishl 117 X4 hx (dd d4_116) rfl ?_
            refine Gz.iload 119 X4 hx (dd d4_117) rfl rfl ?_
            refine Gz.bipush 121 (63 : Int32) X4 hx (dd d4_119) rfl rfl ?_
            refine Gz.iand 122 X4 hx (dd d4_121) rfl ?_
            refine Gz.bipush 124 (12 : Int32) X4 hx (dd d4_122) rfl rfl ?_
            refine Gz.ishl 125 X4 hx (dd d4_124) rfl ?_
            refine Gz.ior 126 X4 hx (dd d4_125) rfl ?_
            refine Gz.istore 128 #[.val (.ref a0), .val (.int p1), .val (.int p2), .val (.int ld), .val (.int (fLen ld)), .val (.int vv), .val (.int (((ld &&& (7 : Int32)) <<< ((18 : Int32) &&& 31)) ||| ((vv &&& (63 : Int32)) <<< ((12 : Int32) &&& 31))))] X4 hx (dd d4_126) rfl rfl ?_
            refine Gz.iload 130 X4 hx (dd d4_128) rfl rfl ?_
            refine Gz.ldcI 132 X4 hx (dd d4_130) hown (mvT hZ (ww hw 40 rfl)) rfl ?_
            by_cases hc12 : (((ld &&& (7 : Int32)) <<< ((18 : Int32) &&& 31)) ||| ((vv &&& (63 : Int32)) <<< ((12 : Int32) &&& 31))) < (65536 : Int32)
            · refine Gz.icmpYes 146 X4 hx (dd d4_132) (tlt hc12).1 (by decide) (by decide) ?_
              refine Gz.iconst 147 (0 : Int32) X4 hx (dd d4_146) rfl rfl ?_
              refine Gz.fin X4 (v := some (.int (0 : Int32))) (fun h => by rw [hret] at h; cases h) hlk (by decide) (by decide) (fun fs hr => retN X4 hx (t := .boolean) hret (by simp) (dd d4_147) hr) ?_
              rw [e4]
              exact ⟨(by unfold fVal; rw [if_neg hc2, if_neg hc5, if_pos hc6, if_neg hc7, if_pos hc11, if_pos hc12]), N4, rfl⟩
            · refine Gz.icmpNo 135 X4 hx (dd d4_132) (flt hc12).1 rfl ?_
              refine Gz.iload 137 X4 hx (dd d4_135) rfl rfl ?_
              refine Gz.ldcI 139 X4 hx (dd d4_137) hown (mvT hZ (ww hw 39 rfl)) rfl ?_
              by_cases hc13 : (1114111 : Int32) < (((ld &&& (7 : Int32)) <<< ((18 : Int32) &&& 31)) ||| ((vv &&& (63 : Int32)) <<< ((12 : Int32) &&& 31)))
              · refine Gz.icmpYes 146 X4 hx (dd d4_139) (tlt hc13).2.2.1 (by decide) (by decide) ?_
                refine Gz.iconst 147 (0 : Int32) X4 hx (dd d4_146) rfl rfl ?_
                refine Gz.fin X4 (v := some (.int (0 : Int32))) (fun h => by rw [hret] at h; cases h) hlk (by decide) (by decide) (fun fs hr => retN X4 hx (t := .boolean) hret (by simp) (dd d4_147) hr) ?_
                rw [e4]
                exact ⟨(by unfold fVal; rw [if_neg hc2, if_neg hc5, if_pos hc6, if_neg hc7, if_pos hc11, if_neg hc12, if_pos hc13]), N4, rfl⟩
              · refine Gz.icmpNo 142 X4 hx (dd d4_139) (flt hc13).2.2.1 rfl ?_
                refine Gz.iconst 143 (1 : Int32) X4 hx (dd d4_142) rfl rfl ?_
                refine Gz.goto 147 X4 hx (dd d4_143) (by decide) (by decide) ?_
                refine Gz.fin X4 (v := some (.int (1 : Int32))) (fun h => by rw [hret] at h; cases h) hlk (by decide) (by decide) (fun fs hr => retN X4 hx (t := .boolean) hret (by simp) (dd d4_147) hr) ?_
                rw [e4]
                exact ⟨(by unfold fVal; rw [if_neg hc2, if_neg hc5, if_pos hc6, if_neg hc7, if_pos hc11, if_neg hc12, if_neg hc13]), N4, rfl⟩
          · refine Gz.icmpYes 148 X4 hx (dd d4_107) (feq hc11).2 (by decide) (by decide) ?_
            refine Gz.iconst 149 (1 : Int32) X4 hx (dd d4_148) rfl rfl ?_
            refine Gz.fin X4 (v := some (.int (1 : Int32))) (fun h => by rw [hret] at h; cases h) hlk (by decide) (by decide) (fun fs hr => retN X4 hx (t := .boolean) hret (by simp) (dd d4_149) hr) ?_
            rw [e4]
            exact ⟨(by unfold fVal; rw [if_neg hc2, if_neg hc5, if_pos hc6, if_neg hc7, if_neg hc11]), N4, rfl⟩
      · refine Gz.icmpYes 99 X4 hx (dd d4_44) (feq hc6).2 (by decide) (by decide) ?_
        refine Gz.iloadN 100 X4 hx (dd d4_99) rfl rfl ?_
        refine Gz.iconst 101 (1 : Int32) X4 hx (dd d4_100) rfl rfl ?_
        refine Gz.icmpYes 148 X4 hx (dd d4_101) (feq hc6).2 (by decide) (by decide) ?_
        refine Gz.iconst 149 (1 : Int32) X4 hx (dd d4_148) rfl rfl ?_
        refine Gz.fin X4 (v := some (.int (1 : Int32))) (fun h => by rw [hret] at h; cases h) hlk (by decide) (by decide) (fun fs hr => retN X4 hx (t := .boolean) hret (by simp) (dd d4_149) hr) ?_
        rw [e4]
        exact ⟨(by unfold fVal; rw [if_neg hc2, if_neg hc5, if_neg hc6]), N4, rfl⟩
theorem d6_0 : decode prog_23_method_3_code 0 = .ok (.iconst 1, 1) := by decide +kernel
theorem d6_1 : decode prog_23_method_3_code 1 = .ok (.istore_n 2, 1) := by decide +kernel
theorem d6_2 : decode prog_23_method_3_code 2 = .ok (.aload_n 0, 1) := by decide +kernel
theorem d6_3 : decode prog_23_method_3_code 3 = .ok (.getfield 18, 3) := by decide +kernel
theorem d6_6 : decode prog_23_method_3_code 6 = .ok (.ifCond .le 52, 3) := by decide +kernel
theorem d6_9 : decode prog_23_method_3_code 9 = .ok (.iload_n 1, 1) := by decide +kernel
theorem d6_10 : decode prog_23_method_3_code 10 = .ok (.aload_n 0, 1) := by decide +kernel
theorem d6_11 : decode prog_23_method_3_code 11 = .ok (.getfield 22, 3) := by decide +kernel
theorem d6_14 : decode prog_23_method_3_code 14 = .ok (.if_icmp .lt 15, 3) := by decide +kernel
theorem d6_17 : decode prog_23_method_3_code 17 = .ok (.iload_n 1, 1) := by decide +kernel
theorem d6_18 : decode prog_23_method_3_code 18 = .ok (.aload_n 0, 1) := by decide +kernel
theorem d6_19 : decode prog_23_method_3_code 19 = .ok (.getfield 25, 3) := by decide +kernel
theorem d6_22 : decode prog_23_method_3_code 22 = .ok (.if_icmp .gt 7, 3) := by decide +kernel
theorem d6_25 : decode prog_23_method_3_code 25 = .ok (.iconst 1, 1) := by decide +kernel
theorem d6_26 : decode prog_23_method_3_code 26 = .ok (.goto 4, 3) := by decide +kernel
theorem d6_29 : decode prog_23_method_3_code 29 = .ok (.iconst 0, 1) := by decide +kernel
theorem d6_30 : decode prog_23_method_3_code 30 = .ok (.istore_n 2, 1) := by decide +kernel
theorem d6_31 : decode prog_23_method_3_code 31 = .ok (.aload_n 0, 1) := by decide +kernel
theorem d6_32 : decode prog_23_method_3_code 32 = .ok (.dup, 1) := by decide +kernel
theorem d6_33 : decode prog_23_method_3_code 33 = .ok (.getfield 18, 3) := by decide +kernel
theorem d6_36 : decode prog_23_method_3_code 36 = .ok (.iconst 1, 1) := by decide +kernel
theorem d6_37 : decode prog_23_method_3_code 37 = .ok (.isub, 1) := by decide +kernel
theorem d6_38 : decode prog_23_method_3_code 38 = .ok (.putfield 18, 3) := by decide +kernel
theorem d6_41 : decode prog_23_method_3_code 41 = .ok (.aload_n 0, 1) := by decide +kernel
theorem d6_42 : decode prog_23_method_3_code 42 = .ok (.sipush 128, 3) := by decide +kernel
theorem d6_45 : decode prog_23_method_3_code 45 = .ok (.putfield 22, 3) := by decide +kernel
theorem d6_48 : decode prog_23_method_3_code 48 = .ok (.aload_n 0, 1) := by decide +kernel
theorem d6_49 : decode prog_23_method_3_code 49 = .ok (.sipush 191, 3) := by decide +kernel
theorem d6_52 : decode prog_23_method_3_code 52 = .ok (.putfield 25, 3) := by decide +kernel
theorem d6_55 : decode prog_23_method_3_code 55 = .ok (.goto 172, 3) := by decide +kernel
theorem d6_58 : decode prog_23_method_3_code 58 = .ok (.iload_n 1, 1) := by decide +kernel
theorem d6_59 : decode prog_23_method_3_code 59 = .ok (.sipush 194, 3) := by decide +kernel
theorem d6_62 : decode prog_23_method_3_code 62 = .ok (.if_icmp .lt 32, 3) := by decide +kernel
theorem d6_65 : decode prog_23_method_3_code 65 = .ok (.iload_n 1, 1) := by decide +kernel
theorem d6_66 : decode prog_23_method_3_code 66 = .ok (.sipush 223, 3) := by decide +kernel
theorem d6_69 : decode prog_23_method_3_code 69 = .ok (.if_icmp .gt 25, 3) := by decide +kernel
theorem d6_72 : decode prog_23_method_3_code 72 = .ok (.aload_n 0, 1) := by decide +kernel
theorem d6_73 : decode prog_23_method_3_code 73 = .ok (.iconst 1, 1) := by decide +kernel
theorem d6_74 : decode prog_23_method_3_code 74 = .ok (.putfield 18, 3) := by decide +kernel
theorem d6_77 : decode prog_23_method_3_code 77 = .ok (.aload_n 0, 1) := by decide +kernel
theorem d6_78 : decode prog_23_method_3_code 78 = .ok (.sipush 128, 3) := by decide +kernel
theorem d6_81 : decode prog_23_method_3_code 81 = .ok (.putfield 22, 3) := by decide +kernel
theorem d6_84 : decode prog_23_method_3_code 84 = .ok (.aload_n 0, 1) := by decide +kernel
theorem d6_85 : decode prog_23_method_3_code 85 = .ok (.sipush 191, 3) := by decide +kernel
theorem d6_88 : decode prog_23_method_3_code 88 = .ok (.putfield 25, 3) := by decide +kernel
theorem d6_91 : decode prog_23_method_3_code 91 = .ok (.goto 136, 3) := by decide +kernel
theorem d6_94 : decode prog_23_method_3_code 94 = .ok (.iload_n 1, 1) := by decide +kernel
theorem d6_95 : decode prog_23_method_3_code 95 = .ok (.sipush 224, 3) := by decide +kernel
theorem d6_98 : decode prog_23_method_3_code 98 = .ok (.if_icmp .lt 58, 3) := by decide +kernel
theorem d6_101 : decode prog_23_method_3_code 101 = .ok (.iload_n 1, 1) := by decide +kernel
theorem d6_102 : decode prog_23_method_3_code 102 = .ok (.sipush 239, 3) := by decide +kernel
theorem d6_105 : decode prog_23_method_3_code 105 = .ok (.if_icmp .gt 51, 3) := by decide +kernel
theorem d6_108 : decode prog_23_method_3_code 108 = .ok (.aload_n 0, 1) := by decide +kernel
theorem d6_109 : decode prog_23_method_3_code 109 = .ok (.iconst 2, 1) := by decide +kernel
theorem d6_110 : decode prog_23_method_3_code 110 = .ok (.putfield 18, 3) := by decide +kernel
theorem d6_113 : decode prog_23_method_3_code 113 = .ok (.aload_n 0, 1) := by decide +kernel
theorem d6_114 : decode prog_23_method_3_code 114 = .ok (.iload_n 1, 1) := by decide +kernel
theorem d6_115 : decode prog_23_method_3_code 115 = .ok (.sipush 224, 3) := by decide +kernel
theorem d6_118 : decode prog_23_method_3_code 118 = .ok (.if_icmp .ne 9, 3) := by decide +kernel
theorem d6_121 : decode prog_23_method_3_code 121 = .ok (.sipush 160, 3) := by decide +kernel
theorem d6_124 : decode prog_23_method_3_code 124 = .ok (.goto 6, 3) := by decide +kernel
theorem d6_127 : decode prog_23_method_3_code 127 = .ok (.sipush 128, 3) := by decide +kernel
theorem d6_130 : decode prog_23_method_3_code 130 = .ok (.putfield 22, 3) := by decide +kernel
theorem d6_133 : decode prog_23_method_3_code 133 = .ok (.aload_n 0, 1) := by decide +kernel
theorem d6_134 : decode prog_23_method_3_code 134 = .ok (.iload_n 1, 1) := by decide +kernel
theorem d6_135 : decode prog_23_method_3_code 135 = .ok (.sipush 237, 3) := by decide +kernel
theorem d6_138 : decode prog_23_method_3_code 138 = .ok (.if_icmp .ne 9, 3) := by decide +kernel
theorem d6_141 : decode prog_23_method_3_code 141 = .ok (.sipush 159, 3) := by decide +kernel
theorem d6_144 : decode prog_23_method_3_code 144 = .ok (.goto 6, 3) := by decide +kernel
theorem d6_147 : decode prog_23_method_3_code 147 = .ok (.sipush 191, 3) := by decide +kernel
theorem d6_150 : decode prog_23_method_3_code 150 = .ok (.putfield 25, 3) := by decide +kernel
theorem d6_153 : decode prog_23_method_3_code 153 = .ok (.goto 74, 3) := by decide +kernel
theorem d6_156 : decode prog_23_method_3_code 156 = .ok (.iload_n 1, 1) := by decide +kernel
theorem d6_157 : decode prog_23_method_3_code 157 = .ok (.sipush 240, 3) := by decide +kernel
theorem d6_160 : decode prog_23_method_3_code 160 = .ok (.if_icmp .lt 58, 3) := by decide +kernel
theorem d6_163 : decode prog_23_method_3_code 163 = .ok (.iload_n 1, 1) := by decide +kernel
theorem d6_164 : decode prog_23_method_3_code 164 = .ok (.sipush 244, 3) := by decide +kernel
theorem d6_167 : decode prog_23_method_3_code 167 = .ok (.if_icmp .gt 51, 3) := by decide +kernel
theorem d6_170 : decode prog_23_method_3_code 170 = .ok (.aload_n 0, 1) := by decide +kernel
theorem d6_171 : decode prog_23_method_3_code 171 = .ok (.iconst 3, 1) := by decide +kernel
theorem d6_172 : decode prog_23_method_3_code 172 = .ok (.putfield 18, 3) := by decide +kernel
theorem d6_175 : decode prog_23_method_3_code 175 = .ok (.aload_n 0, 1) := by decide +kernel
theorem d6_176 : decode prog_23_method_3_code 176 = .ok (.iload_n 1, 1) := by decide +kernel
theorem d6_177 : decode prog_23_method_3_code 177 = .ok (.sipush 240, 3) := by decide +kernel
theorem d6_180 : decode prog_23_method_3_code 180 = .ok (.if_icmp .ne 9, 3) := by decide +kernel
theorem d6_183 : decode prog_23_method_3_code 183 = .ok (.sipush 144, 3) := by decide +kernel
theorem d6_186 : decode prog_23_method_3_code 186 = .ok (.goto 6, 3) := by decide +kernel
theorem d6_189 : decode prog_23_method_3_code 189 = .ok (.sipush 128, 3) := by decide +kernel
theorem d6_192 : decode prog_23_method_3_code 192 = .ok (.putfield 22, 3) := by decide +kernel
theorem d6_195 : decode prog_23_method_3_code 195 = .ok (.aload_n 0, 1) := by decide +kernel
theorem d6_196 : decode prog_23_method_3_code 196 = .ok (.iload_n 1, 1) := by decide +kernel
theorem d6_197 : decode prog_23_method_3_code 197 = .ok (.sipush 244, 3) := by decide +kernel
theorem d6_200 : decode prog_23_method_3_code 200 = .ok (.if_icmp .ne 9, 3) := by decide +kernel
theorem d6_203 : decode prog_23_method_3_code 203 = .ok (.sipush 143, 3) := by decide +kernel
theorem d6_206 : decode prog_23_method_3_code 206 = .ok (.goto 6, 3) := by decide +kernel
theorem d6_209 : decode prog_23_method_3_code 209 = .ok (.sipush 191, 3) := by decide +kernel
theorem d6_212 : decode prog_23_method_3_code 212 = .ok (.putfield 25, 3) := by decide +kernel
theorem d6_215 : decode prog_23_method_3_code 215 = .ok (.goto 12, 3) := by decide +kernel
theorem d6_218 : decode prog_23_method_3_code 218 = .ok (.iload_n 1, 1) := by decide +kernel
theorem d6_219 : decode prog_23_method_3_code 219 = .ok (.sipush 128, 3) := by decide +kernel
theorem d6_222 : decode prog_23_method_3_code 222 = .ok (.if_icmp .lt 5, 3) := by decide +kernel
theorem d6_225 : decode prog_23_method_3_code 225 = .ok (.iconst 0, 1) := by decide +kernel
theorem d6_226 : decode prog_23_method_3_code 226 = .ok (.istore_n 2, 1) := by decide +kernel
theorem d6_227 : decode prog_23_method_3_code 227 = .ok (.iload_n 2, 1) := by decide +kernel
theorem d6_228 : decode prog_23_method_3_code 228 = .ok (.ireturn, 1) := by decide +kernel
theorem ef_rm6 (m : MethodId) (a0 : Addr) (p1 : Int32) : entryFrame m #[(.ref a0), (.int p1)] 3 = mkF m 0 #[.val (.ref a0), .val (.int p1), .unset] [] := by first | (simp [entryFrame, mkF, argsToLocals, Value.category]; done) | rfl
def fAcc (a0 : Addr) (p1 : Int32) (PE_ : Int32) (LO_ : Int32) (HI_ : Int32) : Int32 := (if (0 : Int32) < PE_ then (if p1 < LO_ then (0 : Int32) else (if HI_ < p1 then (0 : Int32) else (1 : Int32))) else (if p1 < (194 : Int32) then (if p1 < (128 : Int32) then (1 : Int32) else (0 : Int32)) else (if (223 : Int32) < p1 then (if (239 : Int32) < p1 then (if (244 : Int32) < p1 then (0 : Int32) else (if p1 = (240 : Int32) then (1 : Int32) else (if p1 = (244 : Int32) then (1 : Int32) else (1 : Int32)))) else (if p1 = (224 : Int32) then (1 : Int32) else (if p1 = (237 : Int32) then (1 : Int32) else (1 : Int32)))) else (1 : Int32))))
def fAcc_pending (a0 : Addr) (p1 : Int32) (PE_ : Int32) (LO_ : Int32) (HI_ : Int32) : Int32 := (if (0 : Int32) < PE_ then (if p1 < LO_ then (PE_ - (1 : Int32)) else (if HI_ < p1 then (PE_ - (1 : Int32)) else (PE_ - (1 : Int32)))) else (if p1 < (194 : Int32) then (if p1 < (128 : Int32) then PE_ else PE_) else (if (223 : Int32) < p1 then (if (239 : Int32) < p1 then (if (244 : Int32) < p1 then PE_ else (if p1 = (240 : Int32) then (3 : Int32) else (if p1 = (244 : Int32) then (3 : Int32) else (3 : Int32)))) else (if p1 = (224 : Int32) then (2 : Int32) else (if p1 = (237 : Int32) then (2 : Int32) else (2 : Int32)))) else (1 : Int32))))
def fAcc_low (a0 : Addr) (p1 : Int32) (PE_ : Int32) (LO_ : Int32) (HI_ : Int32) : Int32 := (if (0 : Int32) < PE_ then (if p1 < LO_ then (128 : Int32) else (if HI_ < p1 then (128 : Int32) else (128 : Int32))) else (if p1 < (194 : Int32) then (if p1 < (128 : Int32) then LO_ else LO_) else (if (223 : Int32) < p1 then (if (239 : Int32) < p1 then (if (244 : Int32) < p1 then LO_ else (if p1 = (240 : Int32) then (144 : Int32) else (if p1 = (244 : Int32) then (128 : Int32) else (128 : Int32)))) else (if p1 = (224 : Int32) then (160 : Int32) else (if p1 = (237 : Int32) then (128 : Int32) else (128 : Int32)))) else (128 : Int32))))
def fAcc_high (a0 : Addr) (p1 : Int32) (PE_ : Int32) (LO_ : Int32) (HI_ : Int32) : Int32 := (if (0 : Int32) < PE_ then (if p1 < LO_ then (191 : Int32) else (if HI_ < p1 then (191 : Int32) else (191 : Int32))) else (if p1 < (194 : Int32) then (if p1 < (128 : Int32) then HI_ else HI_) else (if (223 : Int32) < p1 then (if (239 : Int32) < p1 then (if (244 : Int32) < p1 then HI_ else (if p1 = (240 : Int32) then (191 : Int32) else (if p1 = (244 : Int32) then (143 : Int32) else (191 : Int32)))) else (if p1 = (224 : Int32) then (191 : Int32) else (if p1 = (237 : Int32) then (159 : Int32) else (191 : Int32)))) else (191 : Int32))))
def Q_rm6 (Z : State) (a0 : Addr) (p1 : Int32) (PE_ : Int32) (LO_ : Int32) (HI_ : Int32) (h0 : Heap) (n0 : Nat) (v : Option Value) (h : Heap) (L : List Loc) : Prop := v = some (.int (fAcc a0 p1 PE_ LO_ HI_)) ∧ Fr n0 L ∧ Keep h0 h [a0] ∧ Exa Z h a0 "com/example/fold3/fold3/input/Utf8Check" ∧ Fld Z h a0 "com/example/fold3/fold3/input/Utf8Check" "pending" "I" (.int (fAcc_pending a0 p1 PE_ LO_ HI_)) ∧ Fld Z h a0 "com/example/fold3/fold3/input/Utf8Check" "low" "I" (.int (fAcc_low a0 p1 PE_ LO_ HI_)) ∧ Fld Z h a0 "com/example/fold3/fold3/input/Utf8Check" "high" "I" (.int (fAcc_high a0 p1 PE_ LO_ HI_))
set_option maxRecDepth 65536 in
set_option maxHeartbeats 40000000 in
theorem rm6 (l : Launch) (Z : State) (av0 : Array Value) (hw : ∀ d ∈ tables_1, d.before av0 Z = true) (ws : List Jvm.Cond) (a0 : Addr) (p1 : Int32) (PE_ : Int32) (LO_ : Int32) (HI_ : Int32) (h0 : Heap) (n0 : Nat) (Z0 : n0 ≤ h0.size) (E_a0 : Exa Z h0 a0 "com/example/fold3/fold3/input/Utf8Check") (F_pending_a0 : Fld Z h0 a0 "com/example/fold3/fold3/input/Utf8Check" "pending" "I" (.int PE_)) (F_low_a0 : Fld Z h0 a0 "com/example/fold3/fold3/input/Utf8Check" "low" "I" (.int LO_)) (F_high_a0 : Fld Z h0 a0 "com/example/fold3/fold3/input/Utf8Check" "high" "I" (.int HI_)) (g_a0 : n0 ≤ a0) :
    MetFree l (⟨"com/example/fold3/fold3/input/Utf8Check", "accept", "(I)Z"⟩ : MethodName) (head1 (Jvm.Cond.code (⟨"com/example/fold3/fold3/input/Utf8Check", "accept", "(I)Z"⟩ : MethodName) prog_23_method_3_code 3 (some .boolean) :: ws) ({ frames := 0, cells := 0, slots := 0, locals := 0 } : Room)) (fun a U => a = #[(.ref a0), (.int p1)] ∧ Z.Warmed39 U.vm ∧ U.heap = h0) (fun _ _ _ _ _ => True) (fun _ U o U' => ∃ v L, o = .returned v ∧ Q_rm6 Z a0 p1 PE_ LO_ HI_ h0 n0 v U'.heap L ∧ FrameEnd U o U' L ({ frames := 0, cells := 0, slots := 0, locals := 0 } : Room).cells ({ frames := 0, cells := 0, slots := 0, locals := 0 } : Room).slots) := by
  refine MetFree.of_bodySF (plainFor_of_name pn_0) hisR ?_
  intro p e s m args below meth c s₁ Bd hml0 hP hK
  obtain ⟨rfl, hZ, hh⟩ := hP
  have hx := Bd.exec
  have hby := Bd.bytes
  have hml : c.maxLocals = 3 := hml0
  have dd : ∀ {pc : Nat} {r : Except DecodeError (Instr × Nat)}, decode prog_23_method_3_code pc = r → decode c.code pc = r := fun q => hb hby q
  have hown : s.vm.findClass "com/example/fold3/fold3/input/Utf8Check" = some m.cls := findClass_of_methodNamed Bd.named
  have hnm := (name_of_methodNamed Bd.named Bd.method).1
  have X0 : Stand p l e ({ frames := 0, cells := 0, slots := 0, locals := 0 } : Room) s m #[(.ref a0), (.int p1)] below meth c s₁ [] 0 0 := Stand.of_body Bd
  have e0 : s₁.heap = h0 := by rw [← hh, Bd.state]; rfl
  have N0 := Fr.nil n0
  have hret := Bd.returns
  have hlk := Bd.notSynchronized
  show Gz p e below s ({ frames := 0, cells := 0, slots := 0, locals := 0 } : Room).cells ({ frames := 0, cells := 0, slots := 0, locals := 0 } : Room).slots (Q_rm6 Z a0 p1 PE_ LO_ HI_ h0 n0) (s₁.setTop (entryFrame m #[(.ref a0), (.int p1)] 3))
  refine Gz.enter (ef_rm6 m a0 p1) ?_
  refine Gz.iconst 1 (1 : Int32) X0 hx (dd d6_0) rfl rfl ?_
  refine Gz.istoreN 2 #[.val (.ref a0), .val (.int p1), .val (.int (1 : Int32))] X0 hx (dd d6_1) rfl rfl ?_
  refine Gz.aloadN 3 X0 hx (dd d6_2) rfl rfl rfl ?_
  refine Gz.getF 6 X0 hx hZ hown (dd d6_3) (host := "") (Or.inl (ww hw 25 rfl)) Via.refl e0 F_pending_a0 rfl fun T1 X1 e1 => ?_
  by_cases hc2 : (0 : Int32) < PE_
  · refine Gz.ifNo 9 X1 hx (dd d6_6) ((if0 _ _).trans (tlt hc2).2.2.2) rfl ?_
    refine Gz.iloadN 10 X1 hx (dd d6_9) rfl rfl ?_
    refine Gz.aloadN 11 X1 hx (dd d6_10) rfl rfl rfl ?_
    refine Gz.getF 14 X1 hx hZ hown (dd d6_11) (host := "") (Or.inl (ww hw 32 rfl)) Via.refl e1 F_low_a0 rfl fun T3 X3 e3 => ?_
    by_cases hc4 : p1 < LO_
    · refine Gz.icmpYes 29 X3 hx (dd d6_14) (tlt hc4).1 (by decide) (by decide) ?_
      refine Gz.iconst 30 (0 : Int32) X3 hx (dd d6_29) rfl rfl ?_
      refine Gz.istoreN 31 #[.val (.ref a0), .val (.int p1), .val (.int (0 : Int32))] X3 hx (dd d6_30) rfl rfl ?_
      refine Gz.aloadN 32 X3 hx (dd d6_31) rfl rfl rfl ?_
      refine Gz.dup 33 X3 hx (dd d6_32) rfl rfl ?_
      refine Gz.getF 36 X3 hx hZ hown (dd d6_33) (host := "") (Or.inl (ww hw 25 rfl)) Via.refl e3 F_pending_a0 rfl fun T5 X5 e5 => ?_
      refine Gz.iconst 37 (1 : Int32) X5 hx (dd d6_36) rfl rfl ?_
      refine Gz.isub 38 X5 hx (dd d6_37) rfl ?_
      refine Gz.putF 41 X5 hx hZ hown .int (dd d6_38) (host := "") (Or.inl (ww hw 25 rfl)) Via.refl e5 F_pending_a0 E_a0 (Or.inl (ww hw 26 rfl)) (ww hw 2 rfl) (by decide) rfl rfl rfl fun T6 h6 X6 e6 W6 => ?_
      have f6_E_a0 := Exa.wr W6 E_a0
      have f6_F_low_a0 := Fld.other W6 F_low_a0 (Or.inr (slot_ne (Or.inl (ww hw 33 rfl)) (Or.inl (ww hw 26 rfl)) (by decide) (t := .int) (t' := .int) (by decide) (by decide)))
      have f6_F_high_a0 := Fld.other W6 F_high_a0 (Or.inr (slot_ne (Or.inl (ww hw 35 rfl)) (Or.inl (ww hw 26 rfl)) (by decide) (t := .int) (t' := .int) (by decide) (by decide)))
      have f6_F_pending_a0 := Fld.same W6 F_pending_a0
      have N6 := Fr.snoc X6 N0 g_a0
      have SZ6 : n0 ≤ h6.size := Nat.le_trans Z0 (Keep.of_wr W6).1
      have K6 := Keep.wr (Keep.refl h0 [a0]) W6 (Or.inl (List.mem_of_getElem? (i := 0) rfl))
      refine Gz.aloadN 42 X6 hx (dd d6_41) rfl rfl rfl ?_
      refine Gz.sipush 45 (128 : Int32) X6 hx (dd d6_42) rfl rfl ?_
      refine Gz.putF 48 X6 hx hZ hown .int (dd d6_45) (host := "") (Or.inl (ww hw 32 rfl)) Via.refl e6 f6_F_low_a0 f6_E_a0 (Or.inl (ww hw 33 rfl)) (ww hw 2 rfl) (by decide) rfl rfl rfl fun T7 h7 X7 e7 W7 => ?_
      have f7_E_a0 := Exa.wr W7 f6_E_a0
      have f7_F_pending_a0 := Fld.other W7 f6_F_pending_a0 (Or.inr (slot_ne (Or.inl (ww hw 26 rfl)) (Or.inl (ww hw 33 rfl)) (by decide) (t := .int) (t' := .int) (by decide) (by decide)))
      have f7_F_high_a0 := Fld.other W7 f6_F_high_a0 (Or.inr (slot_ne (Or.inl (ww hw 35 rfl)) (Or.inl (ww hw 33 rfl)) (by decide) (t := .int) (t' := .int) (by decide) (by decide)))
      have f7_F_low_a0 := Fld.same W7 f6_F_low_a0
      have N7 := Fr.snoc X7 N6 g_a0
      have SZ7 : n0 ≤ h7.size := Nat.le_trans SZ6 (Keep.of_wr W7).1
      have K7 := Keep.wr K6 W7 (Or.inl (List.mem_of_getElem? (i := 0) rfl))
      refine Gz.aloadN 49 X7 hx (dd d6_48) rfl rfl rfl ?_
      refine Gz.sipush 52 (191 : Int32) X7 hx (dd d6_49) rfl rfl ?_
      refine Gz.putF 55 X7 hx hZ hown .int (dd d6_52) (host := "") (Or.inl (ww hw 34 rfl)) Via.refl e7 f7_F_high_a0 f7_E_a0 (Or.inl (ww hw 35 rfl)) (ww hw 2 rfl) (by decide) rfl rfl rfl fun T8 h8 X8 e8 W8 => ?_
      have f8_E_a0 := Exa.wr W8 f7_E_a0
      have f8_F_pending_a0 := Fld.other W8 f7_F_pending_a0 (Or.inr (slot_ne (Or.inl (ww hw 26 rfl)) (Or.inl (ww hw 35 rfl)) (by decide) (t := .int) (t' := .int) (by decide) (by decide)))
      have f8_F_low_a0 := Fld.other W8 f7_F_low_a0 (Or.inr (slot_ne (Or.inl (ww hw 33 rfl)) (Or.inl (ww hw 35 rfl)) (by decide) (t := .int) (t' := .int) (by decide) (by decide)))
      have f8_F_high_a0 := Fld.same W8 f7_F_high_a0
      have N8 := Fr.snoc X8 N7 g_a0
      have SZ8 : n0 ≤ h8.size := Nat.le_trans SZ7 (Keep.of_wr W8).1
      have K8 := Keep.wr K7 W8 (Or.inl (List.mem_of_getElem? (i := 0) rfl))
      refine Gz.goto 227 X8 hx (dd d6_55) (by decide) (by decide) ?_
      refine Gz.iloadN 228 X8 hx (dd d6_227) rfl rfl ?_
      refine Gz.fin X8 (v := some (.int (0 : Int32))) (fun h => by rw [hret] at h; cases h) hlk (by decide) (by decide) (fun fs hr => retN X8 hx (t := .boolean) hret (by simp) (dd d6_228) hr) ?_
      rw [e8]
      exact ⟨(by unfold fAcc; rw [if_pos hc2, if_pos hc4]), N8, K8, f8_E_a0, (by unfold fAcc_pending; rw [if_pos hc2, if_pos hc4]; exact f8_F_pending_a0), (by unfold fAcc_low; rw [if_pos hc2, if_pos hc4]; exact f8_F_low_a0), (by unfold fAcc_high; rw [if_pos hc2, if_pos hc4]; exact f8_F_high_a0)⟩
    · refine Gz.icmpNo 17 X3 hx (dd d6_14) (flt hc4).1 rfl ?_
      refine Gz.iloadN 18 X3 hx (dd d6_17) rfl rfl ?_
      refine Gz.aloadN 19 X3 hx (dd d6_18) rfl rfl rfl ?_
      refine Gz.getF 22 X3 hx hZ hown (dd d6_19) (host := "") (Or.inl (ww hw 34 rfl)) Via.refl e3 F_high_a0 rfl fun T9 X9 e9 => ?_
      by_cases hc10 : HI_ < p1
      · refine Gz.icmpYes 29 X9 hx (dd d6_22) (tlt hc10).2.2.1 (by decide) (by decide) ?_
        refine Gz.iconst 30 (0 : Int32) X9 hx (dd d6_29) rfl rfl ?_
        refine Gz.istoreN 31 #[.val (.ref a0), .val (.int p1), .val (.int (0 : Int32))] X9 hx (dd d6_30) rfl rfl ?_
        refine Gz.aloadN 32 X9 hx (dd d6_31) rfl rfl rfl ?_
        refine Gz.dup 33 X9 hx (dd d6_32) rfl rfl ?_
        refine Gz.getF 36 X9 hx hZ hown (dd d6_33) (host := "") (Or.inl (ww hw 25 rfl)) Via.refl e9 F_pending_a0 rfl fun T11 X11 e11 => ?_
        refine Gz.iconst 37 (1 : Int32) X11 hx (dd d6_36) rfl rfl ?_
        refine Gz.isub 38 X11 hx (dd d6_37) rfl ?_
        refine Gz.putF 41 X11 hx hZ hown .int (dd d6_38) (host := "") (Or.inl (ww hw 25 rfl)) Via.refl e11 F_pending_a0 E_a0 (Or.inl (ww hw 26 rfl)) (ww hw 2 rfl) (by decide) rfl rfl rfl fun T12 h12 X12 e12 W12 => ?_
        have f12_E_a0 := Exa.wr W12 E_a0
        have f12_F_low_a0 := Fld.other W12 F_low_a0 (Or.inr (slot_ne (Or.inl (ww hw 33 rfl)) (Or.inl (ww hw 26 rfl)) (by decide) (t := .int) (t' := .int) (by decide) (by decide)))
        have f12_F_high_a0 := Fld.other W12 F_high_a0 (Or.inr (slot_ne (Or.inl (ww hw 35 rfl)) (Or.inl (ww hw 26 rfl)) (by decide) (t := .int) (t' := .int) (by decide) (by decide)))
        have f12_F_pending_a0 := Fld.same W12 F_pending_a0
        have N12 := Fr.snoc X12 N0 g_a0
        have SZ12 : n0 ≤ h12.size := Nat.le_trans Z0 (Keep.of_wr W12).1
        have K12 := Keep.wr (Keep.refl h0 [a0]) W12 (Or.inl (List.mem_of_getElem? (i := 0) rfl))
        refine Gz.aloadN 42 X12 hx (dd d6_41) rfl rfl rfl ?_
        refine Gz.sipush 45 (128 : Int32) X12 hx (dd d6_42) rfl rfl ?_
        refine Gz.putF 48 X12 hx hZ hown .int (dd d6_45) (host := "") (Or.inl (ww hw 32 rfl)) Via.refl e12 f12_F_low_a0 f12_E_a0 (Or.inl (ww hw 33 rfl)) (ww hw 2 rfl) (by decide) rfl rfl rfl fun T13 h13 X13 e13 W13 => ?_
        have f13_E_a0 := Exa.wr W13 f12_E_a0
        have f13_F_pending_a0 := Fld.other W13 f12_F_pending_a0 (Or.inr (slot_ne (Or.inl (ww hw 26 rfl)) (Or.inl (ww hw 33 rfl)) (by decide) (t := .int) (t' := .int) (by decide) (by decide)))
        have f13_F_high_a0 := Fld.other W13 f12_F_high_a0 (Or.inr (slot_ne (Or.inl (ww hw 35 rfl)) (Or.inl (ww hw 33 rfl)) (by decide) (t := .int) (t' := .int) (by decide) (by decide)))
        have f13_F_low_a0 := Fld.same W13 f12_F_low_a0
        have N13 := Fr.snoc X13 N12 g_a0
        have SZ13 : n0 ≤ h13.size := Nat.le_trans SZ12 (Keep.of_wr W13).1
        have K13 := Keep.wr K12 W13 (Or.inl (List.mem_of_getElem? (i := 0) rfl))
        refine Gz.aloadN 49 X13 hx (dd d6_48) rfl rfl rfl ?_
        refine Gz.sipush 52 (191 : Int32) X13 hx (dd d6_49) rfl rfl ?_
        refine Gz.putF 55 X13 hx hZ hown .int (dd d6_52) (host := "") (Or.inl (ww hw 34 rfl)) Via.refl e13 f13_F_high_a0 f13_E_a0 (Or.inl (ww hw 35 rfl)) (ww hw 2 rfl) (by decide) rfl rfl rfl fun T14 h14 X14 e14 W14 => ?_
        have f14_E_a0 := Exa.wr W14 f13_E_a0
        have f14_F_pending_a0 := Fld.other W14 f13_F_pending_a0 (Or.inr (slot_ne (Or.inl (ww hw 26 rfl)) (Or.inl (ww hw 35 rfl)) (by decide) (t := .int) (t' := .int) (by decide) (by decide)))
        have f14_F_low_a0 := Fld.other W14 f13_F_low_a0 (Or.inr (slot_ne (Or.inl (ww hw 33 rfl)) (Or.inl (ww hw 35 rfl)) (by decide) (t := .int) (t' := .int) (by decide) (by decide)))
        have f14_F_high_a0 := Fld.same W14 f13_F_high_a0
        have N14 := Fr.snoc X14 N13 g_a0
        have SZ14 : n0 ≤ h14.size := Nat.le_trans SZ13 (Keep.of_wr W14).1
        have K14 := Keep.wr K13 W14 (Or.inl (List.mem_of_getElem? (i := 0) rfl))
        refine Gz.goto 227 X14 hx (dd d6_55) (by decide) (by decide) ?_
        refine Gz.iloadN 228 X14 hx (dd d6_227) rfl rfl ?_
        refine Gz.fin X14 (v := some (.int (0 : Int32))) (fun h => by rw [hret] at h; cases h) hlk (by decide) (by decide) (fun fs hr => retN X14 hx (t := .boolean) hret (by simp) (dd d6_228) hr) ?_
        rw [e14]
        exact ⟨(by unfold fAcc; rw [if_pos hc2, if_neg hc4, if_pos hc10]), N14, K14, f14_E_a0, (by unfold fAcc_pending; rw [if_pos hc2, if_neg hc4, if_pos hc10]; exact f14_F_pending_a0), (by unfold fAcc_low; rw [if_pos hc2, if_neg hc4, if_pos hc10]; exact f14_F_low_a0), (by unfold fAcc_high; rw [if_pos hc2, if_neg hc4, if_pos hc10]; exact f14_F_high_a0)⟩
      · refine Gz.icmpNo 25 X9 hx (dd d6_22) (flt hc10).2.2.1 rfl ?_
        refine Gz.iconst 26 (1 : Int32) X9 hx (dd d6_25) rfl rfl ?_
        refine Gz.goto 30 X9 hx (dd d6_26) (by decide) (by decide) ?_
        refine Gz.istoreN 31 #[.val (.ref a0), .val (.int p1), .val (.int (1 : Int32))] X9 hx (dd d6_30) rfl rfl ?_
        refine Gz.aloadN 32 X9 hx (dd d6_31) rfl rfl rfl ?_
        refine Gz.dup 33 X9 hx (dd d6_32) rfl rfl ?_
        refine Gz.getF 36 X9 hx hZ hown (dd d6_33) (host := "") (Or.inl (ww hw 25 rfl)) Via.refl e9 F_pending_a0 rfl fun T15 X15 e15 => ?_
        refine Gz.iconst 37 (1 : Int32) X15 hx (dd d6_36) rfl rfl ?_
        refine Gz.isub 38 X15 hx (dd d6_37) rfl ?_
        refine Gz.putF 41 X15 hx hZ hown .int (dd d6_38) (host := "") (Or.inl (ww hw 25 rfl)) Via.refl e15 F_pending_a0 E_a0 (Or.inl (ww hw 26 rfl)) (ww hw 2 rfl) (by decide) rfl rfl rfl fun T16 h16 X16 e16 W16 => ?_
        have f16_E_a0 := Exa.wr W16 E_a0
        have f16_F_low_a0 := Fld.other W16 F_low_a0 (Or.inr (slot_ne (Or.inl (ww hw 33 rfl)) (Or.inl (ww hw 26 rfl)) (by decide) (t := .int) (t' := .int) (by decide) (by decide)))
        have f16_F_high_a0 := Fld.other W16 F_high_a0 (Or.inr (slot_ne (Or.inl (ww hw 35 rfl)) (Or.inl (ww hw 26 rfl)) (by decide) (t := .int) (t' := .int) (by decide) (by decide)))
        have f16_F_pending_a0 := Fld.same W16 F_pending_a0
        have N16 := Fr.snoc X16 N0 g_a0
        have SZ16 : n0 ≤ h16.size := Nat.le_trans Z0 (Keep.of_wr W16).1
        have K16 := Keep.wr (Keep.refl h0 [a0]) W16 (Or.inl (List.mem_of_getElem? (i := 0) rfl))
        refine Gz.aloadN 42 X16 hx (dd d6_41) rfl rfl rfl ?_
        refine Gz.sipush 45 (128 : Int32) X16 hx (dd d6_42) rfl rfl ?_
        refine Gz.putF 48 X16 hx hZ hown .int (dd d6_45) (host := "") (Or.inl (ww hw 32 rfl)) Via.refl e16 f16_F_low_a0 f16_E_a0 (Or.inl (ww hw 33 rfl)) (ww hw 2 rfl) (by decide) rfl rfl rfl fun T17 h17 X17 e17 W17 => ?_
        have f17_E_a0 := Exa.wr W17 f16_E_a0
        have f17_F_pending_a0 := Fld.other W17 f16_F_pending_a0 (Or.inr (slot_ne (Or.inl (ww hw 26 rfl)) (Or.inl (ww hw 33 rfl)) (by decide) (t := .int) (t' := .int) (by decide) (by decide)))
        have f17_F_high_a0 := Fld.other W17 f16_F_high_a0 (Or.inr (slot_ne (Or.inl (ww hw 35 rfl)) (Or.inl (ww hw 33 rfl)) (by decide) (t := .int) (t' := .int) (by decide) (by decide)))
        have f17_F_low_a0 := Fld.same W17 f16_F_low_a0
        have N17 := Fr.snoc X17 N16 g_a0
        have SZ17 : n0 ≤ h17.size := Nat.le_trans SZ16 (Keep.of_wr W17).1
        have K17 := Keep.wr K16 W17 (Or.inl (List.mem_of_getElem? (i := 0) rfl))
        refine Gz.aloadN 49 X17 hx (dd d6_48) rfl rfl rfl ?_
        refine Gz.sipush 52 (191 : Int32) X17 hx (dd d6_49) rfl rfl ?_
        refine Gz.putF 55 X17 hx hZ hown .int (dd d6_52) (host := "") (Or.inl (ww hw 34 rfl)) Via.refl e17 f17_F_high_a0 f17_E_a0 (Or.inl (ww hw 35 rfl)) (ww hw 2 rfl) (by decide) rfl rfl rfl fun T18 h18 X18 e18 W18 => ?_
        have f18_E_a0 := Exa.wr W18 f17_E_a0
        have f18_F_pending_a0 := Fld.other W18 f17_F_pending_a0 (Or.inr (slot_ne (Or.inl (ww hw 26 rfl)) (Or.inl (ww hw 35 rfl)) (by decide) (t := .int) (t' := .int) (by decide) (by decide)))
        have f18_F_low_a0 := Fld.other W18 f17_F_low_a0 (Or.inr (slot_ne (Or.inl (ww hw 33 rfl)) (Or.inl (ww hw 35 rfl)) (by decide) (t := .int) (t' := .int) (by decide) (by decide)))
        have f18_F_high_a0 := Fld.same W18 f17_F_high_a0
        have N18 := Fr.snoc X18 N17 g_a0
        have SZ18 : n0 ≤ h18.size := Nat.le_trans SZ17 (Keep.of_wr W18).1
        have K18 := Keep.wr K17 W18 (Or.inl (List.mem_of_getElem? (i := 0) rfl))
        refine Gz.goto 227 X18 hx (dd d6_55) (by decide) (by decide) ?_
        refine Gz.iloadN 228 X18 hx (dd d6_227) rfl rfl ?_
        refine Gz.fin X18 (v := some (.int (1 : Int32))) (fun h => by rw [hret] at h; cases h) hlk (by decide) (by decide) (fun fs hr => retN X18 hx (t := .boolean) hret (by simp) (dd d6_228) hr) ?_
        rw [e18]
        exact ⟨(by unfold fAcc; rw [if_pos hc2, if_neg hc4, if_neg hc10]), N18, K18, f18_E_a0, (by unfold fAcc_pending; rw [if_pos hc2, if_neg hc4, if_neg hc10]; exact f18_F_pending_a0), (by unfold fAcc_low; rw [if_pos hc2, if_neg hc4, if_neg hc10]; exact f18_F_low_a0), (by unfold fAcc_high; rw [if_pos hc2, if_neg hc4, if_neg hc10]; exact f18_F_high_a0)⟩
  · refine Gz.ifYes 58 X1 hx (dd d6_6) ((if0 _ _).trans (flt hc2).2.2.2) (by decide) (by decide) ?_
    refine Gz.iloadN 59 X1 hx (dd d6_58) rfl rfl ?_
    refine Gz.sipush 62 (194 : Int32) X1 hx (dd d6_59) rfl rfl ?_
    by_cases hc19 : p1 < (194 : Int32)
    · refine Gz.icmpYes 94 X1 hx (dd d6_62) (tlt hc19).1 (by decide) (by decide) ?_
      refine Gz.iloadN 95 X1 hx (dd d6_94) rfl rfl ?_
      refine Gz.sipush 98 (224 : Int32) X1 hx (dd d6_95) rfl rfl ?_
      refine Gz.icmpYes 156 X1 hx (dd d6_98) (tlt (own_ALt32 hc19 (by decide) : p1 < (224 : Int32))).1 (by decide) (by decide) ?_
      refine Gz.iloadN 157 X1 hx (dd d6_156) rfl rfl ?_
      refine Gz.sipush 160 (240 : Int32) X1 hx (dd d6_157) rfl rfl ?_
      refine Gz.icmpYes 218 X1 hx (dd d6_160) (tlt (own_ALt32 hc19 (by decide) : p1 < (240 : Int32))).1 (by decide) (by decide) ?_
      refine Gz.iloadN 219 X1 hx (dd d6_218) rfl rfl ?_
      refine Gz.sipush 222 (128 : Int32) X1 hx (dd d6_219) rfl rfl ?_
      by_cases hc20 : p1 < (128 : Int32)
      · refine Gz.icmpYes 227 X1 hx (dd d6_222) (tlt hc20).1 (by decide) (by decide) ?_
        refine Gz.iloadN 228 X1 hx (dd d6_227) rfl rfl ?_
        refine Gz.fin X1 (v := some (.int (1 : Int32))) (fun h => by rw [hret] at h; cases h) hlk (by decide) (by decide) (fun fs hr => retN X1 hx (t := .boolean) hret (by simp) (dd d6_228) hr) ?_
        rw [e1]
        exact ⟨(by unfold fAcc; rw [if_neg hc2, if_pos hc19, if_pos hc20]), N0, (Keep.refl h0 [a0]), E_a0, (by unfold fAcc_pending; rw [if_neg hc2, if_pos hc19, if_pos hc20]; exact F_pending_a0), (by unfold fAcc_low; rw [if_neg hc2, if_pos hc19, if_pos hc20]; exact F_low_a0), (by unfold fAcc_high; rw [if_neg hc2, if_pos hc19, if_pos hc20]; exact F_high_a0)⟩
      · refine Gz.icmpNo 225 X1 hx (dd d6_222) (flt hc20).1 rfl ?_
        refine Gz.iconst 226 (0 : Int32) X1 hx (dd d6_225) rfl rfl ?_
        refine Gz.istoreN 227 #[.val (.ref a0), .val (.int p1), .val (.int (0 : Int32))] X1 hx (dd d6_226) rfl rfl ?_
        refine Gz.iloadN 228 X1 hx (dd d6_227) rfl rfl ?_
        refine Gz.fin X1 (v := some (.int (0 : Int32))) (fun h => by rw [hret] at h; cases h) hlk (by decide) (by decide) (fun fs hr => retN X1 hx (t := .boolean) hret (by simp) (dd d6_228) hr) ?_
        rw [e1]
        exact ⟨(by unfold fAcc; rw [if_neg hc2, if_pos hc19, if_neg hc20]), N0, (Keep.refl h0 [a0]), E_a0, (by unfold fAcc_pending; rw [if_neg hc2, if_pos hc19, if_neg hc20]; exact F_pending_a0), (by unfold fAcc_low; rw [if_neg hc2, if_pos hc19, if_neg hc20]; exact F_low_a0), (by unfold fAcc_high; rw [if_neg hc2, if_pos hc19, if_neg hc20]; exact F_high_a0)⟩
    · refine Gz.icmpNo 65 X1 hx (dd d6_62) (flt hc19).1 rfl ?_
      refine Gz.iloadN 66 X1 hx (dd d6_65) rfl rfl ?_
      refine Gz.sipush 69 (223 : Int32) X1 hx (dd d6_66) rfl rfl ?_
      by_cases hc21 : (223 : Int32) < p1
      · refine Gz.icmpYes 94 X1 hx (dd d6_69) (tlt hc21).2.2.1 (by decide) (by decide) ?_
        refine Gz.iloadN 95 X1 hx (dd d6_94) rfl rfl ?_
        refine Gz.sipush 98 (224 : Int32) X1 hx (dd d6_95) rfl rfl ?_
        refine Gz.icmpNo 101 X1 hx (dd d6_98) (flt (own_CLf32 hc21 (by decide) : ¬ (p1 < (224 : Int32)))).1 rfl ?_
        refine Gz.iloadN 102 X1 hx (dd d6_101) rfl rfl ?_
        refine Gz.sipush 105 (239 : Int32) X1 hx (dd d6_102) rfl rfl ?_
        by_cases hc22 : (239 : Int32) < p1
        · refine Gz.icmpYes 156 X1 hx (dd d6_105) (tlt hc22).2.2.1 (by decide) (by decide) ?_
          refine Gz.iloadN 157 X1 hx (dd d6_156) rfl rfl ?_
          refine Gz.sipush 160 (240 : Int32) X1 hx (dd d6_157) rfl rfl ?_
          refine Gz.icmpNo 163 X1 hx (dd d6_160) (flt (own_CLf32 hc22 (by decide) : ¬ (p1 < (240 : Int32)))).1 rfl ?_
          refine Gz.iloadN 164 X1 hx (dd d6_163) rfl rfl ?_
          refine Gz.sipush 167 (244 : Int32) X1 hx (dd d6_164) rfl rfl ?_
          by_cases hc23 : (244 : Int32) < p1
          · refine Gz.icmpYes 218 X1 hx (dd d6_167) (tlt hc23).2.2.1 (by decide) (by decide) ?_
            refine Gz.iloadN 219 X1 hx (dd d6_218) rfl rfl ?_
            refine Gz.sipush 222 (128 : Int32) X1 hx (dd d6_219) rfl rfl ?_
            refine Gz.icmpNo 225 X1 hx (dd d6_222) (flt (own_BLf32 hc19 (by decide) : ¬ (p1 < (128 : Int32)))).1 rfl ?_
            refine Gz.iconst 226 (0 : Int32) X1 hx (dd d6_225) rfl rfl ?_
            refine Gz.istoreN 227 #[.val (.ref a0), .val (.int p1), .val (.int (0 : Int32))] X1 hx (dd d6_226) rfl rfl ?_
            refine Gz.iloadN 228 X1 hx (dd d6_227) rfl rfl ?_
            refine Gz.fin X1 (v := some (.int (0 : Int32))) (fun h => by rw [hret] at h; cases h) hlk (by decide) (by decide) (fun fs hr => retN X1 hx (t := .boolean) hret (by simp) (dd d6_228) hr) ?_
            rw [e1]
            exact ⟨(by unfold fAcc; rw [if_neg hc2, if_neg hc19, if_pos hc21, if_pos hc22, if_pos hc23]), N0, (Keep.refl h0 [a0]), E_a0, (by unfold fAcc_pending; rw [if_neg hc2, if_neg hc19, if_pos hc21, if_pos hc22, if_pos hc23]; exact F_pending_a0), (by unfold fAcc_low; rw [if_neg hc2, if_neg hc19, if_pos hc21, if_pos hc22, if_pos hc23]; exact F_low_a0), (by unfold fAcc_high; rw [if_neg hc2, if_neg hc19, if_pos hc21, if_pos hc22, if_pos hc23]; exact F_high_a0)⟩
          · refine Gz.icmpNo 170 X1 hx (dd d6_167) (flt hc23).2.2.1 rfl ?_
            refine Gz.aloadN 171 X1 hx (dd d6_170) rfl rfl rfl ?_
            refine Gz.iconst 172 (3 : Int32) X1 hx (dd d6_171) rfl rfl ?_
            refine Gz.putF 175 X1 hx hZ hown .int (dd d6_172) (host := "") (Or.inl (ww hw 25 rfl)) Via.refl e1 F_pending_a0 E_a0 (Or.inl (ww hw 26 rfl)) (ww hw 2 rfl) (by decide) rfl rfl rfl fun T24 h24 X24 e24 W24 => ?_
            have f24_E_a0 := Exa.wr W24 E_a0
            have f24_F_low_a0 := Fld.other W24 F_low_a0 (Or.inr (slot_ne (Or.inl (ww hw 33 rfl)) (Or.inl (ww hw 26 rfl)) (by decide) (t := .int) (t' := .int) (by decide) (by decide)))
            have f24_F_high_a0 := Fld.other W24 F_high_a0 (Or.inr (slot_ne (Or.inl (ww hw 35 rfl)) (Or.inl (ww hw 26 rfl)) (by decide) (t := .int) (t' := .int) (by decide) (by decide)))
            have f24_F_pending_a0 := Fld.same W24 F_pending_a0
            have N24 := Fr.snoc X24 N0 g_a0
            have SZ24 : n0 ≤ h24.size := Nat.le_trans Z0 (Keep.of_wr W24).1
            have K24 := Keep.wr (Keep.refl h0 [a0]) W24 (Or.inl (List.mem_of_getElem? (i := 0) rfl))
            refine Gz.aloadN 176 X24 hx (dd d6_175) rfl rfl rfl ?_
            refine Gz.iloadN 177 X24 hx (dd d6_176) rfl rfl ?_
            refine Gz.sipush 180 (240 : Int32) X24 hx (dd d6_177) rfl rfl ?_
            by_cases hc25 : p1 = (240 : Int32)
            · refine Gz.icmpNo 183 X24 hx (dd d6_180) (teq hc25).2 rfl ?_
              refine Gz.sipush 186 (144 : Int32) X24 hx (dd d6_183) rfl rfl ?_
              refine Gz.goto 192 X24 hx (dd d6_186) (by decide) (by decide) ?_
              refine Gz.putF 195 X24 hx hZ hown .int (dd d6_192) (host := "") (Or.inl (ww hw 32 rfl)) Via.refl e24 f24_F_low_a0 f24_E_a0 (Or.inl (ww hw 33 rfl)) (ww hw 2 rfl) (by decide) rfl rfl rfl fun T26 h26 X26 e26 W26 => ?_
              have f26_E_a0 := Exa.wr W26 f24_E_a0
              have f26_F_pending_a0 := Fld.other W26 f24_F_pending_a0 (Or.inr (slot_ne (Or.inl (ww hw 26 rfl)) (Or.inl (ww hw 33 rfl)) (by decide) (t := .int) (t' := .int) (by decide) (by decide)))
              have f26_F_high_a0 := Fld.other W26 f24_F_high_a0 (Or.inr (slot_ne (Or.inl (ww hw 35 rfl)) (Or.inl (ww hw 33 rfl)) (by decide) (t := .int) (t' := .int) (by decide) (by decide)))
              have f26_F_low_a0 := Fld.same W26 f24_F_low_a0
              have N26 := Fr.snoc X26 N24 g_a0
              have SZ26 : n0 ≤ h26.size := Nat.le_trans SZ24 (Keep.of_wr W26).1
              have K26 := Keep.wr K24 W26 (Or.inl (List.mem_of_getElem? (i := 0) rfl))
              refine Gz.aloadN 196 X26 hx (dd d6_195) rfl rfl rfl ?_
              refine Gz.iloadN 197 X26 hx (dd d6_196) rfl rfl ?_
              refine Gz.sipush 200 (244 : Int32) X26 hx (dd d6_197) rfl rfl ?_
              refine Gz.icmpYes 209 X26 hx (dd d6_200) (feq (own_eqEf32 hc25 (by decide) : ¬ (p1 = (244 : Int32)))).2 (by decide) (by decide) ?_
              refine Gz.sipush 212 (191 : Int32) X26 hx (dd d6_209) rfl rfl ?_
              refine Gz.putF 215 X26 hx hZ hown .int (dd d6_212) (host := "") (Or.inl (ww hw 34 rfl)) Via.refl e26 f26_F_high_a0 f26_E_a0 (Or.inl (ww hw 35 rfl)) (ww hw 2 rfl) (by decide) rfl rfl rfl fun T27 h27 X27 e27 W27 => ?_
              have f27_E_a0 := Exa.wr W27 f26_E_a0
              have f27_F_pending_a0 := Fld.other W27 f26_F_pending_a0 (Or.inr (slot_ne (Or.inl (ww hw 26 rfl)) (Or.inl (ww hw 35 rfl)) (by decide) (t := .int) (t' := .int) (by decide) (by decide)))
              have f27_F_low_a0 := Fld.other W27 f26_F_low_a0 (Or.inr (slot_ne (Or.inl (ww hw 33 rfl)) (Or.inl (ww hw 35 rfl)) (by decide) (t := .int) (t' := .int) (by decide) (by decide)))
              have f27_F_high_a0 := Fld.same W27 f26_F_high_a0
              have N27 := Fr.snoc X27 N26 g_a0
              have SZ27 : n0 ≤ h27.size := Nat.le_trans SZ26 (Keep.of_wr W27).1
              have K27 := Keep.wr K26 W27 (Or.inl (List.mem_of_getElem? (i := 0) rfl))
              refine Gz.goto 227 X27 hx (dd d6_215) (by decide) (by decide) ?_
              refine Gz.iloadN 228 X27 hx (dd d6_227) rfl rfl ?_
              refine Gz.fin X27 (v := some (.int (1 : Int32))) (fun h => by rw [hret] at h; cases h) hlk (by decide) (by decide) (fun fs hr => retN X27 hx (t := .boolean) hret (by simp) (dd d6_228) hr) ?_
              rw [e27]
              exact ⟨(by unfold fAcc; rw [if_neg hc2, if_neg hc19, if_pos hc21, if_pos hc22, if_neg hc23, if_pos hc25]), N27, K27, f27_E_a0, (by unfold fAcc_pending; rw [if_neg hc2, if_neg hc19, if_pos hc21, if_pos hc22, if_neg hc23, if_pos hc25]; exact f27_F_pending_a0), (by unfold fAcc_low; rw [if_neg hc2, if_neg hc19, if_pos hc21, if_pos hc22, if_neg hc23, if_pos hc25]; exact f27_F_low_a0), (by unfold fAcc_high; rw [if_neg hc2, if_neg hc19, if_pos hc21, if_pos hc22, if_neg hc23, if_pos hc25]; exact f27_F_high_a0)⟩
            · refine Gz.icmpYes 189 X24 hx (dd d6_180) (feq hc25).2 (by decide) (by decide) ?_
              refine Gz.sipush 192 (128 : Int32) X24 hx (dd d6_189) rfl rfl ?_
              refine Gz.putF 195 X24 hx hZ hown .int (dd d6_192) (host := "") (Or.inl (ww hw 32 rfl)) Via.refl e24 f24_F_low_a0 f24_E_a0 (Or.inl (ww hw 33 rfl)) (ww hw 2 rfl) (by decide) rfl rfl rfl fun T28 h28 X28 e28 W28 => ?_
              have f28_E_a0 := Exa.wr W28 f24_E_a0
              have f28_F_pending_a0 := Fld.other W28 f24_F_pending_a0 (Or.inr (slot_ne (Or.inl (ww hw 26 rfl)) (Or.inl (ww hw 33 rfl)) (by decide) (t := .int) (t' := .int) (by decide) (by decide)))
              have f28_F_high_a0 := Fld.other W28 f24_F_high_a0 (Or.inr (slot_ne (Or.inl (ww hw 35 rfl)) (Or.inl (ww hw 33 rfl)) (by decide) (t := .int) (t' := .int) (by decide) (by decide)))
              have f28_F_low_a0 := Fld.same W28 f24_F_low_a0
              have N28 := Fr.snoc X28 N24 g_a0
              have SZ28 : n0 ≤ h28.size := Nat.le_trans SZ24 (Keep.of_wr W28).1
              have K28 := Keep.wr K24 W28 (Or.inl (List.mem_of_getElem? (i := 0) rfl))
              refine Gz.aloadN 196 X28 hx (dd d6_195) rfl rfl rfl ?_
              refine Gz.iloadN 197 X28 hx (dd d6_196) rfl rfl ?_
              refine Gz.sipush 200 (244 : Int32) X28 hx (dd d6_197) rfl rfl ?_
              by_cases hc29 : p1 = (244 : Int32)
              · refine Gz.icmpNo 203 X28 hx (dd d6_200) (teq hc29).2 rfl ?_
                refine Gz.sipush 206 (143 : Int32) X28 hx (dd d6_203) rfl rfl ?_
                refine Gz.goto 212 X28 hx (dd d6_206) (by decide) (by decide) ?_
                refine Gz.putF 215 X28 hx hZ hown .int (dd d6_212) (host := "") (Or.inl (ww hw 34 rfl)) Via.refl e28 f28_F_high_a0 f28_E_a0 (Or.inl (ww hw 35 rfl)) (ww hw 2 rfl) (by decide) rfl rfl rfl fun T30 h30 X30 e30 W30 => ?_
                have f30_E_a0 := Exa.wr W30 f28_E_a0
                have f30_F_pending_a0 := Fld.other W30 f28_F_pending_a0 (Or.inr (slot_ne (Or.inl (ww hw 26 rfl)) (Or.inl (ww hw 35 rfl)) (by decide) (t := .int) (t' := .int) (by decide) (by decide)))
                have f30_F_low_a0 := Fld.other W30 f28_F_low_a0 (Or.inr (slot_ne (Or.inl (ww hw 33 rfl)) (Or.inl (ww hw 35 rfl)) (by decide) (t := .int) (t' := .int) (by decide) (by decide)))
                have f30_F_high_a0 := Fld.same W30 f28_F_high_a0
                have N30 := Fr.snoc X30 N28 g_a0
                have SZ30 : n0 ≤ h30.size := Nat.le_trans SZ28 (Keep.of_wr W30).1
                have K30 := Keep.wr K28 W30 (Or.inl (List.mem_of_getElem? (i := 0) rfl))
                refine Gz.goto 227 X30 hx (dd d6_215) (by decide) (by decide) ?_
                refine Gz.iloadN 228 X30 hx (dd d6_227) rfl rfl ?_
                refine Gz.fin X30 (v := some (.int (1 : Int32))) (fun h => by rw [hret] at h; cases h) hlk (by decide) (by decide) (fun fs hr => retN X30 hx (t := .boolean) hret (by simp) (dd d6_228) hr) ?_
                rw [e30]
                exact ⟨(by unfold fAcc; rw [if_neg hc2, if_neg hc19, if_pos hc21, if_pos hc22, if_neg hc23, if_neg hc25, if_pos hc29]), N30, K30, f30_E_a0, (by unfold fAcc_pending; rw [if_neg hc2, if_neg hc19, if_pos hc21, if_pos hc22, if_neg hc23, if_neg hc25, if_pos hc29]; exact f30_F_pending_a0), (by unfold fAcc_low; rw [if_neg hc2, if_neg hc19, if_pos hc21, if_pos hc22, if_neg hc23, if_neg hc25, if_pos hc29]; exact f30_F_low_a0), (by unfold fAcc_high; rw [if_neg hc2, if_neg hc19, if_pos hc21, if_pos hc22, if_neg hc23, if_neg hc25, if_pos hc29]; exact f30_F_high_a0)⟩
              · refine Gz.icmpYes 209 X28 hx (dd d6_200) (feq hc29).2 (by decide) (by decide) ?_
                refine Gz.sipush 212 (191 : Int32) X28 hx (dd d6_209) rfl rfl ?_
                refine Gz.putF 215 X28 hx hZ hown .int (dd d6_212) (host := "") (Or.inl (ww hw 34 rfl)) Via.refl e28 f28_F_high_a0 f28_E_a0 (Or.inl (ww hw 35 rfl)) (ww hw 2 rfl) (by decide) rfl rfl rfl fun T31 h31 X31 e31 W31 => ?_
                have f31_E_a0 := Exa.wr W31 f28_E_a0
                have f31_F_pending_a0 := Fld.other W31 f28_F_pending_a0 (Or.inr (slot_ne (Or.inl (ww hw 26 rfl)) (Or.inl (ww hw 35 rfl)) (by decide) (t := .int) (t' := .int) (by decide) (by decide)))
                have f31_F_low_a0 := Fld.other W31 f28_F_low_a0 (Or.inr (slot_ne (Or.inl (ww hw 33 rfl)) (Or.inl (ww hw 35 rfl)) (by decide) (t := .int) (t' := .int) (by decide) (by decide)))
                have f31_F_high_a0 := Fld.same W31 f28_F_high_a0
                have N31 := Fr.snoc X31 N28 g_a0
                have SZ31 : n0 ≤ h31.size := Nat.le_trans SZ28 (Keep.of_wr W31).1
                have K31 := Keep.wr K28 W31 (Or.inl (List.mem_of_getElem? (i := 0) rfl))
                refine Gz.goto 227 X31 hx (dd d6_215) (by decide) (by decide) ?_
                refine Gz.iloadN 228 X31 hx (dd d6_227) rfl rfl ?_
                refine Gz.fin X31 (v := some (.int (1 : Int32))) (fun h => by rw [hret] at h; cases h) hlk (by decide) (by decide) (fun fs hr => retN X31 hx (t := .boolean) hret (by simp) (dd d6_228) hr) ?_
                rw [e31]
                exact ⟨(by unfold fAcc; rw [if_neg hc2, if_neg hc19, if_pos hc21, if_pos hc22, if_neg hc23, if_neg hc25, if_neg hc29]), N31, K31, f31_E_a0, (by unfold fAcc_pending; rw [if_neg hc2, if_neg hc19, if_pos hc21, if_pos hc22, if_neg hc23, if_neg hc25, if_neg hc29]; exact f31_F_pending_a0), (by unfold fAcc_low; rw [if_neg hc2, if_neg hc19, if_pos hc21, if_pos hc22, if_neg hc23, if_neg hc25, if_neg hc29]; exact f31_F_low_a0), (by unfold fAcc_high; rw [if_neg hc2, if_neg hc19, if_pos hc21, if_pos hc22, if_neg hc23, if_neg hc25, if_neg hc29]; exact f31_F_high_a0)⟩
        · refine Gz.icmpNo 108 X1 hx (dd d6_105) (flt hc22).2.2.1 rfl ?_
          refine Gz.aloadN 109 X1 hx (dd d6_108) rfl rfl rfl ?_
          refine Gz.iconst 110 (2 : Int32) X1 hx (dd d6_109) rfl rfl ?_
          refine Gz.putF 113 X1 hx hZ hown .int (dd d6_110) (host := "") (Or.inl (ww hw 25 rfl)) Via.refl e1 F_pending_a0 E_a0 (Or.inl (ww hw 26 rfl)) (ww hw 2 rfl) (by decide) rfl rfl rfl fun T32 h32 X32 e32 W32 => ?_
          have f32_E_a0 := Exa.wr W32 E_a0
          have f32_F_low_a0 := Fld.other W32 F_low_a0 (Or.inr (slot_ne (Or.inl (ww hw 33 rfl)) (Or.inl (ww hw 26 rfl)) (by decide) (t := .int) (t' := .int) (by decide) (by decide)))
          have f32_F_high_a0 := Fld.other W32 F_high_a0 (Or.inr (slot_ne (Or.inl (ww hw 35 rfl)) (Or.inl (ww hw 26 rfl)) (by decide) (t := .int) (t' := .int) (by decide) (by decide)))
          have f32_F_pending_a0 := Fld.same W32 F_pending_a0
          have N32 := Fr.snoc X32 N0 g_a0
          have SZ32 : n0 ≤ h32.size := Nat.le_trans Z0 (Keep.of_wr W32).1
          have K32 := Keep.wr (Keep.refl h0 [a0]) W32 (Or.inl (List.mem_of_getElem? (i := 0) rfl))
          refine Gz.aloadN 114 X32 hx (dd d6_113) rfl rfl rfl ?_
          refine Gz.iloadN 115 X32 hx (dd d6_114) rfl rfl ?_
          refine Gz.sipush 118 (224 : Int32) X32 hx (dd d6_115) rfl rfl ?_
          by_cases hc33 : p1 = (224 : Int32)
          · refine Gz.icmpNo 121 X32 hx (dd d6_118) (teq hc33).2 rfl ?_
            refine Gz.sipush 124 (160 : Int32) X32 hx (dd d6_121) rfl rfl ?_
            refine Gz.goto 130 X32 hx (dd d6_124) (by decide) (by decide) ?_
            refine Gz.putF 133 X32 hx hZ hown .int (dd d6_130) (host := "") (Or.inl (ww hw 32 rfl)) Via.refl e32 f32_F_low_a0 f32_E_a0 (Or.inl (ww hw 33 rfl)) (ww hw 2 rfl) (by decide) rfl rfl rfl fun T34 h34 X34 e34 W34 => ?_
            have f34_E_a0 := Exa.wr W34 f32_E_a0
            have f34_F_pending_a0 := Fld.other W34 f32_F_pending_a0 (Or.inr (slot_ne (Or.inl (ww hw 26 rfl)) (Or.inl (ww hw 33 rfl)) (by decide) (t := .int) (t' := .int) (by decide) (by decide)))
            have f34_F_high_a0 := Fld.other W34 f32_F_high_a0 (Or.inr (slot_ne (Or.inl (ww hw 35 rfl)) (Or.inl (ww hw 33 rfl)) (by decide) (t := .int) (t' := .int) (by decide) (by decide)))
            have f34_F_low_a0 := Fld.same W34 f32_F_low_a0
            have N34 := Fr.snoc X34 N32 g_a0
            have SZ34 : n0 ≤ h34.size := Nat.le_trans SZ32 (Keep.of_wr W34).1
            have K34 := Keep.wr K32 W34 (Or.inl (List.mem_of_getElem? (i := 0) rfl))
            refine Gz.aloadN 134 X34 hx (dd d6_133) rfl rfl rfl ?_
            refine Gz.iloadN 135 X34 hx (dd d6_134) rfl rfl ?_
            refine Gz.sipush 138 (237 : Int32) X34 hx (dd d6_135) rfl rfl ?_
            refine Gz.icmpYes 147 X34 hx (dd d6_138) (feq (own_eqEf32 hc33 (by decide) : ¬ (p1 = (237 : Int32)))).2 (by decide) (by decide) ?_
            refine Gz.sipush 150 (191 : Int32) X34 hx (dd d6_147) rfl rfl ?_
            refine Gz.putF 153 X34 hx hZ hown .int (dd d6_150) (host := "") (Or.inl (ww hw 34 rfl)) Via.refl e34 f34_F_high_a0 f34_E_a0 (Or.inl (ww hw 35 rfl)) (ww hw 2 rfl) (by decide) rfl rfl rfl fun T35 h35 X35 e35 W35 => ?_
            have f35_E_a0 := Exa.wr W35 f34_E_a0
            have f35_F_pending_a0 := Fld.other W35 f34_F_pending_a0 (Or.inr (slot_ne (Or.inl (ww hw 26 rfl)) (Or.inl (ww hw 35 rfl)) (by decide) (t := .int) (t' := .int) (by decide) (by decide)))
            have f35_F_low_a0 := Fld.other W35 f34_F_low_a0 (Or.inr (slot_ne (Or.inl (ww hw 33 rfl)) (Or.inl (ww hw 35 rfl)) (by decide) (t := .int) (t' := .int) (by decide) (by decide)))
            have f35_F_high_a0 := Fld.same W35 f34_F_high_a0
            have N35 := Fr.snoc X35 N34 g_a0
            have SZ35 : n0 ≤ h35.size := Nat.le_trans SZ34 (Keep.of_wr W35).1
            have K35 := Keep.wr K34 W35 (Or.inl (List.mem_of_getElem? (i := 0) rfl))
            refine Gz.goto 227 X35 hx (dd d6_153) (by decide) (by decide) ?_
            refine Gz.iloadN 228 X35 hx (dd d6_227) rfl rfl ?_
            refine Gz.fin X35 (v := some (.int (1 : Int32))) (fun h => by rw [hret] at h; cases h) hlk (by decide) (by decide) (fun fs hr => retN X35 hx (t := .boolean) hret (by simp) (dd d6_228) hr) ?_
            rw [e35]
            exact ⟨(by unfold fAcc; rw [if_neg hc2, if_neg hc19, if_pos hc21, if_neg hc22, if_pos hc33]), N35, K35, f35_E_a0, (by unfold fAcc_pending; rw [if_neg hc2, if_neg hc19, if_pos hc21, if_neg hc22, if_pos hc33]; exact f35_F_pending_a0), (by unfold fAcc_low; rw [if_neg hc2, if_neg hc19, if_pos hc21, if_neg hc22, if_pos hc33]; exact f35_F_low_a0), (by unfold fAcc_high; rw [if_neg hc2, if_neg hc19, if_pos hc21, if_neg hc22, if_pos hc33]; exact f35_F_high_a0)⟩
          · refine Gz.icmpYes 127 X32 hx (dd d6_118) (feq hc33).2 (by decide) (by decide) ?_
            refine Gz.sipush 130 (128 : Int32) X32 hx (dd d6_127) rfl rfl ?_
            refine Gz.putF 133 X32 hx hZ hown .int (dd d6_130) (host := "") (Or.inl (ww hw 32 rfl)) Via.refl e32 f32_F_low_a0 f32_E_a0 (Or.inl (ww hw 33 rfl)) (ww hw 2 rfl) (by decide) rfl rfl rfl fun T36 h36 X36 e36 W36 => ?_
            have f36_E_a0 := Exa.wr W36 f32_E_a0
            have f36_F_pending_a0 := Fld.other W36 f32_F_pending_a0 (Or.inr (slot_ne (Or.inl (ww hw 26 rfl)) (Or.inl (ww hw 33 rfl)) (by decide) (t := .int) (t' := .int) (by decide) (by decide)))
            have f36_F_high_a0 := Fld.other W36 f32_F_high_a0 (Or.inr (slot_ne (Or.inl (ww hw 35 rfl)) (Or.inl (ww hw 33 rfl)) (by decide) (t := .int) (t' := .int) (by decide) (by decide)))
            have f36_F_low_a0 := Fld.same W36 f32_F_low_a0
            have N36 := Fr.snoc X36 N32 g_a0
            have SZ36 : n0 ≤ h36.size := Nat.le_trans SZ32 (Keep.of_wr W36).1
            have K36 := Keep.wr K32 W36 (Or.inl (List.mem_of_getElem? (i := 0) rfl))
            refine Gz.aloadN 134 X36 hx (dd d6_133) rfl rfl rfl ?_
            refine Gz.iloadN 135 X36 hx (dd d6_134) rfl rfl ?_
            refine Gz.sipush 138 (237 : Int32) X36 hx (dd d6_135) rfl rfl ?_
            by_cases hc37 : p1 = (237 : Int32)
            · refine Gz.icmpNo 141 X36 hx (dd d6_138) (teq hc37).2 rfl ?_
              refine Gz.sipush 144 (159 : Int32) X36 hx (dd d6_141) rfl rfl ?_
              refine Gz.goto 150 X36 hx (dd d6_144) (by decide) (by decide) ?_
              refine Gz.putF 153 X36 hx hZ hown .int (dd d6_150) (host := "") (Or.inl (ww hw 34 rfl)) Via.refl e36 f36_F_high_a0 f36_E_a0 (Or.inl (ww hw 35 rfl)) (ww hw 2 rfl) (by decide) rfl rfl rfl fun T38 h38 X38 e38 W38 => ?_
              have f38_E_a0 := Exa.wr W38 f36_E_a0
              have f38_F_pending_a0 := Fld.other W38 f36_F_pending_a0 (Or.inr (slot_ne (Or.inl (ww hw 26 rfl)) (Or.inl (ww hw 35 rfl)) (by decide) (t := .int) (t' := .int) (by decide) (by decide)))
              have f38_F_low_a0 := Fld.other W38 f36_F_low_a0 (Or.inr (slot_ne (Or.inl (ww hw 33 rfl)) (Or.inl (ww hw 35 rfl)) (by decide) (t := .int) (t' := .int) (by decide) (by decide)))
              have f38_F_high_a0 := Fld.same W38 f36_F_high_a0
              have N38 := Fr.snoc X38 N36 g_a0
              have SZ38 : n0 ≤ h38.size := Nat.le_trans SZ36 (Keep.of_wr W38).1
              have K38 := Keep.wr K36 W38 (Or.inl (List.mem_of_getElem? (i := 0) rfl))
              refine Gz.goto 227 X38 hx (dd d6_153) (by decide) (by decide) ?_
              refine Gz.iloadN 228 X38 hx (dd d6_227) rfl rfl ?_
              refine Gz.fin X38 (v := some (.int (1 : Int32))) (fun h => by rw [hret] at h; cases h) hlk (by decide) (by decide) (fun fs hr => retN X38 hx (t := .boolean) hret (by simp) (dd d6_228) hr) ?_
              rw [e38]
              exact ⟨(by unfold fAcc; rw [if_neg hc2, if_neg hc19, if_pos hc21, if_neg hc22, if_neg hc33, if_pos hc37]), N38, K38, f38_E_a0, (by unfold fAcc_pending; rw [if_neg hc2, if_neg hc19, if_pos hc21, if_neg hc22, if_neg hc33, if_pos hc37]; exact f38_F_pending_a0), (by unfold fAcc_low; rw [if_neg hc2, if_neg hc19, if_pos hc21, if_neg hc22, if_neg hc33, if_pos hc37]; exact f38_F_low_a0), (by unfold fAcc_high; rw [if_neg hc2, if_neg hc19, if_pos hc21, if_neg hc22, if_neg hc33, if_pos hc37]; exact f38_F_high_a0)⟩
            · refine Gz.icmpYes 147 X36 hx (dd d6_138) (feq hc37).2 (by decide) (by decide) ?_
              refine Gz.sipush 150 (191 : Int32) X36 hx (dd d6_147) rfl rfl ?_
              refine Gz.putF 153 X36 hx hZ hown .int (dd d6_150) (host := "") (Or.inl (ww hw 34 rfl)) Via.refl e36 f36_F_high_a0 f36_E_a0 (Or.inl (ww hw 35 rfl)) (ww hw 2 rfl) (by decide) rfl rfl rfl fun T39 h39 X39 e39 W39 => ?_
              have f39_E_a0 := Exa.wr W39 f36_E_a0
              have f39_F_pending_a0 := Fld.other W39 f36_F_pending_a0 (Or.inr (slot_ne (Or.inl (ww hw 26 rfl)) (Or.inl (ww hw 35 rfl)) (by decide) (t := .int) (t' := .int) (by decide) (by decide)))
              have f39_F_low_a0 := Fld.other W39 f36_F_low_a0 (Or.inr (slot_ne (Or.inl (ww hw 33 rfl)) (Or.inl (ww hw 35 rfl)) (by decide) (t := .int) (t' := .int) (by decide) (by decide)))
              have f39_F_high_a0 := Fld.same W39 f36_F_high_a0
              have N39 := Fr.snoc X39 N36 g_a0
              have SZ39 : n0 ≤ h39.size := Nat.le_trans SZ36 (Keep.of_wr W39).1
              have K39 := Keep.wr K36 W39 (Or.inl (List.mem_of_getElem? (i := 0) rfl))
              refine Gz.goto 227 X39 hx (dd d6_153) (by decide) (by decide) ?_
              refine Gz.iloadN 228 X39 hx (dd d6_227) rfl rfl ?_
              refine Gz.fin X39 (v := some (.int (1 : Int32))) (fun h => by rw [hret] at h; cases h) hlk (by decide) (by decide) (fun fs hr => retN X39 hx (t := .boolean) hret (by simp) (dd d6_228) hr) ?_
              rw [e39]
              exact ⟨(by unfold fAcc; rw [if_neg hc2, if_neg hc19, if_pos hc21, if_neg hc22, if_neg hc33, if_neg hc37]), N39, K39, f39_E_a0, (by unfold fAcc_pending; rw [if_neg hc2, if_neg hc19, if_pos hc21, if_neg hc22, if_neg hc33, if_neg hc37]; exact f39_F_pending_a0), (by unfold fAcc_low; rw [if_neg hc2, if_neg hc19, if_pos hc21, if_neg hc22, if_neg hc33, if_neg hc37]; exact f39_F_low_a0), (by unfold fAcc_high; rw [if_neg hc2, if_neg hc19, if_pos hc21, if_neg hc22, if_neg hc33, if_neg hc37]; exact f39_F_high_a0)⟩
      · refine Gz.icmpNo 72 X1 hx (dd d6_69) (flt hc21).2.2.1 rfl ?_
        refine Gz.aloadN 73 X1 hx (dd d6_72) rfl rfl rfl ?_
        refine Gz.iconst 74 (1 : Int32) X1 hx (dd d6_73) rfl rfl ?_
        refine Gz.putF 77 X1 hx hZ hown .int (dd d6_74) (host := "") (Or.inl (ww hw 25 rfl)) Via.refl e1 F_pending_a0 E_a0 (Or.inl (ww hw 26 rfl)) (ww hw 2 rfl) (by decide) rfl rfl rfl fun T40 h40 X40 e40 W40 => ?_
        have f40_E_a0 := Exa.wr W40 E_a0
        have f40_F_low_a0 := Fld.other W40 F_low_a0 (Or.inr (slot_ne (Or.inl (ww hw 33 rfl)) (Or.inl (ww hw 26 rfl)) (by decide) (t := .int) (t' := .int) (by decide) (by decide)))
        have f40_F_high_a0 := Fld.other W40 F_high_a0 (Or.inr (slot_ne (Or.inl (ww hw 35 rfl)) (Or.inl (ww hw 26 rfl)) (by decide) (t := .int) (t' := .int) (by decide) (by decide)))
        have f40_F_pending_a0 := Fld.same W40 F_pending_a0
        have N40 := Fr.snoc X40 N0 g_a0
        have SZ40 : n0 ≤ h40.size := Nat.le_trans Z0 (Keep.of_wr W40).1
        have K40 := Keep.wr (Keep.refl h0 [a0]) W40 (Or.inl (List.mem_of_getElem? (i := 0) rfl))
        refine Gz.aloadN 78 X40 hx (dd d6_77) rfl rfl rfl ?_
        refine Gz.sipush 81 (128 : Int32) X40 hx (dd d6_78) rfl rfl ?_
        refine Gz.putF 84 X40 hx hZ hown .int (dd d6_81) (host := "") (Or.inl (ww hw 32 rfl)) Via.refl e40 f40_F_low_a0 f40_E_a0 (Or.inl (ww hw 33 rfl)) (ww hw 2 rfl) (by decide) rfl rfl rfl fun T41 h41 X41 e41 W41 => ?_
        have f41_E_a0 := Exa.wr W41 f40_E_a0
        have f41_F_pending_a0 := Fld.other W41 f40_F_pending_a0 (Or.inr (slot_ne (Or.inl (ww hw 26 rfl)) (Or.inl (ww hw 33 rfl)) (by decide) (t := .int) (t' := .int) (by decide) (by decide)))
        have f41_F_high_a0 := Fld.other W41 f40_F_high_a0 (Or.inr (slot_ne (Or.inl (ww hw 35 rfl)) (Or.inl (ww hw 33 rfl)) (by decide) (t := .int) (t' := .int) (by decide) (by decide)))
        have f41_F_low_a0 := Fld.same W41 f40_F_low_a0
        have N41 := Fr.snoc X41 N40 g_a0
        have SZ41 : n0 ≤ h41.size := Nat.le_trans SZ40 (Keep.of_wr W41).1
        have K41 := Keep.wr K40 W41 (Or.inl (List.mem_of_getElem? (i := 0) rfl))
        refine Gz.aloadN 85 X41 hx (dd d6_84) rfl rfl rfl ?_
        refine Gz.sipush 88 (191 : Int32) X41 hx (dd d6_85) rfl rfl ?_
        refine Gz.putF 91 X41 hx hZ hown .int (dd d6_88) (host := "") (Or.inl (ww hw 34 rfl)) Via.refl e41 f41_F_high_a0 f41_E_a0 (Or.inl (ww hw 35 rfl)) (ww hw 2 rfl) (by decide) rfl rfl rfl fun T42 h42 X42 e42 W42 => ?_
        have f42_E_a0 := Exa.wr W42 f41_E_a0
        have f42_F_pending_a0 := Fld.other W42 f41_F_pending_a0 (Or.inr (slot_ne (Or.inl (ww hw 26 rfl)) (Or.inl (ww hw 35 rfl)) (by decide) (t := .int) (t' := .int) (by decide) (by decide)))
        have f42_F_low_a0 := Fld.other W42 f41_F_low_a0 (Or.inr (slot_ne (Or.inl (ww hw 33 rfl)) (Or.inl (ww hw 35 rfl)) (by decide) (t := .int) (t' := .int) (by decide) (by decide)))
        have f42_F_high_a0 := Fld.same W42 f41_F_high_a0
        have N42 := Fr.snoc X42 N41 g_a0
        have SZ42 : n0 ≤ h42.size := Nat.le_trans SZ41 (Keep.of_wr W42).1
        have K42 := Keep.wr K41 W42 (Or.inl (List.mem_of_getElem? (i := 0) rfl))
        refine Gz.goto 227 X42 hx (dd d6_91) (by decide) (by decide) ?_
        refine Gz.iloadN 228 X42 hx (dd d6_227) rfl rfl ?_
        refine Gz.fin X42 (v := some (.int (1 : Int32))) (fun h => by rw [hret] at h; cases h) hlk (by decide) (by decide) (fun fs hr => retN X42 hx (t := .boolean) hret (by simp) (dd d6_228) hr) ?_
        rw [e42]
        exact ⟨(by unfold fAcc; rw [if_neg hc2, if_neg hc19, if_neg hc21]), N42, K42, f42_E_a0, (by unfold fAcc_pending; rw [if_neg hc2, if_neg hc19, if_neg hc21]; exact f42_F_pending_a0), (by unfold fAcc_low; rw [if_neg hc2, if_neg hc19, if_neg hc21]; exact f42_F_low_a0), (by unfold fAcc_high; rw [if_neg hc2, if_neg hc19, if_neg hc21]; exact f42_F_high_a0)⟩
theorem d7_0 : decode prog_23_method_4_code 0 = .ok (.aload_n 0, 1) := by decide +kernel
theorem d7_1 : decode prog_23_method_4_code 1 = .ok (.getfield 18, 3) := by decide +kernel
theorem d7_4 : decode prog_23_method_4_code 4 = .ok (.ifCond .ne 7, 3) := by decide +kernel
theorem d7_7 : decode prog_23_method_4_code 7 = .ok (.iconst 1, 1) := by decide +kernel
theorem d7_8 : decode prog_23_method_4_code 8 = .ok (.goto 4, 3) := by decide +kernel
theorem d7_11 : decode prog_23_method_4_code 11 = .ok (.iconst 0, 1) := by decide +kernel
theorem d7_12 : decode prog_23_method_4_code 12 = .ok (.ireturn, 1) := by decide +kernel
theorem ef_rm7 (m : MethodId) (a0 : Addr) : entryFrame m #[(.ref a0)] 1 = mkF m 0 #[.val (.ref a0)] [] := by first | (simp [entryFrame, mkF, argsToLocals, Value.category]; done) | rfl
def fEnd (a0 : Addr) (PE_ : Int32) : Int32 := (if PE_ = (0 : Int32) then (1 : Int32) else (0 : Int32))
def Q_rm7 (Z : State) (a0 : Addr) (PE_ : Int32) (h0 : Heap) (n0 : Nat) (v : Option Value) (h : Heap) (L : List Loc) : Prop := v = some (.int (fEnd a0 PE_)) ∧ Fr n0 L ∧ h = h0
set_option maxRecDepth 65536 in
set_option maxHeartbeats 40000000 in
theorem rm7 (l : Launch) (Z : State) (av0 : Array Value) (hw : ∀ d ∈ tables_1, d.before av0 Z = true) (ws : List Jvm.Cond) (a0 : Addr) (PE_ : Int32) (h0 : Heap) (n0 : Nat) (Z0 : n0 ≤ h0.size) (F_pending_a0 : Fld Z h0 a0 "com/example/fold3/fold3/input/Utf8Check" "pending" "I" (.int PE_)) :
    MetFree l (⟨"com/example/fold3/fold3/input/Utf8Check", "atCharacterEnd", "()Z"⟩ : MethodName) (head1 (Jvm.Cond.code (⟨"com/example/fold3/fold3/input/Utf8Check", "atCharacterEnd", "()Z"⟩ : MethodName) prog_23_method_4_code 1 (some .boolean) :: ws) ({ frames := 0, cells := 0, slots := 0, locals := 0 } : Room)) (fun a U => a = #[(.ref a0)] ∧ Z.Warmed39 U.vm ∧ U.heap = h0) (fun _ _ _ _ _ => True) (fun _ U o U' => ∃ v L, o = .returned v ∧ Q_rm7 Z a0 PE_ h0 n0 v U'.heap L ∧ FrameEnd U o U' L ({ frames := 0, cells := 0, slots := 0, locals := 0 } : Room).cells ({ frames := 0, cells := 0, slots := 0, locals := 0 } : Room).slots) := by
  refine MetFree.of_bodySF (plainFor_of_name pn_0) hisR ?_
  intro p e s m args below meth c s₁ Bd hml0 hP hK
  obtain ⟨rfl, hZ, hh⟩ := hP
  have hx := Bd.exec
  have hby := Bd.bytes
  have hml : c.maxLocals = 1 := hml0
  have dd : ∀ {pc : Nat} {r : Except DecodeError (Instr × Nat)}, decode prog_23_method_4_code pc = r → decode c.code pc = r := fun q => hb hby q
  have hown : s.vm.findClass "com/example/fold3/fold3/input/Utf8Check" = some m.cls := findClass_of_methodNamed Bd.named
  have hnm := (name_of_methodNamed Bd.named Bd.method).1
  have X0 : Stand p l e ({ frames := 0, cells := 0, slots := 0, locals := 0 } : Room) s m #[(.ref a0)] below meth c s₁ [] 0 0 := Stand.of_body Bd
  have e0 : s₁.heap = h0 := by rw [← hh, Bd.state]; rfl
  have N0 := Fr.nil n0
  have hret := Bd.returns
  have hlk := Bd.notSynchronized
  show Gz p e below s ({ frames := 0, cells := 0, slots := 0, locals := 0 } : Room).cells ({ frames := 0, cells := 0, slots := 0, locals := 0 } : Room).slots (Q_rm7 Z a0 PE_ h0 n0) (s₁.setTop (entryFrame m #[(.ref a0)] 1))
  refine Gz.enter (ef_rm7 m a0) ?_
  refine Gz.aloadN 1 X0 hx (dd d7_0) rfl rfl rfl ?_
  refine Gz.getF 4 X0 hx hZ hown (dd d7_1) (host := "") (Or.inl (ww hw 25 rfl)) Via.refl e0 F_pending_a0 rfl fun T1 X1 e1 => ?_
  by_cases hc2 : PE_ = (0 : Int32)
  · refine Gz.ifNo 7 X1 hx (dd d7_4) ((if0 _ _).trans (teq hc2).2) rfl ?_
    refine Gz.iconst 8 (1 : Int32) X1 hx (dd d7_7) rfl rfl ?_
    refine Gz.goto 12 X1 hx (dd d7_8) (by decide) (by decide) ?_
    refine Gz.fin X1 (v := some (.int (1 : Int32))) (fun h => by rw [hret] at h; cases h) hlk (by decide) (by decide) (fun fs hr => retN X1 hx (t := .boolean) hret (by simp) (dd d7_12) hr) ?_
    rw [e1]
    exact ⟨(by unfold fEnd; rw [if_pos hc2]), N0, rfl⟩
  · refine Gz.ifYes 11 X1 hx (dd d7_4) ((if0 _ _).trans (feq hc2).2) (by decide) (by decide) ?_
    refine Gz.iconst 12 (0 : Int32) X1 hx (dd d7_11) rfl rfl ?_
    refine Gz.fin X1 (v := some (.int (0 : Int32))) (fun h => by rw [hret] at h; cases h) hlk (by decide) (by decide) (fun fs hr => retN X1 hx (t := .boolean) hret (by simp) (dd d7_12) hr) ?_
    rw [e1]
    exact ⟨(by unfold fEnd; rw [if_neg hc2]), N0, rfl⟩
theorem own_as (a b : Int32) : a + (b - a) = b := by rw [Int32.add_comm, Int32.sub_add_cancel]
theorem pd_2 : parseMethodDescriptor "([III)Z" = some ⟨[(.array .int), .int, .int], some .boolean⟩ := by decide +kernel
theorem pd_3 : parseMethodDescriptor "()Z" = some ⟨[], some .boolean⟩ := by decide +kernel
theorem d3_0 : decode method_6_code 0 = .ok (.iload_n 2, 1) := by decide +kernel
theorem d3_1 : decode method_6_code 1 = .ok (.ifCond .ge 5, 3) := by decide +kernel
theorem d3_6 : decode method_6_code 6 = .ok (.aload_n 1, 1) := by decide +kernel
theorem d3_7 : decode method_6_code 7 = .ok (.iload_n 2, 1) := by decide +kernel
theorem d3_8 : decode method_6_code 8 = .ok (.iload_n 3, 1) := by decide +kernel
theorem d3_9 : decode method_6_code 9 = .ok (.iload_n 2, 1) := by decide +kernel
theorem d3_10 : decode method_6_code 10 = .ok (.isub, 1) := by decide +kernel
theorem d3_11 : decode method_6_code 11 = .ok (.invokestatic 28, 3) := by decide +kernel
theorem d3_14 : decode method_6_code 14 = .ok (.istore 4, 2) := by decide +kernel
theorem d3_16 : decode method_6_code 16 = .ok (.aload_n 0, 1) := by decide +kernel
theorem d3_17 : decode method_6_code 17 = .ok (.aload_n 1, 1) := by decide +kernel
theorem d3_18 : decode method_6_code 18 = .ok (.iload_n 3, 1) := by decide +kernel
theorem d3_19 : decode method_6_code 19 = .ok (.iaload, 1) := by decide +kernel
theorem d3_20 : decode method_6_code 20 = .ok (.invokevirtual 32, 3) := by decide +kernel
theorem d3_23 : decode method_6_code 23 = .ok (.istore 5, 2) := by decide +kernel
theorem d3_25 : decode method_6_code 25 = .ok (.iload 5, 2) := by decide +kernel
theorem d3_27 : decode method_6_code 27 = .ok (.iload 4, 2) := by decide +kernel
theorem d3_29 : decode method_6_code 29 = .ok (.if_icmp .eq 6, 3) := by decide +kernel
theorem d3_32 : decode method_6_code 32 = .ok (.bipush (-9), 2) := by decide +kernel
theorem d3_34 : decode method_6_code 34 = .ok (.ireturn, 1) := by decide +kernel
theorem d3_35 : decode method_6_code 35 = .ok (.iload 4, 2) := by decide +kernel
theorem d3_37 : decode method_6_code 37 = .ok (.ifCond .ne 5, 3) := by decide +kernel
theorem d3_40 : decode method_6_code 40 = .ok (.iconst (-1), 1) := by decide +kernel
theorem d3_41 : decode method_6_code 41 = .ok (.ireturn, 1) := by decide +kernel
theorem d3_42 : decode method_6_code 42 = .ok (.aload_n 1, 1) := by decide +kernel
theorem d3_43 : decode method_6_code 43 = .ok (.iload_n 2, 1) := by decide +kernel
theorem d3_44 : decode method_6_code 44 = .ok (.iaload, 1) := by decide +kernel
theorem d3_45 : decode method_6_code 45 = .ok (.invokestatic 17, 3) := by decide +kernel
theorem d3_48 : decode method_6_code 48 = .ok (.istore 6, 2) := by decide +kernel
theorem d3_50 : decode method_6_code 50 = .ok (.iload_n 3, 1) := by decide +kernel
theorem d3_51 : decode method_6_code 51 = .ok (.iload_n 2, 1) := by decide +kernel
theorem d3_52 : decode method_6_code 52 = .ok (.isub, 1) := by decide +kernel
theorem d3_53 : decode method_6_code 53 = .ok (.iconst 1, 1) := by decide +kernel
theorem d3_54 : decode method_6_code 54 = .ok (.iadd, 1) := by decide +kernel
theorem d3_55 : decode method_6_code 55 = .ok (.iload 6, 2) := by decide +kernel
theorem d3_57 : decode method_6_code 57 = .ok (.if_icmp .ne 9, 3) := by decide +kernel
theorem d3_60 : decode method_6_code 60 = .ok (.iload_n 3, 1) := by decide +kernel
theorem d3_61 : decode method_6_code 61 = .ok (.iconst 1, 1) := by decide +kernel
theorem d3_62 : decode method_6_code 62 = .ok (.iadd, 1) := by decide +kernel
theorem d3_63 : decode method_6_code 63 = .ok (.goto 4, 3) := by decide +kernel
theorem d3_66 : decode method_6_code 66 = .ok (.iload_n 2, 1) := by decide +kernel
theorem d3_67 : decode method_6_code 67 = .ok (.istore 7, 2) := by decide +kernel
theorem d3_69 : decode method_6_code 69 = .ok (.aload_n 0, 1) := by decide +kernel
theorem d3_70 : decode method_6_code 70 = .ok (.invokevirtual 35, 3) := by decide +kernel
theorem d3_73 : decode method_6_code 73 = .ok (.iload 7, 2) := by decide +kernel
theorem d3_75 : decode method_6_code 75 = .ok (.iload_n 3, 1) := by decide +kernel
theorem d3_76 : decode method_6_code 76 = .ok (.iconst 1, 1) := by decide +kernel
theorem d3_77 : decode method_6_code 77 = .ok (.iadd, 1) := by decide +kernel
theorem d3_78 : decode method_6_code 78 = .ok (.if_icmp .ne 7, 3) := by decide +kernel
theorem d3_81 : decode method_6_code 81 = .ok (.iconst 1, 1) := by decide +kernel
theorem d3_82 : decode method_6_code 82 = .ok (.goto 4, 3) := by decide +kernel
theorem d3_85 : decode method_6_code 85 = .ok (.iconst 0, 1) := by decide +kernel
theorem d3_86 : decode method_6_code 86 = .ok (.if_icmp .eq 6, 3) := by decide +kernel
theorem d3_89 : decode method_6_code 89 = .ok (.bipush (-9), 2) := by decide +kernel
theorem d3_91 : decode method_6_code 91 = .ok (.ireturn, 1) := by decide +kernel
theorem d3_92 : decode method_6_code 92 = .ok (.iload 7, 2) := by decide +kernel
theorem d3_94 : decode method_6_code 94 = .ok (.ireturn, 1) := by decide +kernel
theorem ef_rm3 (m : MethodId) (a0 : Addr) (a1 : Addr) (p2 : Int32) (p3 : Int32) : entryFrame m #[(.ref a0), (.ref a1), (.int p2), (.int p3)] 8 = mkF m 0 #[.val (.ref a0), .val (.ref a1), .val (.int p2), .val (.int p3), .unset, .unset, .unset, .unset] [] := by first | (simp [entryFrame, mkF, argsToLocals, Value.category]; done) | rfl
def fStep (a0 : Addr) (a1 : Addr) (p2 : Int32) (p3 : Int32) (PE_ : Int32) (LO_ : Int32) (HI_ : Int32) (ld : Int32) (vv : Int32) : Int32 := (if (fAcc a0 vv PE_ LO_ HI_) = (fVal a1 p2 (p3 - p2) ld vv) then (if (fVal a1 p2 (p3 - p2) ld vv) = (0 : Int32) then (-1 : Int32) else (if ((p3 - p2) + (1 : Int32)) = (fLen ld) then (if (fEnd a0 (fAcc_pending a0 vv PE_ LO_ HI_)) = (1 : Int32) then (p3 + (1 : Int32)) else (-9 : Int32)) else (if p2 = (p3 + (1 : Int32)) then (if (fEnd a0 (fAcc_pending a0 vv PE_ LO_ HI_)) = (1 : Int32) then p2 else (-9 : Int32)) else (if (fEnd a0 (fAcc_pending a0 vv PE_ LO_ HI_)) = (0 : Int32) then p2 else (-9 : Int32))))) else (-9 : Int32))
def fStep_pending (a0 : Addr) (a1 : Addr) (p2 : Int32) (p3 : Int32) (PE_ : Int32) (LO_ : Int32) (HI_ : Int32) (ld : Int32) (vv : Int32) : Int32 := (if (fAcc a0 vv PE_ LO_ HI_) = (fVal a1 p2 (p3 - p2) ld vv) then (if (fVal a1 p2 (p3 - p2) ld vv) = (0 : Int32) then (fAcc_pending a0 vv PE_ LO_ HI_) else (if ((p3 - p2) + (1 : Int32)) = (fLen ld) then (if (fEnd a0 (fAcc_pending a0 vv PE_ LO_ HI_)) = (1 : Int32) then (fAcc_pending a0 vv PE_ LO_ HI_) else (fAcc_pending a0 vv PE_ LO_ HI_)) else (if p2 = (p3 + (1 : Int32)) then (if (fEnd a0 (fAcc_pending a0 vv PE_ LO_ HI_)) = (1 : Int32) then (fAcc_pending a0 vv PE_ LO_ HI_) else (fAcc_pending a0 vv PE_ LO_ HI_)) else (if (fEnd a0 (fAcc_pending a0 vv PE_ LO_ HI_)) = (0 : Int32) then (fAcc_pending a0 vv PE_ LO_ HI_) else (fAcc_pending a0 vv PE_ LO_ HI_))))) else (fAcc_pending a0 vv PE_ LO_ HI_))
def fStep_low (a0 : Addr) (a1 : Addr) (p2 : Int32) (p3 : Int32) (PE_ : Int32) (LO_ : Int32) (HI_ : Int32) (ld : Int32) (vv : Int32) : Int32 := (if (fAcc a0 vv PE_ LO_ HI_) = (fVal a1 p2 (p3 - p2) ld vv) then (if (fVal a1 p2 (p3 - p2) ld vv) = (0 : Int32) then (fAcc_low a0 vv PE_ LO_ HI_) else (if ((p3 - p2) + (1 : Int32)) = (fLen ld) then (if (fEnd a0 (fAcc_pending a0 vv PE_ LO_ HI_)) = (1 : Int32) then (fAcc_low a0 vv PE_ LO_ HI_) else (fAcc_low a0 vv PE_ LO_ HI_)) else (if p2 = (p3 + (1 : Int32)) then (if (fEnd a0 (fAcc_pending a0 vv PE_ LO_ HI_)) = (1 : Int32) then (fAcc_low a0 vv PE_ LO_ HI_) else (fAcc_low a0 vv PE_ LO_ HI_)) else (if (fEnd a0 (fAcc_pending a0 vv PE_ LO_ HI_)) = (0 : Int32) then (fAcc_low a0 vv PE_ LO_ HI_) else (fAcc_low a0 vv PE_ LO_ HI_))))) else (fAcc_low a0 vv PE_ LO_ HI_))
def fStep_high (a0 : Addr) (a1 : Addr) (p2 : Int32) (p3 : Int32) (PE_ : Int32) (LO_ : Int32) (HI_ : Int32) (ld : Int32) (vv : Int32) : Int32 := (if (fAcc a0 vv PE_ LO_ HI_) = (fVal a1 p2 (p3 - p2) ld vv) then (if (fVal a1 p2 (p3 - p2) ld vv) = (0 : Int32) then (fAcc_high a0 vv PE_ LO_ HI_) else (if ((p3 - p2) + (1 : Int32)) = (fLen ld) then (if (fEnd a0 (fAcc_pending a0 vv PE_ LO_ HI_)) = (1 : Int32) then (fAcc_high a0 vv PE_ LO_ HI_) else (fAcc_high a0 vv PE_ LO_ HI_)) else (if p2 = (p3 + (1 : Int32)) then (if (fEnd a0 (fAcc_pending a0 vv PE_ LO_ HI_)) = (1 : Int32) then (fAcc_high a0 vv PE_ LO_ HI_) else (fAcc_high a0 vv PE_ LO_ HI_)) else (if (fEnd a0 (fAcc_pending a0 vv PE_ LO_ HI_)) = (0 : Int32) then (fAcc_high a0 vv PE_ LO_ HI_) else (fAcc_high a0 vv PE_ LO_ HI_))))) else (fAcc_high a0 vv PE_ LO_ HI_))
def Q_rm3 (Z : State) (a0 : Addr) (a1 : Addr) (p2 : Int32) (p3 : Int32) (PE_ : Int32) (LO_ : Int32) (HI_ : Int32) (cl_a1 : Cell) (ld : Int32) (vv : Int32) (h0 : Heap) (n0 : Nat) (v : Option Value) (h : Heap) (L : List Loc) : Prop := v = some (.int (fStep a0 a1 p2 p3 PE_ LO_ HI_ ld vv)) ∧ Fr n0 L ∧ Keep h0 h [a0] ∧ Exa Z h a0 "com/example/fold3/fold3/input/Utf8Check" ∧ Fld Z h a0 "com/example/fold3/fold3/input/Utf8Check" "pending" "I" (.int (fStep_pending a0 a1 p2 p3 PE_ LO_ HI_ ld vv)) ∧ Fld Z h a0 "com/example/fold3/fold3/input/Utf8Check" "low" "I" (.int (fStep_low a0 a1 p2 p3 PE_ LO_ HI_ ld vv)) ∧ Fld Z h a0 "com/example/fold3/fold3/input/Utf8Check" "high" "I" (.int (fStep_high a0 a1 p2 p3 PE_ LO_ HI_ ld vv))
set_option maxRecDepth 65536 in
set_option maxHeartbeats 40000000 in
theorem rm3 (l : Launch) (Z : State) (av0 : Array Value) (hw : ∀ d ∈ tables_1, d.before av0 Z = true) (ws : List Jvm.Cond) (a0 : Addr) (a1 : Addr) (p2 : Int32) (p3 : Int32) (PE_ : Int32) (LO_ : Int32) (HI_ : Int32) (cl_a1 : Cell) (ld : Int32) (vv : Int32) (h0 : Heap) (n0 : Nat) (Z0 : n0 ≤ h0.size) (E_a0 : Exa Z h0 a0 "com/example/fold3/fold3/input/Utf8Check") (F_pending_a0 : Fld Z h0 a0 "com/example/fold3/fold3/input/Utf8Check" "pending" "I" (.int PE_)) (F_low_a0 : Fld Z h0 a0 "com/example/fold3/fold3/input/Utf8Check" "low" "I" (.int LO_)) (F_high_a0 : Fld Z h0 a0 "com/example/fold3/fold3/input/Utf8Check" "high" "I" (.int HI_)) (g_a0 : n0 ≤ a0) (Ar_a1 : Arr Z h0 a1 cl_a1 .int) (hin_a1_6 : ¬ (p2 < 0 ∨ cl_a1.slots.size ≤ (p2).toNatClampNeg)) (hat_a1_6 : cl_a1.slots[(p2).toNatClampNeg]? = some (.int ld)) (hin_a1_8 : ¬ (p3 < 0 ∨ cl_a1.slots.size ≤ (p3).toNatClampNeg)) (hat_a1_8 : cl_a1.slots[(p3).toNatClampNeg]? = some (.int vv)) (ne_a1_a0 : a1 ≠ a0) (hnn : ¬ (p2 < (0 : Int32))) :
    MetFree l (⟨"com/example/fold3/fold3/input/Utf8CheckAcceptPinLaw", "step", "(Lcom/example/fold3/fold3/input/Utf8Check;[III)I"⟩ : MethodName) (head1 (Jvm.Cond.code (⟨"com/example/fold3/fold3/input/Utf8CheckAcceptPinLaw", "step", "(Lcom/example/fold3/fold3/input/Utf8Check;[III)I"⟩ : MethodName) method_6_code 8 (some .int) :: ws) ({ frames := 2, cells := 0, slots := 0, locals := 30 } : Room)) (fun a U => a = #[(.ref a0), (.ref a1), (.int p2), (.int p3)] ∧ Z.Warmed39 U.vm ∧ U.heap = h0) (fun _ _ _ _ _ => True) (fun _ U o U' => ∃ v L, o = .returned v ∧ Q_rm3 Z a0 a1 p2 p3 PE_ LO_ HI_ cl_a1 ld vv h0 n0 v U'.heap L ∧ FrameEnd U o U' L ({ frames := 2, cells := 0, slots := 0, locals := 30 } : Room).cells ({ frames := 2, cells := 0, slots := 0, locals := 30 } : Room).slots) := by
  refine MetFree.of_bodySF (plainFor_of_name pn_1) hisR ?_
  intro p e s m args below meth c s₁ Bd hml0 hP hK
  obtain ⟨rfl, hZ, hh⟩ := hP
  have hx := Bd.exec
  have hby := Bd.bytes
  have hml : c.maxLocals = 8 := hml0
  have dd : ∀ {pc : Nat} {r : Except DecodeError (Instr × Nat)}, decode method_6_code pc = r → decode c.code pc = r := fun q => hb hby q
  have hown : s.vm.findClass "com/example/fold3/fold3/input/Utf8CheckAcceptPinLaw" = some m.cls := findClass_of_methodNamed Bd.named
  have hnm := (name_of_methodNamed Bd.named Bd.method).1
  have X0 : Stand p l e ({ frames := 2, cells := 0, slots := 0, locals := 30 } : Room) s m #[(.ref a0), (.ref a1), (.int p2), (.int p3)] below meth c s₁ [] 0 0 := Stand.of_body Bd
  have e0 : s₁.heap = h0 := by rw [← hh, Bd.state]; rfl
  have N0 := Fr.nil n0
  have hret := Bd.returns
  have hlk := Bd.notSynchronized
  show Gz p e below s ({ frames := 2, cells := 0, slots := 0, locals := 30 } : Room).cells ({ frames := 2, cells := 0, slots := 0, locals := 30 } : Room).slots (Q_rm3 Z a0 a1 p2 p3 PE_ LO_ HI_ cl_a1 ld vv h0 n0) (s₁.setTop (entryFrame m #[(.ref a0), (.ref a1), (.int p2), (.int p3)] 8))
  refine Gz.enter (ef_rm3 m a0 a1 p2 p3) ?_
  refine Gz.iloadN 1 X0 hx (dd d3_0) rfl rfl ?_
  refine Gz.ifYes 6 X0 hx (dd d3_1) ((if0 _ _).trans (flt (hnn : ¬ (p2 < (0 : Int32)))).2.1) (by decide) (by decide) ?_
  refine Gz.aloadN 7 X0 hx (dd d3_6) rfl rfl rfl ?_
  refine Gz.iloadN 8 X0 hx (dd d3_7) rfl rfl ?_
  refine Gz.iloadN 9 X0 hx (dd d3_8) rfl rfl ?_
  refine Gz.iloadN 10 X0 hx (dd d3_9) rfl rfl ?_
  refine Gz.isub 11 X0 hx (dd d3_10) rfl ?_
  have hin1 : ¬ ((p2 + (p3 - p2)) < 0 ∨ cl_a1.slots.size ≤ ((p2 + (p3 - p2))).toNatClampNeg) := by rw [own_as p2 p3]; exact hin_a1_8
  have hat1 : cl_a1.slots[((p2 + (p3 - p2))).toNatClampNeg]? = some (.int vv) := by rw [own_as p2 p3]; exact hat_a1_8
  obtain ⟨_, _, ⟨T2, L2, k2, n2⟩, -, X2, ⟨Lc2, hQ2, l2, y2, z2⟩, st2⟩ := Jvm.LawKit.callS X0 hx (y := (⟨"com/example/fold3/fold3/input/Utf8CheckAcceptPinLaw", "valid", "([III)Z"⟩ : MethodName)) hown (mvT hZ (ww hw 14 rfl)) (mvT hZ (ww hw 15 rfl)) (mvT hZ (ww hw 12 rfl)) (mvT hZ (ww hw 16 rfl)) (by decide) (backOf (W := 0) (rm4 l Z av0 hw [] a1 p2 (p3 - p2) cl_a1 ld vv h0 n0 Z0 Ar_a1 hin_a1_6 hat_a1_6 hin1 hat1) hZ (ww hw 16 rfl) (ww hw 12 rfl) (by decide) (by decide)) (g := (mkF m 11 #[.val (.ref a0), .val (.ref a1), .val (.int p2), .val (.int p3), .unset, .unset, .unset, .unset] [(.int (p3 - p2)), (.int p2), (.ref a1)])) rfl (by rw [hml]; rfl) (argsL := [(.ref a1), (.int p2), (.int (p3 - p2))]) (rest := []) (lenOf pd_2 rfl) rfl (by show 2 * 0 + _ ≤ _; exact Nat.le_of_eq rfl) (dd d3_11) (fun _ _ => ⟨rfl, e0, (by decide : 0 + 0 ≤ _), (by decide : 0 + 0 ≤ _)⟩)
  dsimp only [Pt.U, Pt.locs, Pt.cells, Pt.slots, Q_rm4] at X2 l2 y2 z2 st2 hQ2
  subst l2 y2 z2
  obtain ⟨rfl, N2q, e2⟩ := hQ2
  have N2 := Fr.app N0 N2q
  refine Gz.st st2 ?_
  refine Gz.istore 16 #[.val (.ref a0), .val (.ref a1), .val (.int p2), .val (.int p3), .val (.int (fVal a1 p2 (p3 - p2) ld vv)), .unset, .unset, .unset] X2 hx (dd d3_14) rfl rfl ?_
  refine Gz.aloadN 17 X2 hx (dd d3_16) rfl rfl rfl ?_
  refine Gz.aloadN 18 X2 hx (dd d3_17) rfl rfl rfl ?_
  refine Gz.iloadN 19 X2 hx (dd d3_18) rfl rfl ?_
  refine Gz.ldI 20 X2 hx hZ (dd d3_19) e2 Ar_a1 hin_a1_8 hat_a1_8 rfl ?_
  obtain ⟨cq3, kq3, q3a, q3b, q3c⟩ := isOf hZ e2 E_a0
  obtain ⟨_, _, ⟨T3, L3, k3, n3⟩, -, X3, ⟨Lc3, hQ3, l3, y3, z3⟩, st3⟩ := X2.virtualBack hx (y := (⟨"com/example/fold3/fold3/input/Utf8Check", "accept", "(I)Z"⟩ : MethodName)) (z := (⟨"com/example/fold3/fold3/input/Utf8Check", "accept", "(I)Z"⟩ : MethodName)) hown (mvT hZ (ww hw 20 rfl)) (mvT hZ (ww hw 21 rfl)) (notFace_of_selects (args := #[]) (mvT hZ (ww hw 23 rfl))) (mvT hZ (ww hw 23 rfl)) (mvT hZ (ww hw 22 rfl)) (by decide) (backOf (W := 0) (rm6 l Z av0 hw [] a0 vv PE_ LO_ HI_ h0 n0 Z0 E_a0 F_pending_a0 F_low_a0 F_high_a0 g_a0) hZ (ww hw 24 rfl) (ww hw 3 rfl) (by decide) (by decide)) q3a q3c (g := (mkF m 20 #[.val (.ref a0), .val (.ref a1), .val (.int p2), .val (.int p3), .val (.int (fVal a1 p2 (p3 - p2) ld vv)), .unset, .unset, .unset] [(.int vv), (.ref a0)])) rfl (by rw [hml]; rfl) (Steps.refl _) (argsL := [(.int vv)]) (rest := []) (lenOf pd_1 rfl) rfl (by show 2 * 0 + _ ≤ _; exact Nat.le_of_eq rfl) (dd d3_20) (fun _ _ => ⟨rfl, e2, (by decide : 0 + 0 ≤ _), (by decide : 0 + 0 ≤ _)⟩)
  dsimp only [Pt.U, Pt.locs, Pt.cells, Pt.slots, Q_rm6] at X3 l3 y3 z3 st3 hQ3
  subst l3 y3 z3
  obtain ⟨rfl, N3q, K3q, QE3_0, QF3_0, QF3_1, QF3_2⟩ := hQ3
  have N3 := Fr.app N2 N3q
  have f3_E_a0 := Exa.keep E_a0 K3q
  have f3_Ar_a1 := (⟨K3q.2.1 _ _ Ar_a1.1 (ninS ne_a1_a0 nin0), Ar_a1.2⟩ : Arr Z T3.heap a1 cl_a1 .int)
  have SZ3 := Nat.le_trans Z0 K3q.1
  have K3 := Keep.trans (Keep.refl h0 [a0]) K3q (allS (Or.inl (List.mem_of_getElem? (i := 0) rfl)) all0)
  refine Gz.tr st3 ?_
  refine Gz.istore 25 #[.val (.ref a0), .val (.ref a1), .val (.int p2), .val (.int p3), .val (.int (fVal a1 p2 (p3 - p2) ld vv)), .val (.int (fAcc a0 vv PE_ LO_ HI_)), .unset, .unset] X3 hx (dd d3_23) rfl rfl ?_
  refine Gz.iload 27 X3 hx (dd d3_25) rfl rfl ?_
  refine Gz.iload 29 X3 hx (dd d3_27) rfl rfl ?_
  by_cases hc4 : (fAcc a0 vv PE_ LO_ HI_) = (fVal a1 p2 (p3 - p2) ld vv)
  · refine Gz.icmpYes 35 X3 hx (dd d3_29) (teq hc4).1 (by decide) (by decide) ?_
    refine Gz.iload 37 X3 hx (dd d3_35) rfl rfl ?_
    by_cases hc5 : (fVal a1 p2 (p3 - p2) ld vv) = (0 : Int32)
    · refine Gz.ifNo 40 X3 hx (dd d3_37) ((if0 _ _).trans (teq hc5).2) rfl ?_
      refine Gz.iconst 41 (-1 : Int32) X3 hx (dd d3_40) rfl rfl ?_
      refine Gz.fin X3 (v := some (.int (-1 : Int32))) (fun h => by rw [hret] at h; cases h) hlk (by decide) (by decide) (fun fs hr => retI X3 hx hret (dd d3_41) hr) ?_
      exact ⟨(by unfold fStep; rw [if_pos hc4, if_pos hc5]), N3, K3, QE3_0, (by unfold fStep_pending; rw [if_pos hc4, if_pos hc5]; exact QF3_0), (by unfold fStep_low; rw [if_pos hc4, if_pos hc5]; exact QF3_1), (by unfold fStep_high; rw [if_pos hc4, if_pos hc5]; exact QF3_2)⟩
    · refine Gz.ifYes 42 X3 hx (dd d3_37) ((if0 _ _).trans (feq hc5).2) (by decide) (by decide) ?_
      refine Gz.aloadN 43 X3 hx (dd d3_42) rfl rfl rfl ?_
      refine Gz.iloadN 44 X3 hx (dd d3_43) rfl rfl ?_
      refine Gz.ldI 45 X3 hx hZ (dd d3_44) rfl f3_Ar_a1 hin_a1_6 hat_a1_6 rfl ?_
      obtain ⟨_, _, ⟨T6, L6, k6, n6⟩, -, X6, ⟨Lc6, hQ6, l6, y6, z6⟩, st6⟩ := Jvm.LawKit.callS X3 hx (y := (⟨"com/example/fold3/fold3/input/Utf8CheckAcceptPinLaw", "len", "(I)I"⟩ : MethodName)) hown (mvT hZ (ww hw 17 rfl)) (mvT hZ (ww hw 18 rfl)) (mvT hZ (ww hw 12 rfl)) (mvT hZ (ww hw 19 rfl)) (by decide) (backOf (W := 0) (rm5 l Z av0 hw [] ld  T3.heap n0 SZ3 ) hZ (ww hw 19 rfl) (ww hw 12 rfl) (by decide) (by decide)) (g := (mkF m 45 #[.val (.ref a0), .val (.ref a1), .val (.int p2), .val (.int p3), .val (.int (fVal a1 p2 (p3 - p2) ld vv)), .val (.int (fAcc a0 vv PE_ LO_ HI_)), .unset, .unset] [(.int ld)])) rfl (by rw [hml]; rfl) (argsL := [(.int ld)]) (rest := []) (lenOf pd_0 rfl) rfl (by show 2 * 0 + _ ≤ _; exact Nat.le_of_eq rfl) (dd d3_45) (fun _ _ => ⟨rfl, rfl, (by decide : 0 + 0 ≤ _), (by decide : 0 + 0 ≤ _)⟩)
      dsimp only [Pt.U, Pt.locs, Pt.cells, Pt.slots, Q_rm5] at X6 l6 y6 z6 st6 hQ6
      subst l6 y6 z6
      obtain ⟨rfl, N6q, e6⟩ := hQ6
      have N6 := Fr.app N3 N6q
      refine Gz.st st6 ?_
      refine Gz.istore 50 #[.val (.ref a0), .val (.ref a1), .val (.int p2), .val (.int p3), .val (.int (fVal a1 p2 (p3 - p2) ld vv)), .val (.int (fAcc a0 vv PE_ LO_ HI_)), .val (.int (fLen ld)), .unset] X6 hx (dd d3_48) rfl rfl ?_
      refine Gz.iloadN 51 X6 hx (dd d3_50) rfl rfl ?_
      refine Gz.iloadN 52 X6 hx (dd d3_51) rfl rfl ?_
      refine Gz.isub 53 X6 hx (dd d3_52) rfl ?_
      refine Gz.iconst 54 (1 : Int32) X6 hx (dd d3_53) rfl rfl ?_
      refine Gz.iadd 55 X6 hx (dd d3_54) rfl ?_
      refine Gz.iload 57 X6 hx (dd d3_55) rfl rfl ?_
      by_cases hc7 : ((p3 - p2) + (1 : Int32)) = (fLen ld)
      · refine Gz.icmpNo 60 X6 hx (dd d3_57) (teq hc7).2 rfl ?_
        refine Gz.iloadN 61 X6 hx (dd d3_60) rfl rfl ?_
        refine Gz.iconst 62 (1 : Int32) X6 hx (dd d3_61) rfl rfl ?_
        refine Gz.iadd 63 X6 hx (dd d3_62) rfl ?_
        refine Gz.goto 67 X6 hx (dd d3_63) (by decide) (by decide) ?_
        refine Gz.istore 69 #[.val (.ref a0), .val (.ref a1), .val (.int p2), .val (.int p3), .val (.int (fVal a1 p2 (p3 - p2) ld vv)), .val (.int (fAcc a0 vv PE_ LO_ HI_)), .val (.int (fLen ld)), .val (.int (p3 + (1 : Int32)))] X6 hx (dd d3_67) rfl rfl ?_
        refine Gz.aloadN 70 X6 hx (dd d3_69) rfl rfl rfl ?_
        obtain ⟨cq8, kq8, q8a, q8b, q8c⟩ := isOf hZ e6 QE3_0
        obtain ⟨_, _, ⟨T8, L8, k8, n8⟩, -, X8, ⟨Lc8, hQ8, l8, y8, z8⟩, st8⟩ := X6.virtualBack hx (y := (⟨"com/example/fold3/fold3/input/Utf8Check", "atCharacterEnd", "()Z"⟩ : MethodName)) (z := (⟨"com/example/fold3/fold3/input/Utf8Check", "atCharacterEnd", "()Z"⟩ : MethodName)) hown (mvT hZ (ww hw 27 rfl)) (mvT hZ (ww hw 28 rfl)) (notFace_of_selects (args := #[]) (mvT hZ (ww hw 30 rfl))) (mvT hZ (ww hw 30 rfl)) (mvT hZ (ww hw 29 rfl)) (by decide) (backOf (W := 0) (rm7 l Z av0 hw [] a0 (fAcc_pending a0 vv PE_ LO_ HI_) T3.heap n0 SZ3 QF3_0) hZ (ww hw 31 rfl) (ww hw 3 rfl) (by decide) (by decide)) q8a q8c (g := (mkF m 70 #[.val (.ref a0), .val (.ref a1), .val (.int p2), .val (.int p3), .val (.int (fVal a1 p2 (p3 - p2) ld vv)), .val (.int (fAcc a0 vv PE_ LO_ HI_)), .val (.int (fLen ld)), .val (.int (p3 + (1 : Int32)))] [(.ref a0)])) rfl (by rw [hml]; rfl) (Steps.refl _) (argsL := []) (rest := []) (lenOf pd_3 rfl) rfl (by show 2 * 0 + _ ≤ _; exact Nat.le_of_eq rfl) (dd d3_70) (fun _ _ => ⟨rfl, e6, (by decide : 0 + 0 ≤ _), (by decide : 0 + 0 ≤ _)⟩)
        dsimp only [Pt.U, Pt.locs, Pt.cells, Pt.slots, Q_rm7] at X8 l8 y8 z8 st8 hQ8
        subst l8 y8 z8
        obtain ⟨rfl, N8q, e8⟩ := hQ8
        have N8 := Fr.app N6 N8q
        refine Gz.tr st8 ?_
        refine Gz.iload 75 X8 hx (dd d3_73) rfl rfl ?_
        refine Gz.iloadN 76 X8 hx (dd d3_75) rfl rfl ?_
        refine Gz.iconst 77 (1 : Int32) X8 hx (dd d3_76) rfl rfl ?_
        refine Gz.iadd 78 X8 hx (dd d3_77) rfl ?_
        refine Gz.icmpNo 81 X8 hx (dd d3_78) (teq (rfl : (p3 + (1 : Int32)) = (p3 + (1 : Int32)))).2 rfl ?_
        refine Gz.iconst 82 (1 : Int32) X8 hx (dd d3_81) rfl rfl ?_
        refine Gz.goto 86 X8 hx (dd d3_82) (by decide) (by decide) ?_
        by_cases hc9 : (fEnd a0 (fAcc_pending a0 vv PE_ LO_ HI_)) = (1 : Int32)
        · refine Gz.icmpYes 92 X8 hx (dd d3_86) (teq hc9).1 (by decide) (by decide) ?_
          refine Gz.iload 94 X8 hx (dd d3_92) rfl rfl ?_
          refine Gz.fin X8 (v := some (.int (p3 + (1 : Int32)))) (fun h => by rw [hret] at h; cases h) hlk (by decide) (by decide) (fun fs hr => retI X8 hx hret (dd d3_94) hr) ?_
          rw [e8]
          exact ⟨(by unfold fStep; rw [if_pos hc4, if_neg hc5, if_pos hc7, if_pos hc9]), N8, K3, QE3_0, (by unfold fStep_pending; rw [if_pos hc4, if_neg hc5, if_pos hc7, if_pos hc9]; exact QF3_0), (by unfold fStep_low; rw [if_pos hc4, if_neg hc5, if_pos hc7, if_pos hc9]; exact QF3_1), (by unfold fStep_high; rw [if_pos hc4, if_neg hc5, if_pos hc7, if_pos hc9]; exact QF3_2)⟩
        · refine Gz.icmpNo 89 X8 hx (dd d3_86) (feq hc9).1 rfl ?_
          refine Gz.bipush 91 (-9 : Int32) X8 hx (dd d3_89) rfl rfl ?_
          refine Gz.fin X8 (v := some (.int (-9 : Int32))) (fun h => by rw [hret] at h; cases h) hlk (by decide) (by decide) (fun fs hr => retI X8 hx hret (dd d3_91) hr) ?_
          rw [e8]
          exact ⟨(by unfold fStep; rw [if_pos hc4, if_neg hc5, if_pos hc7, if_neg hc9]), N8, K3, QE3_0, (by unfold fStep_pending; rw [if_pos hc4, if_neg hc5, if_pos hc7, if_neg hc9]; exact QF3_0), (by unfold fStep_low; rw [if_pos hc4, if_neg hc5, if_pos hc7, if_neg hc9]; exact QF3_1), (by unfold fStep_high; rw [if_pos hc4, if_neg hc5, if_pos hc7, if_neg hc9]; exact QF3_2)⟩
      · refine Gz.icmpYes 66 X6 hx (dd d3_57) (feq hc7).2 (by decide) (by decide) ?_
        refine Gz.iloadN 67 X6 hx (dd d3_66) rfl rfl ?_
        refine Gz.istore 69 #[.val (.ref a0), .val (.ref a1), .val (.int p2), .val (.int p3), .val (.int (fVal a1 p2 (p3 - p2) ld vv)), .val (.int (fAcc a0 vv PE_ LO_ HI_)), .val (.int (fLen ld)), .val (.int p2)] X6 hx (dd d3_67) rfl rfl ?_
        refine Gz.aloadN 70 X6 hx (dd d3_69) rfl rfl rfl ?_
        obtain ⟨cq10, kq10, q10a, q10b, q10c⟩ := isOf hZ e6 QE3_0
        obtain ⟨_, _, ⟨T10, L10, k10, n10⟩, -, X10, ⟨Lc10, hQ10, l10, y10, z10⟩, st10⟩ := X6.virtualBack hx (y := (⟨"com/example/fold3/fold3/input/Utf8Check", "atCharacterEnd", "()Z"⟩ : MethodName)) (z := (⟨"com/example/fold3/fold3/input/Utf8Check", "atCharacterEnd", "()Z"⟩ : MethodName)) hown (mvT hZ (ww hw 27 rfl)) (mvT hZ (ww hw 28 rfl)) (notFace_of_selects (args := #[]) (mvT hZ (ww hw 30 rfl))) (mvT hZ (ww hw 30 rfl)) (mvT hZ (ww hw 29 rfl)) (by decide) (backOf (W := 0) (rm7 l Z av0 hw [] a0 (fAcc_pending a0 vv PE_ LO_ HI_) T3.heap n0 SZ3 QF3_0) hZ (ww hw 31 rfl) (ww hw 3 rfl) (by decide) (by decide)) q10a q10c (g := (mkF m 70 #[.val (.ref a0), .val (.ref a1), .val (.int p2), .val (.int p3), .val (.int (fVal a1 p2 (p3 - p2) ld vv)), .val (.int (fAcc a0 vv PE_ LO_ HI_)), .val (.int (fLen ld)), .val (.int p2)] [(.ref a0)])) rfl (by rw [hml]; rfl) (Steps.refl _) (argsL := []) (rest := []) (lenOf pd_3 rfl) rfl (by show 2 * 0 + _ ≤ _; exact Nat.le_of_eq rfl) (dd d3_70) (fun _ _ => ⟨rfl, e6, (by decide : 0 + 0 ≤ _), (by decide : 0 + 0 ≤ _)⟩)
        dsimp only [Pt.U, Pt.locs, Pt.cells, Pt.slots, Q_rm7] at X10 l10 y10 z10 st10 hQ10
        subst l10 y10 z10
        obtain ⟨rfl, N10q, e10⟩ := hQ10
        have N10 := Fr.app N6 N10q
        refine Gz.tr st10 ?_
        refine Gz.iload 75 X10 hx (dd d3_73) rfl rfl ?_
        refine Gz.iloadN 76 X10 hx (dd d3_75) rfl rfl ?_
        refine Gz.iconst 77 (1 : Int32) X10 hx (dd d3_76) rfl rfl ?_
        refine Gz.iadd 78 X10 hx (dd d3_77) rfl ?_
        by_cases hc11 : p2 = (p3 + (1 : Int32))
        · refine Gz.icmpNo 81 X10 hx (dd d3_78) (teq hc11).2 rfl ?_
          refine Gz.iconst 82 (1 : Int32) X10 hx (dd d3_81) rfl rfl ?_
          refine Gz.goto 86 X10 hx (dd d3_82) (by decide) (by decide) ?_
          by_cases hc12 : (fEnd a0 (fAcc_pending a0 vv PE_ LO_ HI_)) = (1 : Int32)
          · refine Gz.icmpYes 92 X10 hx (dd d3_86) (teq hc12).1 (by decide) (by decide) ?_
            refine Gz.iload 94 X10 hx (dd d3_92) rfl rfl ?_
            refine Gz.fin X10 (v := some (.int p2)) (fun h => by rw [hret] at h; cases h) hlk (by decide) (by decide) (fun fs hr => retI X10 hx hret (dd d3_94) hr) ?_
            rw [e10]
            exact ⟨(by unfold fStep; rw [if_pos hc4, if_neg hc5, if_neg hc7, if_pos hc11, if_pos hc12]), N10, K3, QE3_0, (by unfold fStep_pending; rw [if_pos hc4, if_neg hc5, if_neg hc7, if_pos hc11, if_pos hc12]; exact QF3_0), (by unfold fStep_low; rw [if_pos hc4, if_neg hc5, if_neg hc7, if_pos hc11, if_pos hc12]; exact QF3_1), (by unfold fStep_high; rw [if_pos hc4, if_neg hc5, if_neg hc7, if_pos hc11, if_pos hc12]; exact QF3_2)⟩
          · refine Gz.icmpNo 89 X10 hx (dd d3_86) (feq hc12).1 rfl ?_
            refine Gz.bipush 91 (-9 : Int32) X10 hx (dd d3_89) rfl rfl ?_
            refine Gz.fin X10 (v := some (.int (-9 : Int32))) (fun h => by rw [hret] at h; cases h) hlk (by decide) (by decide) (fun fs hr => retI X10 hx hret (dd d3_91) hr) ?_
            rw [e10]
            exact ⟨(by unfold fStep; rw [if_pos hc4, if_neg hc5, if_neg hc7, if_pos hc11, if_neg hc12]), N10, K3, QE3_0, (by unfold fStep_pending; rw [if_pos hc4, if_neg hc5, if_neg hc7, if_pos hc11, if_neg hc12]; exact QF3_0), (by unfold fStep_low; rw [if_pos hc4, if_neg hc5, if_neg hc7, if_pos hc11, if_neg hc12]; exact QF3_1), (by unfold fStep_high; rw [if_pos hc4, if_neg hc5, if_neg hc7, if_pos hc11, if_neg hc12]; exact QF3_2)⟩
        · refine Gz.icmpYes 85 X10 hx (dd d3_78) (feq hc11).2 (by decide) (by decide) ?_
          refine Gz.iconst 86 (0 : Int32) X10 hx (dd d3_85) rfl rfl ?_
          by_cases hc13 : (fEnd a0 (fAcc_pending a0 vv PE_ LO_ HI_)) = (0 : Int32)
          · refine Gz.icmpYes 92 X10 hx (dd d3_86) (teq hc13).1 (by decide) (by decide) ?_
            refine Gz.iload 94 X10 hx (dd d3_92) rfl rfl ?_
            refine Gz.fin X10 (v := some (.int p2)) (fun h => by rw [hret] at h; cases h) hlk (by decide) (by decide) (fun fs hr => retI X10 hx hret (dd d3_94) hr) ?_
            rw [e10]
            exact ⟨(by unfold fStep; rw [if_pos hc4, if_neg hc5, if_neg hc7, if_neg hc11, if_pos hc13]), N10, K3, QE3_0, (by unfold fStep_pending; rw [if_pos hc4, if_neg hc5, if_neg hc7, if_neg hc11, if_pos hc13]; exact QF3_0), (by unfold fStep_low; rw [if_pos hc4, if_neg hc5, if_neg hc7, if_neg hc11, if_pos hc13]; exact QF3_1), (by unfold fStep_high; rw [if_pos hc4, if_neg hc5, if_neg hc7, if_neg hc11, if_pos hc13]; exact QF3_2)⟩
          · refine Gz.icmpNo 89 X10 hx (dd d3_86) (feq hc13).1 rfl ?_
            refine Gz.bipush 91 (-9 : Int32) X10 hx (dd d3_89) rfl rfl ?_
            refine Gz.fin X10 (v := some (.int (-9 : Int32))) (fun h => by rw [hret] at h; cases h) hlk (by decide) (by decide) (fun fs hr => retI X10 hx hret (dd d3_91) hr) ?_
            rw [e10]
            exact ⟨(by unfold fStep; rw [if_pos hc4, if_neg hc5, if_neg hc7, if_neg hc11, if_neg hc13]), N10, K3, QE3_0, (by unfold fStep_pending; rw [if_pos hc4, if_neg hc5, if_neg hc7, if_neg hc11, if_neg hc13]; exact QF3_0), (by unfold fStep_low; rw [if_pos hc4, if_neg hc5, if_neg hc7, if_neg hc11, if_neg hc13]; exact QF3_1), (by unfold fStep_high; rw [if_pos hc4, if_neg hc5, if_neg hc7, if_neg hc11, if_neg hc13]; exact QF3_2)⟩
  · refine Gz.icmpNo 32 X3 hx (dd d3_29) (feq hc4).1 rfl ?_
    refine Gz.bipush 34 (-9 : Int32) X3 hx (dd d3_32) rfl rfl ?_
    refine Gz.fin X3 (v := some (.int (-9 : Int32))) (fun h => by rw [hret] at h; cases h) hlk (by decide) (by decide) (fun fs hr => retI X3 hx hret (dd d3_34) hr) ?_
    exact ⟨(by unfold fStep; rw [if_neg hc4]), N3, K3, QE3_0, (by unfold fStep_pending; rw [if_neg hc4]; exact QF3_0), (by unfold fStep_low; rw [if_neg hc4]; exact QF3_1), (by unfold fStep_high; rw [if_neg hc4]; exact QF3_2)⟩
theorem d3_4 : decode method_6_code 4 = .ok (.iload_n 2, 1) := by decide +kernel
theorem d3_5 : decode method_6_code 5 = .ok (.ireturn, 1) := by decide +kernel
theorem ef_rm3n (m : MethodId) (a0 : Addr) (a1 : Addr) (p2 : Int32) (p3 : Int32) : entryFrame m #[(.ref a0), (.ref a1), (.int p2), (.int p3)] 8 = mkF m 0 #[.val (.ref a0), .val (.ref a1), .val (.int p2), .val (.int p3), .unset, .unset, .unset, .unset] [] := by first | (simp [entryFrame, mkF, argsToLocals, Value.category]; done) | rfl
def fNeg (a0 : Addr) (a1 : Addr) (p2 : Int32) (p3 : Int32) : Int32 := p2
def Q_rm3n (Z : State) (a0 : Addr) (a1 : Addr) (p2 : Int32) (p3 : Int32) (h0 : Heap) (n0 : Nat) (v : Option Value) (h : Heap) (L : List Loc) : Prop := v = some (.int (fNeg a0 a1 p2 p3)) ∧ Fr n0 L ∧ h = h0
set_option maxRecDepth 65536 in
set_option maxHeartbeats 40000000 in
theorem rm3n (l : Launch) (Z : State) (av0 : Array Value) (hw : ∀ d ∈ tables_1, d.before av0 Z = true) (ws : List Jvm.Cond) (a0 : Addr) (a1 : Addr) (p2 : Int32) (p3 : Int32) (h0 : Heap) (n0 : Nat) (Z0 : n0 ≤ h0.size) (hneg : p2 < (0 : Int32)) :
    MetFree l (⟨"com/example/fold3/fold3/input/Utf8CheckAcceptPinLaw", "step", "(Lcom/example/fold3/fold3/input/Utf8Check;[III)I"⟩ : MethodName) (head1 (Jvm.Cond.code (⟨"com/example/fold3/fold3/input/Utf8CheckAcceptPinLaw", "step", "(Lcom/example/fold3/fold3/input/Utf8Check;[III)I"⟩ : MethodName) method_6_code 8 (some .int) :: ws) ({ frames := 0, cells := 0, slots := 0, locals := 0 } : Room)) (fun a U => a = #[(.ref a0), (.ref a1), (.int p2), (.int p3)] ∧ Z.Warmed39 U.vm ∧ U.heap = h0) (fun _ _ _ _ _ => True) (fun _ U o U' => ∃ v L, o = .returned v ∧ Q_rm3n Z a0 a1 p2 p3 h0 n0 v U'.heap L ∧ FrameEnd U o U' L ({ frames := 0, cells := 0, slots := 0, locals := 0 } : Room).cells ({ frames := 0, cells := 0, slots := 0, locals := 0 } : Room).slots) := by
  refine MetFree.of_bodySF (plainFor_of_name pn_1) hisR ?_
  intro p e s m args below meth c s₁ Bd hml0 hP hK
  obtain ⟨rfl, hZ, hh⟩ := hP
  have hx := Bd.exec
  have hby := Bd.bytes
  have hml : c.maxLocals = 8 := hml0
  have dd : ∀ {pc : Nat} {r : Except DecodeError (Instr × Nat)}, decode method_6_code pc = r → decode c.code pc = r := fun q => hb hby q
  have hown : s.vm.findClass "com/example/fold3/fold3/input/Utf8CheckAcceptPinLaw" = some m.cls := findClass_of_methodNamed Bd.named
  have hnm := (name_of_methodNamed Bd.named Bd.method).1
  have X0 : Stand p l e ({ frames := 0, cells := 0, slots := 0, locals := 0 } : Room) s m #[(.ref a0), (.ref a1), (.int p2), (.int p3)] below meth c s₁ [] 0 0 := Stand.of_body Bd
  have e0 : s₁.heap = h0 := by rw [← hh, Bd.state]; rfl
  have N0 := Fr.nil n0
  have hret := Bd.returns
  have hlk := Bd.notSynchronized
  show Gz p e below s ({ frames := 0, cells := 0, slots := 0, locals := 0 } : Room).cells ({ frames := 0, cells := 0, slots := 0, locals := 0 } : Room).slots (Q_rm3n Z a0 a1 p2 p3 h0 n0) (s₁.setTop (entryFrame m #[(.ref a0), (.ref a1), (.int p2), (.int p3)] 8))
  refine Gz.enter (ef_rm3n m a0 a1 p2 p3) ?_
  refine Gz.iloadN 1 X0 hx (dd d3_0) rfl rfl ?_
  refine Gz.ifNo 4 X0 hx (dd d3_1) ((if0 _ _).trans (tlt (hneg : p2 < (0 : Int32))).2.1) rfl ?_
  refine Gz.iloadN 5 X0 hx (dd d3_4) rfl rfl ?_
  refine Gz.fin X0 (v := some (.int p2)) (fun h => by rw [hret] at h; cases h) hlk (by decide) (by decide) (fun fs hr => retI X0 hx hret (dd d3_5) hr) ?_
  rw [e0]
  exact ⟨rfl, N0, rfl⟩
def own_B (v : Int32) : Prop := 0 ≤ v.toInt ∧ v.toInt < 256
def own_Inv1 (ld P Lo Hi : Int32) : Prop := (fLen ld = 2 ∧ P = 1 ∧ Lo = 128 ∧ Hi = 191) ∨ (fLen ld = 3 ∧ P = 2 ∧ Lo = (if ld = 224 then 160 else 128) ∧ Hi = (if ld = 237 then 159 else 191)) ∨ (fLen ld = 4 ∧ P = 3 ∧ Lo = (if ld = 240 then 144 else 128) ∧ Hi = (if ld = 244 then 143 else 191))
def own_Inv2 (ld P Lo Hi : Int32) : Prop := ((fLen ld = 3 ∧ P = 1) ∨ (fLen ld = 4 ∧ P = 2)) ∧ Lo = 128 ∧ Hi = 191
def own_Inv3 (ld P Lo Hi : Int32) : Prop := (fLen ld = 4 ∧ P = 1) ∧ Lo = 128 ∧ Hi = 191
theorem own_sp (a b : Addr) (s i P Lo Hi ld v : Int32) : fStep_pending a b s i P Lo Hi ld v = fAcc_pending a v P Lo Hi := by unfold fStep_pending; simp only [ite_self]
theorem own_sl (a b : Addr) (s i P Lo Hi ld v : Int32) : fStep_low a b s i P Lo Hi ld v = fAcc_low a v P Lo Hi := by unfold fStep_low; simp only [ite_self]
theorem own_sh (a b : Addr) (s i P Lo Hi ld v : Int32) : fStep_high a b s i P Lo Hi ld v = fAcc_high a v P Lo Hi := by unfold fStep_high; simp only [ite_self]
theorem own_stepG (a b : Addr) (s i P Lo Hi ld v k : Int32) (hk : i - s = k) (hav : fAcc a v P Lo Hi = fVal b s k ld v) (hne : ¬ s = i + 1) (hend : ¬ fVal b s k ld v = 0 → (k + 1 = fLen ld ↔ fAcc_pending a v P Lo Hi = 0)) :
    fStep a b s i P Lo Hi ld v = if fVal b s k ld v = 0 then -1 else if k + 1 = fLen ld then i + 1 else s := by
  unfold fStep fEnd
  rw [hk, if_pos hav]
  by_cases h0 : fVal b s k ld v = 0
  · rw [if_pos h0, if_pos h0]
  · have he := hend h0
    rw [if_neg h0, if_neg h0]
    by_cases h1 : k + 1 = fLen ld
    · rw [if_pos h1, if_pos h1, if_pos (he.mp h1), if_pos rfl]
    · rw [if_neg h1, if_neg h1, if_neg hne, if_neg (fun q => h1 (he.mpr q)), if_pos rfl]
theorem own_accP (a : Addr) (v P Lo Hi : Int32) (h : (0 : Int32) < P) : fAcc a v P Lo Hi = (if v < Lo then 0 else if Hi < v then 0 else 1) ∧ fAcc_pending a v P Lo Hi = P - 1 ∧ fAcc_low a v P Lo Hi = 128 ∧ fAcc_high a v P Lo Hi = 191 := by
  unfold fAcc fAcc_pending fAcc_low fAcc_high
  simp only [if_pos h, ite_self, and_self]
-- what a lead byte is
theorem own_kinds : ∀ k : Fin 256, (k.val < 128 ∧ fLen (Int32.ofNat k.val) = 1) ∨ (128 ≤ k.val ∧ k.val < 194 ∧ fLen (Int32.ofNat k.val) = 0) ∨ (194 ≤ k.val ∧ k.val < 224 ∧ fLen (Int32.ofNat k.val) = 2) ∨ (224 ≤ k.val ∧ k.val < 240 ∧ fLen (Int32.ofNat k.val) = 3) ∨ (240 ≤ k.val ∧ k.val < 245 ∧ fLen (Int32.ofNat k.val) = 4) ∨ (245 ≤ k.val ∧ fLen (Int32.ofNat k.val) = 0) := by decide +kernel
theorem own_kind (v : Int32) (h : own_B v) : (v.toInt < 128 ∧ fLen v = 1) ∨ (128 ≤ v.toInt ∧ v.toInt < 194 ∧ fLen v = 0) ∨ (194 ≤ v.toInt ∧ v.toInt < 224 ∧ fLen v = 2) ∨ (224 ≤ v.toInt ∧ v.toInt < 240 ∧ fLen v = 3) ∨ (240 ≤ v.toInt ∧ v.toInt < 245 ∧ fLen v = 4) ∨ (245 ≤ v.toInt ∧ fLen v = 0) := by
  obtain ⟨k, hk, rfl⟩ := own_nat v 256 (by decide) h.1 h.2
  have e : (Int32.ofNat k).toInt = k := Int32.toInt_ofNat_of_lt (by omega)
  rw [e]
  rcases own_kinds ⟨k, hk⟩ with q | q | q | q | q | q
  · exact Or.inl ⟨by have := q.1; simp only at this; omega, q.2⟩
  · exact Or.inr (Or.inl ⟨by have := q.1; simp only at this; omega, by have := q.2.1; simp only at this; omega, q.2.2⟩)
  · exact Or.inr (Or.inr (Or.inl ⟨by have := q.1; simp only at this; omega, by have := q.2.1; simp only at this; omega, q.2.2⟩))
  · exact Or.inr (Or.inr (Or.inr (Or.inl ⟨by have := q.1; simp only at this; omega, by have := q.2.1; simp only at this; omega, q.2.2⟩)))
  · exact Or.inr (Or.inr (Or.inr (Or.inr (Or.inl ⟨by have := q.1; simp only at this; omega, by have := q.2.1; simp only at this; omega, q.2.2⟩))))
  · exact Or.inr (Or.inr (Or.inr (Or.inr (Or.inr ⟨by have := q.1; simp only at this; omega, q.2⟩))))
theorem own_ltI {x y : Int32} {a b : Int} (hx : x.toInt = a) (hy : y.toInt = b) (h : a < b) : x < y := by rw [Int32.lt_iff_toInt_lt]; omega
theorem own_nltI {x y : Int32} (h : y.toInt ≤ x.toInt) : ¬ x < y := by rw [Int32.lt_iff_toInt_lt]; omega
theorem own_yltI {x y : Int32} (h : x.toInt < y.toInt) : x < y := by rw [Int32.lt_iff_toInt_lt]; omega
theorem own_nes (x y : Int32) (h : x.toInt ≠ y.toInt) : ¬ x = y := fun e => h (e ▸ rfl)
theorem own_step0 (a b : Addr) (s i Lo Hi ld : Int32) (i1 : Int32) (hb : own_B ld) (hk : i - s = 0) (hi : i + 1 = i1) (hne : ¬ s = i1) :
    fStep a b s i 0 Lo Hi ld ld = -1 ∨ (fStep a b s i 0 Lo Hi ld ld = i1 ∧ fStep_pending a b s i 0 Lo Hi ld ld = 0) ∨ (fStep a b s i 0 Lo Hi ld ld = s ∧ own_Inv1 ld (fStep_pending a b s i 0 Lo Hi ld ld) (fStep_low a b s i 0 Lo Hi ld ld) (fStep_high a b s i 0 Lo Hi ld ld)) := by
  subst hi
  rw [own_sp, own_sl, own_sh]
  have z0 : ¬ (0 : Int32) < 0 := by decide
  have hv : fVal b s 0 ld ld = if fLen ld = 0 then 0 else 1 := by unfold fVal; rw [if_pos rfl]
  have c128 : (128 : Int32).toInt = 128 := rfl
  have c194 : (194 : Int32).toInt = 194 := rfl
  have c223 : (223 : Int32).toInt = 223 := rfl
  have c239 : (239 : Int32).toInt = 239 := rfl
  have c244 : (244 : Int32).toInt = 244 := rfl
  rcases own_kind ld hb with ⟨h1, hl⟩ | ⟨h1, h2, hl⟩ | ⟨h1, h2, hl⟩ | ⟨h1, h2, hl⟩ | ⟨h1, h2, hl⟩ | ⟨h1, hl⟩
  · have q1 : ld < 194 := own_yltI (by omega)
    have q2 : ld < 128 := own_yltI (by omega)
    have e1 : fAcc a ld 0 Lo Hi = 1 := by unfold fAcc; rw [if_neg z0, if_pos q1, if_pos q2]
    have e2 : fAcc_pending a ld 0 Lo Hi = 0 := by unfold fAcc_pending; rw [if_neg z0, if_pos q1, if_pos q2]
    rw [hl, if_neg (by decide)] at hv
    have g := own_stepG a b s i 0 Lo Hi ld ld 0 hk (by rw [hv, e1]) hne (fun _ => by rw [hl, e2]; decide)
    rw [hv, hl, if_neg (by decide), if_pos (by decide)] at g
    exact Or.inr (Or.inl ⟨g, e2⟩)
  · have q1 : ld < 194 := own_yltI (by omega)
    have q2 : ¬ ld < 128 := own_nltI (by omega)
    have e1 : fAcc a ld 0 Lo Hi = 0 := by unfold fAcc; rw [if_neg z0, if_pos q1, if_neg q2]
    rw [hl, if_pos rfl] at hv
    have g := own_stepG a b s i 0 Lo Hi ld ld 0 hk (by rw [hv, e1]) hne (fun q => absurd hv q)
    rw [hv, if_pos rfl] at g
    exact Or.inl g
  · have q1 : ¬ ld < 194 := own_nltI (by omega)
    have q2 : ¬ (223 : Int32) < ld := own_nltI (by omega)
    have e1 : fAcc a ld 0 Lo Hi = 1 := by unfold fAcc; rw [if_neg z0, if_neg q1, if_neg q2]
    have e2 : fAcc_pending a ld 0 Lo Hi = 1 := by unfold fAcc_pending; rw [if_neg z0, if_neg q1, if_neg q2]
    have e3 : fAcc_low a ld 0 Lo Hi = 128 := by unfold fAcc_low; rw [if_neg z0, if_neg q1, if_neg q2]
    have e4 : fAcc_high a ld 0 Lo Hi = 191 := by unfold fAcc_high; rw [if_neg z0, if_neg q1, if_neg q2]
    rw [hl, if_neg (by decide)] at hv
    have g := own_stepG a b s i 0 Lo Hi ld ld 0 hk (by rw [hv, e1]) hne (fun _ => by rw [hl, e2]; decide)
    rw [hv, hl, if_neg (by decide), if_neg (by decide)] at g
    exact Or.inr (Or.inr ⟨g, Or.inl ⟨hl, e2, e3, e4⟩⟩)
  · have q1 : ¬ ld < 194 := own_nltI (by omega)
    have q2 : (223 : Int32) < ld := own_yltI (by omega)
    have q3 : ¬ (239 : Int32) < ld := own_nltI (by omega)
    have e1 : fAcc a ld 0 Lo Hi = 1 := by unfold fAcc; rw [if_neg z0, if_neg q1, if_pos q2, if_neg q3]; simp only [ite_self]
    have e2 : fAcc_pending a ld 0 Lo Hi = 2 := by unfold fAcc_pending; rw [if_neg z0, if_neg q1, if_pos q2, if_neg q3]; simp only [ite_self]
    have e3 : fAcc_low a ld 0 Lo Hi = (if ld = 224 then 160 else 128) := by unfold fAcc_low; rw [if_neg z0, if_neg q1, if_pos q2, if_neg q3]; simp only [ite_self]
    have e4 : fAcc_high a ld 0 Lo Hi = (if ld = 237 then 159 else 191) := by
      unfold fAcc_high; rw [if_neg z0, if_neg q1, if_pos q2, if_neg q3]
      by_cases w : ld = 224
      · rw [if_pos w, if_neg]
        rw [w]; decide
      · rw [if_neg w]
    rw [hl, if_neg (by decide)] at hv
    have g := own_stepG a b s i 0 Lo Hi ld ld 0 hk (by rw [hv, e1]) hne (fun _ => by rw [hl, e2]; decide)
    rw [hv, hl, if_neg (by decide), if_neg (by decide)] at g
    exact Or.inr (Or.inr ⟨g, Or.inr (Or.inl ⟨hl, e2, e3, e4⟩)⟩)
  · have q1 : ¬ ld < 194 := own_nltI (by omega)
    have q2 : (223 : Int32) < ld := own_yltI (by omega)
    have q3 : (239 : Int32) < ld := own_yltI (by omega)
    have q4 : ¬ (244 : Int32) < ld := own_nltI (by omega)
    have e1 : fAcc a ld 0 Lo Hi = 1 := by unfold fAcc; rw [if_neg z0, if_neg q1, if_pos q2, if_pos q3, if_neg q4]; simp only [ite_self]
    have e2 : fAcc_pending a ld 0 Lo Hi = 3 := by unfold fAcc_pending; rw [if_neg z0, if_neg q1, if_pos q2, if_pos q3, if_neg q4]; simp only [ite_self]
    have e3 : fAcc_low a ld 0 Lo Hi = (if ld = 240 then 144 else 128) := by unfold fAcc_low; rw [if_neg z0, if_neg q1, if_pos q2, if_pos q3, if_neg q4]; simp only [ite_self]
    have e4 : fAcc_high a ld 0 Lo Hi = (if ld = 244 then 143 else 191) := by
      unfold fAcc_high; rw [if_neg z0, if_neg q1, if_pos q2, if_pos q3, if_neg q4]
      by_cases w : ld = 240
      · rw [if_pos w, if_neg]
        rw [w]; decide
      · rw [if_neg w]
    rw [hl, if_neg (by decide)] at hv
    have g := own_stepG a b s i 0 Lo Hi ld ld 0 hk (by rw [hv, e1]) hne (fun _ => by rw [hl, e2]; decide)
    rw [hv, hl, if_neg (by decide), if_neg (by decide)] at g
    exact Or.inr (Or.inr ⟨g, Or.inr (Or.inr ⟨hl, e2, e3, e4⟩)⟩)
  · have q1 : ¬ ld < 194 := own_nltI (by omega)
    have q2 : (223 : Int32) < ld := own_yltI (by omega)
    have q3 : (239 : Int32) < ld := own_yltI (by omega)
    have q4 : (244 : Int32) < ld := own_yltI (by omega)
    have e1 : fAcc a ld 0 Lo Hi = 0 := by unfold fAcc; rw [if_neg z0, if_neg q1, if_pos q2, if_pos q3, if_pos q4]
    rw [hl, if_pos rfl] at hv
    have g := own_stepG a b s i 0 Lo Hi ld ld 0 hk (by rw [hv, e1]) hne (fun q => absurd hv q)
    rw [hv, if_pos rfl] at g
    exact Or.inl g
theorem own_d3 : ∀ l : Fin 16, ∀ v : Fin 256, fVal 0 0 1 (Int32.ofNat (224 + l.val)) (Int32.ofNat v.val) = (if Int32.ofNat v.val < (if Int32.ofNat (224 + l.val) = 224 then 160 else 128) then 0 else if (if Int32.ofNat (224 + l.val) = 237 then 159 else 191) < Int32.ofNat v.val then 0 else 1) := by decide +kernel
theorem own_d4 : ∀ l : Fin 5, ∀ v : Fin 256, fVal 0 0 1 (Int32.ofNat (240 + l.val)) (Int32.ofNat v.val) = (if Int32.ofNat v.val < (if Int32.ofNat (240 + l.val) = 240 then 144 else 128) then 0 else if (if Int32.ofNat (240 + l.val) = 244 then 143 else 191) < Int32.ofNat v.val then 0 else 1) := by decide +kernel
theorem own_valc (b : Addr) (s k ld v : Int32) (hk : ¬ k = 0) (h : ¬ k = 1 ∨ fLen ld = 2) : fVal b s k ld v = (if v < 128 then 0 else if (191 : Int32) < v then 0 else 1) := by
  unfold fVal
  rw [if_neg hk]
  have e : (if k = 1 then (if fLen ld = 3 then (if (((ld &&& (15 : Int32)) <<< ((12 : Int32) &&& 31)) ||| ((v &&& (63 : Int32)) <<< ((6 : Int32) &&& 31))) < (2048 : Int32) then (0 : Int32) else (if (((ld &&& (15 : Int32)) <<< ((12 : Int32) &&& 31)) ||| ((v &&& (63 : Int32)) <<< ((6 : Int32) &&& 31))) < (55296 : Int32) then (1 : Int32) else (if (57343 : Int32) < (((ld &&& (15 : Int32)) <<< ((12 : Int32) &&& 31)) ||| ((v &&& (63 : Int32)) <<< ((6 : Int32) &&& 31))) then (1 : Int32) else (0 : Int32)))) else (if fLen ld = 4 then (if (((ld &&& (7 : Int32)) <<< ((18 : Int32) &&& 31)) ||| ((v &&& (63 : Int32)) <<< ((12 : Int32) &&& 31))) < (65536 : Int32) then (0 : Int32) else (if (1114111 : Int32) < (((ld &&& (7 : Int32)) <<< ((18 : Int32) &&& 31)) ||| ((v &&& (63 : Int32)) <<< ((12 : Int32) &&& 31))) then (0 : Int32) else (1 : Int32))) else (1 : Int32))) else (1 : Int32)) = 1 := by
    rcases h with h | h
    · rw [if_neg h]
    · by_cases q : k = 1
      · rw [if_pos q, h, if_neg (by decide), if_neg (by decide)]
      · rw [if_neg q]
  rw [e]
  unfold fCont
  by_cases q1 : v < 128
  · simp only [if_pos q1, if_true]
  · by_cases q2 : (191 : Int32) < v
    · simp only [if_neg q1, if_pos q2, if_true]
    · simp only [if_neg q1, if_neg q2, if_neg (by decide : ¬ (1 : Int32) = 0)]
theorem own_lead (ld : Int32) (h : own_B ld) : (fLen ld = 3 → ∃ k : Fin 16, ld = Int32.ofNat (224 + k.val)) ∧ (fLen ld = 4 → ∃ k : Fin 5, ld = Int32.ofNat (240 + k.val)) := by
  obtain ⟨k, hk, e⟩ := own_nat ld 256 (by decide) h.1 h.2
  have e2 : ld.toInt = k := by rw [e]; exact Int32.toInt_ofNat_of_lt (by omega)
  constructor
  · intro q
    rcases own_kind ld h with ⟨_, hl⟩ | ⟨_, _, hl⟩ | ⟨_, _, hl⟩ | ⟨h1, h2, hl⟩ | ⟨_, _, hl⟩ | ⟨_, hl⟩
    all_goals first | (rw [hl] at q; exact absurd q (by decide)) | skip
    exact ⟨⟨k - 224, by omega⟩, e.trans (congrArg Int32.ofNat (by show k = _ + (k - _); omega))⟩
  · intro q
    rcases own_kind ld h with ⟨_, hl⟩ | ⟨_, _, hl⟩ | ⟨_, _, hl⟩ | ⟨_, _, hl⟩ | ⟨h1, h2, hl⟩ | ⟨_, hl⟩
    all_goals first | (rw [hl] at q; exact absurd q (by decide)) | skip
    exact ⟨⟨k - 240, by omega⟩, e.trans (congrArg Int32.ofNat (by show k = _ + (k - _); omega))⟩
theorem own_val1 (b : Addr) (s ld v P Lo Hi : Int32) (hb : own_B ld) (hv : own_B v) (hI : own_Inv1 ld P Lo Hi) : fVal b s 1 ld v = (if v < Lo then 0 else if Hi < v then 0 else 1) := by
  obtain ⟨j, hj, ej⟩ := own_nat v 256 (by decide) hv.1 hv.2
  rcases hI with ⟨hl, -, rfl, rfl⟩ | ⟨hl, -, rfl, rfl⟩ | ⟨hl, -, rfl, rfl⟩
  · exact own_valc b s 1 ld v (by decide) (Or.inr hl)
  · obtain ⟨k, rfl⟩ := (own_lead ld hb).1 hl
    subst ej
    exact own_d3 k ⟨j, hj⟩
  · obtain ⟨k, rfl⟩ := (own_lead ld hb).2 hl
    subst ej
    exact own_d4 k ⟨j, hj⟩
theorem own_bin (x y z : Prop) [Decidable x] [Decidable y] : (if x then (0 : Int32) else if y then 0 else 1) = 0 ∨ (if x then (0 : Int32) else if y then 0 else 1) = 1 := by
  by_cases h : x
  · exact Or.inl (if_pos h)
  · rw [if_neg h]
    by_cases g : y
    · exact Or.inl (if_pos g)
    · exact Or.inr (if_neg g)
theorem own_step1 (a b : Addr) (s i P Lo Hi ld v : Int32) (i1 : Int32) (hb : own_B ld) (hv : own_B v) (hI : own_Inv1 ld P Lo Hi) (hk : i - s = 1) (hi : i + 1 = i1) (hne : ¬ s = i1) :
    fStep a b s i P Lo Hi ld v = -1 ∨ (fStep a b s i P Lo Hi ld v = i1 ∧ fStep_pending a b s i P Lo Hi ld v = 0) ∨ (fStep a b s i P Lo Hi ld v = s ∧ own_Inv2 ld (fStep_pending a b s i P Lo Hi ld v) (fStep_low a b s i P Lo Hi ld v) (fStep_high a b s i P Lo Hi ld v)) := by
  subst hi
  rw [own_sp, own_sl, own_sh]
  have e0 := own_val1 b s ld v P Lo Hi hb hv hI
  have hP : (0 : Int32) < P := by rcases hI with ⟨_, rfl, _⟩ | ⟨_, rfl, _⟩ | ⟨_, rfl, _⟩ <;> decide
  obtain ⟨e1, e2, e3, e4⟩ := own_accP a v P Lo Hi hP
  have hend : (1 + 1 = fLen ld ↔ fAcc_pending a v P Lo Hi = 0) := by rw [e2]; rcases hI with ⟨hl, rfl, _⟩ | ⟨hl, rfl, _⟩ | ⟨hl, rfl, _⟩ <;> rw [hl] <;> decide
  have g := own_stepG a b s i P Lo Hi ld v 1 hk (by rw [e0, e1]) hne (fun _ => hend)
  rw [e2] at hend
  rcases own_bin (v < Lo) (Hi < v) True with q | q
  · rw [e0, if_pos q] at g
    exact Or.inl g
  · rw [e0, if_neg (by rw [q]; decide)] at g
    by_cases w : 1 + 1 = fLen ld
    · rw [if_pos w] at g
      exact Or.inr (Or.inl ⟨g, by rw [e2]; exact hend.mp w⟩)
    · rw [if_neg w] at g
      refine Or.inr (Or.inr ⟨g, ?_, e3, e4⟩)
      rw [e2]
      rcases hI with ⟨hl, rfl, _⟩ | ⟨hl, rfl, _⟩ | ⟨hl, rfl, _⟩
      · exact absurd hl.symm w
      · exact Or.inl ⟨hl, by decide⟩
      · exact Or.inr ⟨hl, by decide⟩
theorem own_step2 (a b : Addr) (s i P Lo Hi ld v : Int32) (i1 : Int32) (hI : own_Inv2 ld P Lo Hi) (hk : i - s = 2) (hi : i + 1 = i1) (hne : ¬ s = i1) :
    fStep a b s i P Lo Hi ld v = -1 ∨ (fStep a b s i P Lo Hi ld v = i1 ∧ fStep_pending a b s i P Lo Hi ld v = 0) ∨ (fStep a b s i P Lo Hi ld v = s ∧ own_Inv3 ld (fStep_pending a b s i P Lo Hi ld v) (fStep_low a b s i P Lo Hi ld v) (fStep_high a b s i P Lo Hi ld v)) := by
  subst hi
  rw [own_sp, own_sl, own_sh]
  obtain ⟨hJ, rfl, rfl⟩ := hI
  have e0 := own_valc b s 2 ld v (by decide) (Or.inl (by decide))
  have hP : (0 : Int32) < P := by rcases hJ with ⟨_, rfl⟩ | ⟨_, rfl⟩ <;> decide
  obtain ⟨e1, e2, e3, e4⟩ := own_accP a v P 128 191 hP
  have hend : (2 + 1 = fLen ld ↔ fAcc_pending a v P 128 191 = 0) := by rw [e2]; rcases hJ with ⟨hl, rfl⟩ | ⟨hl, rfl⟩ <;> rw [hl] <;> decide
  have g := own_stepG a b s i P 128 191 ld v 2 hk (by rw [e0, e1]) hne (fun _ => hend)
  rw [e2] at hend
  rcases own_bin (v < 128) ((191 : Int32) < v) True with q | q
  · rw [e0, if_pos q] at g
    exact Or.inl g
  · rw [e0, if_neg (by rw [q]; decide)] at g
    by_cases w : 2 + 1 = fLen ld
    · rw [if_pos w] at g
      exact Or.inr (Or.inl ⟨g, by rw [e2]; exact hend.mp w⟩)
    · rw [if_neg w] at g
      refine Or.inr (Or.inr ⟨g, ?_, e3, e4⟩)
      rw [e2]
      rcases hJ with ⟨hl, rfl⟩ | ⟨hl, rfl⟩
      · exact absurd hl.symm w
      · exact ⟨hl, by decide⟩
theorem own_step3 (a b : Addr) (s i P Lo Hi ld v : Int32) (i1 : Int32) (hI : own_Inv3 ld P Lo Hi) (hk : i - s = 3) (hi : i + 1 = i1) (hne : ¬ s = i1) :
    fStep a b s i P Lo Hi ld v = -1 ∨ (fStep a b s i P Lo Hi ld v = i1 ∧ fStep_pending a b s i P Lo Hi ld v = 0) := by
  subst hi
  rw [own_sp]
  obtain ⟨⟨hl, rfl⟩, rfl, rfl⟩ := hI
  have e0 := own_valc b s 3 ld v (by decide) (Or.inl (by decide))
  obtain ⟨e1, e2, e3, e4⟩ := own_accP a v 1 128 191 (by decide)
  have hend : (3 + 1 = fLen ld ↔ fAcc_pending a v 1 128 191 = 0) := by rw [e2, hl]; decide
  have g := own_stepG a b s i 1 128 191 ld v 3 hk (by rw [e0, e1]) hne (fun _ => hend)
  rcases own_bin (v < 128) ((191 : Int32) < v) True with q | q
  · rw [e0, if_pos q] at g
    exact Or.inl g
  · rw [e0, if_neg (by rw [q]; decide), if_pos (by rw [hl]; decide)] at g
    exact Or.inr ⟨g, hend.mp (by rw [hl]; decide)⟩
theorem own_byte (x : Int32) : own_B (x &&& (255 : Int32)) := by
  have hm := c_mask x 255 8 (by decide) (by decide)
  exact ⟨by rw [hm]; omega, by rw [hm]; omega⟩
theorem pd_4 : parseMethodDescriptor "()V" = some ⟨[], none⟩ := by decide +kernel
theorem pd_5 : parseMethodDescriptor "(Lcom/example/fold3/fold3/input/Utf8Check;[III)I" = some ⟨[(.object "com/example/fold3/fold3/input/Utf8Check"), (.array .int), .int, .int], some .int⟩ := by decide +kernel
theorem ef_rm0 (m : MethodId) (p0 : Int32) (p1 : Int32) (p2 : Int32) (p3 : Int32) : entryFrame m #[(.int p0), (.int p1), (.int p2), (.int p3)] maxLocals = mkF m 0 #[.val (.int p0), .val (.int p1), .val (.int p2), .val (.int p3), .unset, .unset, .unset] [] := by first | (simp [entryFrame, mkF, argsToLocals, Value.category, maxLocals]; done) | rfl
def Q_law (n0 : Nat) (v : Option Value) (h : Heap) (L : List Loc) : Prop := v = some (.int 1) ∧ Fr n0 L
set_option maxRecDepth 65536 in
set_option maxHeartbeats 40000000 in
theorem rm0 (l : Launch) (Z : State) (av0 : Array Value) (hw : ∀ d ∈ tables_1, d.before av0 Z = true) (ws : List Jvm.Cond) (p0 : Int32) (p1 : Int32) (p2 : Int32) (p3 : Int32) (h0 : Heap) (n0 : Nat) (Z0 : n0 ≤ h0.size)  :
    MetFree l x (head1 (Jvm.Cond.code x code maxLocals ret :: ws) room_1) (fun a U => a = #[(.int p0), (.int p1), (.int p2), (.int p3)] ∧ Z.Warmed39 U.vm ∧ U.heap = h0) (fun _ _ _ _ _ => True) (fun _ U o U' => ∃ v L, o = .returned v ∧ Q_law n0 v U'.heap L ∧ FrameEnd U o U' L 16 128) := by
  refine MetFree.of_bodySF (plainFor_of_name pn_1) hisR ?_
  intro p e s m args below meth c s₁ Bd hml0 hP hK
  obtain ⟨rfl, hZ, hh⟩ := hP
  have hx := Bd.exec
  have hby := Bd.bytes
  have hml : c.maxLocals = 7 := hml0
  have dd : ∀ {pc : Nat} {r : Except DecodeError (Instr × Nat)}, decode code pc = r → decode c.code pc = r := fun q => hb hby q
  have hown : s.vm.findClass "com/example/fold3/fold3/input/Utf8CheckAcceptPinLaw" = some m.cls := findClass_of_methodNamed Bd.named
  have hnm := (name_of_methodNamed Bd.named Bd.method).1
  have X0 : Stand p l e room_1 s m #[(.int p0), (.int p1), (.int p2), (.int p3)] below meth c s₁ [] 0 0 := Stand.of_body Bd
  have e0 : s₁.heap = h0 := by rw [← hh, Bd.state]; rfl
  have N0 := Fr.nil n0
  have hret := Bd.returns
  have hlk := Bd.notSynchronized
  show Gz p e below s 16 128 (Q_law n0) (s₁.setTop (entryFrame m #[(.int p0), (.int p1), (.int p2), (.int p3)] maxLocals))
  refine Gz.enter (ef_rm0 m p0 p1 p2 p3) ?_
  refine Gz.iconst 1 (4 : Int32) X0 hx (dd at_0) rfl rfl ?_
  obtain ⟨T1, h1, k1, X1, e1, E1, A1, Q1, st1⟩ := newPE X0 hx hZ (ww hw 0 rfl) e0 (g := (mkF m 1 #[.val (.int p0), .val (.int p1), .val (.int p2), .val (.int p3), .unset, .unset, .unset] [(.int (4 : Int32))])) rfl (dd at_1) rfl (by decide) (cap := 4) (by decide) (by decide) (by decide) (by decide) (ad := "[I") rfl
  obtain ⟨b1, g1⟩ : ∃ z, z = h0.size := ⟨_, rfl⟩
  rw [← g1] at A1 Q1 st1
  have g_b1 : n0 ≤ b1 := Nat.le_trans Z0 (Nat.le_of_eq g1.symm)
  have SZ1 : n0 ≤ h1.size := Nat.le_trans Z0 E1.1
  have V1 : Arv Z h1 b1 k1 .int (4 : Int32) [(.int (0 : Int32)), (.int (0 : Int32)), (.int (0 : Int32)), (.int (0 : Int32))] (.int (0 : Int32)) := (Arv.new A1 (by decide)).pad (pad_rep [] (.int (0 : Int32)) 4)
  refine Gz.st st1 ?_
  refine Gz.dup 4 X1 hx (dd at_3) rfl rfl ?_
  refine Gz.iconst 5 (0 : Int32) X1 hx (dd at_4) rfl rfl ?_
  refine Gz.iloadN 6 X1 hx (dd at_5) rfl rfl ?_
  refine Gz.sipush 9 (255 : Int32) X1 hx (dd at_6) rfl rfl ?_
  refine Gz.iand 10 X1 hx (dd at_9) rfl ?_
  obtain ⟨c2, A2, q2, S2, N2, H2, G2⟩ := id V1
  have hin2 : ¬ ((0 : Int32) < 0 ∨ c2.slots.size ≤ ((0 : Int32)).toNatClampNeg) := inb_of S2 ⟨by decide, by decide⟩
  refine Gz.stI 11 X1 hx hZ (dd at_10) e1 A2 hin2 rfl fun T3 h3 X3 e3 W3 => ?_
  have V3 := Arv.set A2 q2 S2 N2 H2 G2 rfl W3 0 rfl (Nat.le_of_ble_eq_true rfl)
  replace V3 : Arv Z h3 b1 k1 .int (4 : Int32) [(.int (p0 &&& (255 : Int32))), (.int (0 : Int32)), (.int (0 : Int32)), (.int (0 : Int32))] (.int (0 : Int32)) := V3
  have f3_Eb1 := Exa.wr W3 Q1
  have N3 := Fr.snoc X3 N0 g_b1
  have SZ3 : n0 ≤ h3.size := Nat.le_trans SZ1 (Keep.of_wr W3).1
  refine Gz.dup 12 X3 hx (dd at_11) rfl rfl ?_
  refine Gz.iconst 13 (1 : Int32) X3 hx (dd at_12) rfl rfl ?_
  refine Gz.iloadN 14 X3 hx (dd at_13) rfl rfl ?_
  refine Gz.sipush 17 (255 : Int32) X3 hx (dd at_14) rfl rfl ?_
  refine Gz.iand 18 X3 hx (dd at_17) rfl ?_
  obtain ⟨c4, A4, q4, S4, N4, H4, G4⟩ := id V3
  have hin4 : ¬ ((1 : Int32) < 0 ∨ c4.slots.size ≤ ((1 : Int32)).toNatClampNeg) := inb_of S4 ⟨by decide, by decide⟩
  refine Gz.stI 19 X3 hx hZ (dd at_18) e3 A4 hin4 rfl fun T5 h5 X5 e5 W5 => ?_
  have V5 := Arv.set A4 q4 S4 N4 H4 G4 rfl W5 1 rfl (Nat.le_of_ble_eq_true rfl)
  replace V5 : Arv Z h5 b1 k1 .int (4 : Int32) [(.int (p0 &&& (255 : Int32))), (.int (p1 &&& (255 : Int32))), (.int (0 : Int32)), (.int (0 : Int32))] (.int (0 : Int32)) := V5
  have f5_Eb1 := Exa.wr W5 f3_Eb1
  have N5 := Fr.snoc X5 N3 g_b1
  have SZ5 : n0 ≤ h5.size := Nat.le_trans SZ3 (Keep.of_wr W5).1
  refine Gz.dup 20 X5 hx (dd at_19) rfl rfl ?_
  refine Gz.iconst 21 (2 : Int32) X5 hx (dd at_20) rfl rfl ?_
  refine Gz.iloadN 22 X5 hx (dd at_21) rfl rfl ?_
  refine Gz.sipush 25 (255 : Int32) X5 hx (dd at_22) rfl rfl ?_
  refine Gz.iand 26 X5 hx (dd at_25) rfl ?_
  obtain ⟨c6, A6, q6, S6, N6, H6, G6⟩ := id V5
  have hin6 : ¬ ((2 : Int32) < 0 ∨ c6.slots.size ≤ ((2 : Int32)).toNatClampNeg) := inb_of S6 ⟨by decide, by decide⟩
  refine Gz.stI 27 X5 hx hZ (dd at_26) e5 A6 hin6 rfl fun T7 h7 X7 e7 W7 => ?_
  have V7 := Arv.set A6 q6 S6 N6 H6 G6 rfl W7 2 rfl (Nat.le_of_ble_eq_true rfl)
  replace V7 : Arv Z h7 b1 k1 .int (4 : Int32) [(.int (p0 &&& (255 : Int32))), (.int (p1 &&& (255 : Int32))), (.int (p2 &&& (255 : Int32))), (.int (0 : Int32))] (.int (0 : Int32)) := V7
  have f7_Eb1 := Exa.wr W7 f5_Eb1
  have N7 := Fr.snoc X7 N5 g_b1
  have SZ7 : n0 ≤ h7.size := Nat.le_trans SZ5 (Keep.of_wr W7).1
  refine Gz.dup 28 X7 hx (dd at_27) rfl rfl ?_
  refine Gz.iconst 29 (3 : Int32) X7 hx (dd at_28) rfl rfl ?_
  refine Gz.iloadN 30 X7 hx (dd at_29) rfl rfl ?_
  refine Gz.sipush 33 (255 : Int32) X7 hx (dd at_30) rfl rfl ?_
  refine Gz.iand 34 X7 hx (dd at_33) rfl ?_
  obtain ⟨c8, A8, q8, S8, N8, H8, G8⟩ := id V7
  have hin8 : ¬ ((3 : Int32) < 0 ∨ c8.slots.size ≤ ((3 : Int32)).toNatClampNeg) := inb_of S8 ⟨by decide, by decide⟩
  refine Gz.stI 35 X7 hx hZ (dd at_34) e7 A8 hin8 rfl fun T9 h9 X9 e9 W9 => ?_
  have V9 := Arv.set A8 q8 S8 N8 H8 G8 rfl W9 3 rfl (Nat.le_of_ble_eq_true rfl)
  replace V9 : Arv Z h9 b1 k1 .int (4 : Int32) [(.int (p0 &&& (255 : Int32))), (.int (p1 &&& (255 : Int32))), (.int (p2 &&& (255 : Int32))), (.int (p3 &&& (255 : Int32)))] (.int (0 : Int32)) := V9
  have f9_Eb1 := Exa.wr W9 f7_Eb1
  have N9 := Fr.snoc X9 N7 g_b1
  have SZ9 : n0 ≤ h9.size := Nat.le_trans SZ7 (Keep.of_wr W9).1
  refine Gz.astore 37 #[.val (.int p0), .val (.int p1), .val (.int p2), .val (.int p3), .val (.ref b1), .unset, .unset] X9 hx (dd at_35) rfl rfl rfl ?_
  obtain ⟨T10, h10, X10, e10, E10, A10, D10, -, st10⟩ := newO X9 hx hZ hown (ww hw 1 rfl) (ww hw 2 rfl) (ww hw 3 rfl) e9 (g := (mkF m 37 #[.val (.int p0), .val (.int p1), .val (.int p2), .val (.int p3), .val (.ref b1), .unset, .unset] [])) rfl (dd at_37) (by decide) (by decide)
  obtain ⟨b10, g10⟩ : ∃ z, z = h9.size := ⟨_, rfl⟩
  rw [← g10] at A10 D10 st10
  have ne_b1_b10 : b1 ≠ b10 := Nat.ne_of_lt (Nat.lt_of_lt_of_le (f9_Eb1).lt (Nat.le_of_eq g10.symm))
  have g_b10 : n0 ≤ b10 := Nat.le_trans SZ9 (Nat.le_of_eq g10.symm)
  have SZ10 : n0 ≤ h10.size := Nat.le_trans SZ9 E10.1
  have f10_Eb1 := Exa.ext E10 f9_Eb1
  have f10_Vb1 := Arv.ext V9 E10
  have F_pending_b10 : Fld Z h10 b10 "com/example/fold3/fold3/input/Utf8Check" "pending" "I" (.int (0 : Int32)) := D10 (Or.inl (ww hw 26 rfl)) (ty := .int) (by decide)
  have F_low_b10 : Fld Z h10 b10 "com/example/fold3/fold3/input/Utf8Check" "low" "I" (.int (0 : Int32)) := D10 (Or.inl (ww hw 33 rfl)) (ty := .int) (by decide)
  have F_high_b10 : Fld Z h10 b10 "com/example/fold3/fold3/input/Utf8Check" "high" "I" (.int (0 : Int32)) := D10 (Or.inl (ww hw 35 rfl)) (ty := .int) (by decide)
  refine Gz.st st10 ?_
  refine Gz.dup 41 X10 hx (dd at_40) rfl rfl ?_
  obtain ⟨_, _, ⟨T11, L11, k11, n11⟩, -, X11, ⟨Lc11, hQ11, l11, y11, z11⟩, st11⟩ := X10.specialBack hx (y := (⟨"com/example/fold3/fold3/input/Utf8Check", "<init>", "()V"⟩ : MethodName)) rfl hown (mvT hZ (ww hw 4 rfl)) (mvT hZ (ww hw 5 rfl)) (mvT hZ (ww hw 6 rfl)) (by decide) (backOf (W := 1) (rm1 l Z av0 hw [] b10  h10 n0 SZ10 A10) hZ (ww hw 6 rfl) (ww hw 3 rfl) (by decide) (by decide)) (g := (mkF m 41 #[.val (.int p0), .val (.int p1), .val (.int p2), .val (.int p3), .val (.ref b1), .unset, .unset] [(.ref b10), (.ref b10)])) rfl (by rw [hml]; rfl) (Steps.refl _) (a := b10) (argsL := []) (rest := [(.ref b10)]) (lenOf pd_4 rfl) rfl (by show 2 * 0 + _ ≤ _; exact Nat.le_of_eq rfl) (dd at_41) (fun _ _ => ⟨rfl, e10, (by decide : 2 + 0 ≤ _), (by decide : 7 + 0 ≤ _)⟩)
  dsimp only [Pt.U, Pt.locs, Pt.cells, Pt.slots, Q_rm1] at X11 l11 y11 z11 st11 hQ11
  subst l11 y11 z11
  obtain ⟨rfl, N11q, K11q⟩ := hQ11
  have N11 := Fr.app N9 N11q
  have f11_Eb1 := Exa.keep f10_Eb1 K11q
  have f11_Vb1 := Arv.keep f10_Vb1 K11q nin0
  have f11_Eb10 := Exa.keep A10 K11q
  have f11_F_pending_b10 := Fld.keep F_pending_b10 K11q nin0
  have f11_F_low_b10 := Fld.keep F_low_b10 K11q nin0
  have f11_F_high_b10 := Fld.keep F_high_b10 K11q nin0
  have SZ11 := Nat.le_trans SZ10 K11q.1
  refine Gz.tr st11 ?_
  refine Gz.astore 46 #[.val (.int p0), .val (.int p1), .val (.int p2), .val (.int p3), .val (.ref b1), .val (.ref b10), .unset] X11 hx (dd at_44) rfl rfl rfl ?_
  refine Gz.iconst 47 (0 : Int32) X11 hx (dd at_46) rfl rfl ?_
  refine Gz.istore 49 #[.val (.int p0), .val (.int p1), .val (.int p2), .val (.int p3), .val (.ref b1), .val (.ref b10), .val (.int (0 : Int32))] X11 hx (dd at_47) rfl rfl ?_
  refine Gz.aload 51 X11 hx (dd at_49) rfl rfl rfl ?_
  refine Gz.aload 53 X11 hx (dd at_51) rfl rfl rfl ?_
  refine Gz.iload 55 X11 hx (dd at_53) rfl rfl ?_
  refine Gz.iconst 56 (0 : Int32) X11 hx (dd at_55) rfl rfl ?_
  obtain ⟨c12, A12, q12, S12, N12, H12, G12⟩ := id f11_Vb1
  have hin13 : ¬ ((0 : Int32) < 0 ∨ c12.slots.size ≤ ((0 : Int32)).toNatClampNeg) := inb_of S12 ⟨by decide, by decide⟩
  have hat13 : c12.slots[((0 : Int32)).toNatClampNeg]? = some (.int (p0 &&& (255 : Int32))) := Has.at H12 hin13 rfl
  have hin14 : ¬ ((0 : Int32) < 0 ∨ c12.slots.size ≤ ((0 : Int32)).toNatClampNeg) := inb_of S12 ⟨by decide, by decide⟩
  have hat14 : c12.slots[((0 : Int32)).toNatClampNeg]? = some (.int (p0 &&& (255 : Int32))) := Has.at H12 hin14 rfl
  obtain ⟨_, _, ⟨T15, L15, k15, n15⟩, -, X15, ⟨Lc15, hQ15, l15, y15, z15⟩, st15⟩ := Jvm.LawKit.callS X11 hx (y := (⟨"com/example/fold3/fold3/input/Utf8CheckAcceptPinLaw", "step", "(Lcom/example/fold3/fold3/input/Utf8Check;[III)I"⟩ : MethodName)) hown (mvT hZ (ww hw 10 rfl)) (mvT hZ (ww hw 11 rfl)) (mvT hZ (ww hw 12 rfl)) (mvT hZ (ww hw 13 rfl)) (by decide) (backOf (W := 0) (rm3 l Z av0 hw [] b10 b1 (0 : Int32) (0 : Int32) (0 : Int32) (0 : Int32) (0 : Int32) c12 (p0 &&& (255 : Int32)) (p0 &&& (255 : Int32)) T11.heap n0 SZ11 f11_Eb10 f11_F_pending_b10 f11_F_low_b10 f11_F_high_b10 g_b10 A12 hin13 hat13 hin14 hat14 ne_b1_b10 (by decide)) hZ (ww hw 13 rfl) (ww hw 12 rfl) (by decide) (by decide)) (g := (mkF m 56 #[.val (.int p0), .val (.int p1), .val (.int p2), .val (.int p3), .val (.ref b1), .val (.ref b10), .val (.int (0 : Int32))] [(.int (0 : Int32)), (.int (0 : Int32)), (.ref b1), (.ref b10)])) rfl (by rw [hml]; rfl) (argsL := [(.ref b10), (.ref b1), (.int (0 : Int32)), (.int (0 : Int32))]) (rest := []) (lenOf pd_5 rfl) rfl (by show 2 * 0 + _ ≤ _; exact Nat.le_of_eq rfl) (dd at_56) (fun _ _ => ⟨rfl, rfl, (by decide : 2 + 0 ≤ _), (by decide : 7 + 0 ≤ _)⟩)
  dsimp only [Pt.U, Pt.locs, Pt.cells, Pt.slots, Q_rm3] at X15 l15 y15 z15 st15 hQ15
  subst l15 y15 z15
  have hS15 := own_step0 b10 b1 (0 : Int32) (0 : Int32) (0 : Int32) (0 : Int32) (p0 &&& (255 : Int32)) (1 : Int32) (own_byte _) (by decide) (by decide) (by decide)
  generalize (fStep b10 b1 (0 : Int32) (0 : Int32) (0 : Int32) (0 : Int32) (0 : Int32) (p0 &&& (255 : Int32)) (p0 &&& (255 : Int32))) = r15 at hQ15 hS15
  generalize (fStep_pending b10 b1 (0 : Int32) (0 : Int32) (0 : Int32) (0 : Int32) (0 : Int32) (p0 &&& (255 : Int32)) (p0 &&& (255 : Int32))) = P15 at hQ15 hS15
  generalize (fStep_low b10 b1 (0 : Int32) (0 : Int32) (0 : Int32) (0 : Int32) (0 : Int32) (p0 &&& (255 : Int32)) (p0 &&& (255 : Int32))) = Lo15 at hQ15 hS15
  generalize (fStep_high b10 b1 (0 : Int32) (0 : Int32) (0 : Int32) (0 : Int32) (0 : Int32) (p0 &&& (255 : Int32)) (p0 &&& (255 : Int32))) = Hi15 at hQ15 hS15
  obtain ⟨rfl, N15q, K15q, QE15, QP15, QL15, QH15⟩ := hQ15
  have N15 := Fr.app N11 N15q
  have f15_Eb1 := Exa.keep f11_Eb1 K15q
  have f15_Vb1 := Arv.keep f11_Vb1 K15q (ninS ne_b1_b10 nin0)
  have f15_Eb10 := Exa.keep f11_Eb10 K15q
  have SZ15 := Nat.le_trans SZ11 K15q.1
  refine Gz.st st15 ?_
  show Gz p e below s _ _ _ (T15.setTop (mkF m 59 #[.val (.int p0), .val (.int p1), .val (.int p2), .val (.int p3), .val (.ref b1), .val (.ref b10), .val (.int (0 : Int32))] [(.int r15)]))
  rcases hS15 with rfl | ⟨rfl, hP15⟩ | ⟨rfl, hI15⟩
  · refine Gz.istore 61 #[.val (.int p0), .val (.int p1), .val (.int p2), .val (.int p3), .val (.ref b1), .val (.ref b10), .val (.int (-1 : Int32))] X15 hx (dd at_59) rfl rfl ?_
    refine Gz.aload 63 X15 hx (dd at_61) rfl rfl rfl ?_
    refine Gz.aload 65 X15 hx (dd at_63) rfl rfl rfl ?_
    refine Gz.iload 67 X15 hx (dd at_65) rfl rfl ?_
    refine Gz.iconst 68 (1 : Int32) X15 hx (dd at_67) rfl rfl ?_
    obtain ⟨_, _, ⟨T16, L16, k16, n16⟩, -, X16, ⟨Lc16, hQ16, l16, y16, z16⟩, st16⟩ := Jvm.LawKit.callS X15 hx (y := (⟨"com/example/fold3/fold3/input/Utf8CheckAcceptPinLaw", "step", "(Lcom/example/fold3/fold3/input/Utf8Check;[III)I"⟩ : MethodName)) hown (mvT hZ (ww hw 10 rfl)) (mvT hZ (ww hw 11 rfl)) (mvT hZ (ww hw 12 rfl)) (mvT hZ (ww hw 13 rfl)) (by decide) (backOf (W := 0) (rm3n l Z av0 hw [] b10 b1 (-1 : Int32) (1 : Int32)  T15.heap n0 SZ15 (by decide)) hZ (ww hw 13 rfl) (ww hw 12 rfl) (by decide) (by decide)) (g := (mkF m 68 #[.val (.int p0), .val (.int p1), .val (.int p2), .val (.int p3), .val (.ref b1), .val (.ref b10), .val (.int (-1 : Int32))] [(.int (1 : Int32)), (.int (-1 : Int32)), (.ref b1), (.ref b10)])) rfl (by rw [hml]; rfl) (argsL := [(.ref b10), (.ref b1), (.int (-1 : Int32)), (.int (1 : Int32))]) (rest := []) (lenOf pd_5 rfl) rfl (by show 2 * 0 + _ ≤ _; exact Nat.le_of_eq rfl) (dd at_68) (fun _ _ => ⟨rfl, rfl, (by decide : 2 + 0 ≤ _), (by decide : 7 + 0 ≤ _)⟩)
    dsimp only [Pt.U, Pt.locs, Pt.cells, Pt.slots, Q_rm3n] at X16 l16 y16 z16 st16 hQ16
    subst l16 y16 z16
    rw [show (fNeg b10 b1 (-1 : Int32) (1 : Int32)) = (-1 : Int32) from (by unfold fNeg; rfl)] at hQ16
    obtain ⟨rfl, N16q, e16⟩ := hQ16
    have N16 := Fr.app N15 N16q
    refine Gz.st st16 ?_
    refine Gz.istore 73 #[.val (.int p0), .val (.int p1), .val (.int p2), .val (.int p3), .val (.ref b1), .val (.ref b10), .val (.int (-1 : Int32))] X16 hx (dd at_71) rfl rfl ?_
    refine Gz.aload 75 X16 hx (dd at_73) rfl rfl rfl ?_
    refine Gz.aload 77 X16 hx (dd at_75) rfl rfl rfl ?_
    refine Gz.iload 79 X16 hx (dd at_77) rfl rfl ?_
    refine Gz.iconst 80 (2 : Int32) X16 hx (dd at_79) rfl rfl ?_
    obtain ⟨_, _, ⟨T17, L17, k17, n17⟩, -, X17, ⟨Lc17, hQ17, l17, y17, z17⟩, st17⟩ := Jvm.LawKit.callS X16 hx (y := (⟨"com/example/fold3/fold3/input/Utf8CheckAcceptPinLaw", "step", "(Lcom/example/fold3/fold3/input/Utf8Check;[III)I"⟩ : MethodName)) hown (mvT hZ (ww hw 10 rfl)) (mvT hZ (ww hw 11 rfl)) (mvT hZ (ww hw 12 rfl)) (mvT hZ (ww hw 13 rfl)) (by decide) (backOf (W := 0) (rm3n l Z av0 hw [] b10 b1 (-1 : Int32) (2 : Int32)  T15.heap n0 SZ15 (by decide)) hZ (ww hw 13 rfl) (ww hw 12 rfl) (by decide) (by decide)) (g := (mkF m 80 #[.val (.int p0), .val (.int p1), .val (.int p2), .val (.int p3), .val (.ref b1), .val (.ref b10), .val (.int (-1 : Int32))] [(.int (2 : Int32)), (.int (-1 : Int32)), (.ref b1), (.ref b10)])) rfl (by rw [hml]; rfl) (argsL := [(.ref b10), (.ref b1), (.int (-1 : Int32)), (.int (2 : Int32))]) (rest := []) (lenOf pd_5 rfl) rfl (by show 2 * 0 + _ ≤ _; exact Nat.le_of_eq rfl) (dd at_80) (fun _ _ => ⟨rfl, e16, (by decide : 2 + 0 ≤ _), (by decide : 7 + 0 ≤ _)⟩)
    dsimp only [Pt.U, Pt.locs, Pt.cells, Pt.slots, Q_rm3n] at X17 l17 y17 z17 st17 hQ17
    subst l17 y17 z17
    rw [show (fNeg b10 b1 (-1 : Int32) (2 : Int32)) = (-1 : Int32) from (by unfold fNeg; rfl)] at hQ17
    obtain ⟨rfl, N17q, e17⟩ := hQ17
    have N17 := Fr.app N16 N17q
    refine Gz.st st17 ?_
    refine Gz.istore 85 #[.val (.int p0), .val (.int p1), .val (.int p2), .val (.int p3), .val (.ref b1), .val (.ref b10), .val (.int (-1 : Int32))] X17 hx (dd at_83) rfl rfl ?_
    refine Gz.aload 87 X17 hx (dd at_85) rfl rfl rfl ?_
    refine Gz.aload 89 X17 hx (dd at_87) rfl rfl rfl ?_
    refine Gz.iload 91 X17 hx (dd at_89) rfl rfl ?_
    refine Gz.iconst 92 (3 : Int32) X17 hx (dd at_91) rfl rfl ?_
    obtain ⟨_, _, ⟨T18, L18, k18, n18⟩, -, X18, ⟨Lc18, hQ18, l18, y18, z18⟩, st18⟩ := Jvm.LawKit.callS X17 hx (y := (⟨"com/example/fold3/fold3/input/Utf8CheckAcceptPinLaw", "step", "(Lcom/example/fold3/fold3/input/Utf8Check;[III)I"⟩ : MethodName)) hown (mvT hZ (ww hw 10 rfl)) (mvT hZ (ww hw 11 rfl)) (mvT hZ (ww hw 12 rfl)) (mvT hZ (ww hw 13 rfl)) (by decide) (backOf (W := 0) (rm3n l Z av0 hw [] b10 b1 (-1 : Int32) (3 : Int32)  T15.heap n0 SZ15 (by decide)) hZ (ww hw 13 rfl) (ww hw 12 rfl) (by decide) (by decide)) (g := (mkF m 92 #[.val (.int p0), .val (.int p1), .val (.int p2), .val (.int p3), .val (.ref b1), .val (.ref b10), .val (.int (-1 : Int32))] [(.int (3 : Int32)), (.int (-1 : Int32)), (.ref b1), (.ref b10)])) rfl (by rw [hml]; rfl) (argsL := [(.ref b10), (.ref b1), (.int (-1 : Int32)), (.int (3 : Int32))]) (rest := []) (lenOf pd_5 rfl) rfl (by show 2 * 0 + _ ≤ _; exact Nat.le_of_eq rfl) (dd at_92) (fun _ _ => ⟨rfl, e17, (by decide : 2 + 0 ≤ _), (by decide : 7 + 0 ≤ _)⟩)
    dsimp only [Pt.U, Pt.locs, Pt.cells, Pt.slots, Q_rm3n] at X18 l18 y18 z18 st18 hQ18
    subst l18 y18 z18
    rw [show (fNeg b10 b1 (-1 : Int32) (3 : Int32)) = (-1 : Int32) from (by unfold fNeg; rfl)] at hQ18
    obtain ⟨rfl, N18q, e18⟩ := hQ18
    have N18 := Fr.app N17 N18q
    refine Gz.st st18 ?_
    refine Gz.istore 97 #[.val (.int p0), .val (.int p1), .val (.int p2), .val (.int p3), .val (.ref b1), .val (.ref b10), .val (.int (-1 : Int32))] X18 hx (dd at_95) rfl rfl ?_
    refine Gz.iload 99 X18 hx (dd at_97) rfl rfl ?_
    refine Gz.bipush 101 (-9 : Int32) X18 hx (dd at_99) rfl rfl ?_
    refine Gz.icmpNo 104 X18 hx (dd at_101) (feq (by decide : ¬ ((-1 : Int32) = (-9 : Int32)))).1 rfl ?_
    refine Gz.iconst 105 (1 : Int32) X18 hx (dd at_104) rfl rfl ?_
    refine Gz.goto 109 X18 hx (dd at_105) (by decide) (by decide) ?_
    refine Gz.fin X18 (v := some (.int (1 : Int32))) (fun h => by rw [hret] at h; cases h) hlk (by decide) (by decide) (fun fs hr => retN X18 hx (t := .boolean) hret (by simp) (dd at_109) hr) ?_
    exact ⟨rfl, N18⟩
  · subst hP15
    refine Gz.istore 61 #[.val (.int p0), .val (.int p1), .val (.int p2), .val (.int p3), .val (.ref b1), .val (.ref b10), .val (.int (1 : Int32))] X15 hx (dd at_59) rfl rfl ?_
    refine Gz.aload 63 X15 hx (dd at_61) rfl rfl rfl ?_
    refine Gz.aload 65 X15 hx (dd at_63) rfl rfl rfl ?_
    refine Gz.iload 67 X15 hx (dd at_65) rfl rfl ?_
    refine Gz.iconst 68 (1 : Int32) X15 hx (dd at_67) rfl rfl ?_
    obtain ⟨c19, A19, q19, S19, N19, H19, G19⟩ := id f15_Vb1
    have hin20 : ¬ ((1 : Int32) < 0 ∨ c19.slots.size ≤ ((1 : Int32)).toNatClampNeg) := inb_of S19 ⟨by decide, by decide⟩
    have hat20 : c19.slots[((1 : Int32)).toNatClampNeg]? = some (.int (p1 &&& (255 : Int32))) := Has.at H19 hin20 rfl
    have hin21 : ¬ ((1 : Int32) < 0 ∨ c19.slots.size ≤ ((1 : Int32)).toNatClampNeg) := inb_of S19 ⟨by decide, by decide⟩
    have hat21 : c19.slots[((1 : Int32)).toNatClampNeg]? = some (.int (p1 &&& (255 : Int32))) := Has.at H19 hin21 rfl
    obtain ⟨_, _, ⟨T22, L22, k22, n22⟩, -, X22, ⟨Lc22, hQ22, l22, y22, z22⟩, st22⟩ := Jvm.LawKit.callS X15 hx (y := (⟨"com/example/fold3/fold3/input/Utf8CheckAcceptPinLaw", "step", "(Lcom/example/fold3/fold3/input/Utf8Check;[III)I"⟩ : MethodName)) hown (mvT hZ (ww hw 10 rfl)) (mvT hZ (ww hw 11 rfl)) (mvT hZ (ww hw 12 rfl)) (mvT hZ (ww hw 13 rfl)) (by decide) (backOf (W := 0) (rm3 l Z av0 hw [] b10 b1 (1 : Int32) (1 : Int32) (0 : Int32) Lo15 Hi15 c19 (p1 &&& (255 : Int32)) (p1 &&& (255 : Int32)) T15.heap n0 SZ15 QE15 QP15 QL15 QH15 g_b10 A19 hin20 hat20 hin21 hat21 ne_b1_b10 (by decide)) hZ (ww hw 13 rfl) (ww hw 12 rfl) (by decide) (by decide)) (g := (mkF m 68 #[.val (.int p0), .val (.int p1), .val (.int p2), .val (.int p3), .val (.ref b1), .val (.ref b10), .val (.int (1 : Int32))] [(.int (1 : Int32)), (.int (1 : Int32)), (.ref b1), (.ref b10)])) rfl (by rw [hml]; rfl) (argsL := [(.ref b10), (.ref b1), (.int (1 : Int32)), (.int (1 : Int32))]) (rest := []) (lenOf pd_5 rfl) rfl (by show 2 * 0 + _ ≤ _; exact Nat.le_of_eq rfl) (dd at_68) (fun _ _ => ⟨rfl, rfl, (by decide : 2 + 0 ≤ _), (by decide : 7 + 0 ≤ _)⟩)
    dsimp only [Pt.U, Pt.locs, Pt.cells, Pt.slots, Q_rm3] at X22 l22 y22 z22 st22 hQ22
    subst l22 y22 z22
    have hS22 := own_step0 b10 b1 (1 : Int32) (1 : Int32) Lo15 Hi15 (p1 &&& (255 : Int32)) (2 : Int32) (own_byte _) (by decide) (by decide) (by decide)
    generalize (fStep b10 b1 (1 : Int32) (1 : Int32) (0 : Int32) Lo15 Hi15 (p1 &&& (255 : Int32)) (p1 &&& (255 : Int32))) = r22 at hQ22 hS22
    generalize (fStep_pending b10 b1 (1 : Int32) (1 : Int32) (0 : Int32) Lo15 Hi15 (p1 &&& (255 : Int32)) (p1 &&& (255 : Int32))) = P22 at hQ22 hS22
    generalize (fStep_low b10 b1 (1 : Int32) (1 : Int32) (0 : Int32) Lo15 Hi15 (p1 &&& (255 : Int32)) (p1 &&& (255 : Int32))) = Lo22 at hQ22 hS22
    generalize (fStep_high b10 b1 (1 : Int32) (1 : Int32) (0 : Int32) Lo15 Hi15 (p1 &&& (255 : Int32)) (p1 &&& (255 : Int32))) = Hi22 at hQ22 hS22
    obtain ⟨rfl, N22q, K22q, QE22, QP22, QL22, QH22⟩ := hQ22
    have N22 := Fr.app N15 N22q
    have f22_Eb1 := Exa.keep f15_Eb1 K22q
    have f22_Vb1 := Arv.keep f15_Vb1 K22q (ninS ne_b1_b10 nin0)
    have f22_E_b10 := Exa.keep QE15 K22q
    have SZ22 := Nat.le_trans SZ15 K22q.1
    refine Gz.st st22 ?_
    show Gz p e below s _ _ _ (T22.setTop (mkF m 71 #[.val (.int p0), .val (.int p1), .val (.int p2), .val (.int p3), .val (.ref b1), .val (.ref b10), .val (.int (1 : Int32))] [(.int r22)]))
    rcases hS22 with rfl | ⟨rfl, hP22⟩ | ⟨rfl, hI22⟩
    · refine Gz.istore 73 #[.val (.int p0), .val (.int p1), .val (.int p2), .val (.int p3), .val (.ref b1), .val (.ref b10), .val (.int (-1 : Int32))] X22 hx (dd at_71) rfl rfl ?_
      refine Gz.aload 75 X22 hx (dd at_73) rfl rfl rfl ?_
      refine Gz.aload 77 X22 hx (dd at_75) rfl rfl rfl ?_
      refine Gz.iload 79 X22 hx (dd at_77) rfl rfl ?_
      refine Gz.iconst 80 (2 : Int32) X22 hx (dd at_79) rfl rfl ?_
      obtain ⟨_, _, ⟨T23, L23, k23, n23⟩, -, X23, ⟨Lc23, hQ23, l23, y23, z23⟩, st23⟩ := Jvm.LawKit.callS X22 hx (y := (⟨"com/example/fold3/fold3/input/Utf8CheckAcceptPinLaw", "step", "(Lcom/example/fold3/fold3/input/Utf8Check;[III)I"⟩ : MethodName)) hown (mvT hZ (ww hw 10 rfl)) (mvT hZ (ww hw 11 rfl)) (mvT hZ (ww hw 12 rfl)) (mvT hZ (ww hw 13 rfl)) (by decide) (backOf (W := 0) (rm3n l Z av0 hw [] b10 b1 (-1 : Int32) (2 : Int32)  T22.heap n0 SZ22 (by decide)) hZ (ww hw 13 rfl) (ww hw 12 rfl) (by decide) (by decide)) (g := (mkF m 80 #[.val (.int p0), .val (.int p1), .val (.int p2), .val (.int p3), .val (.ref b1), .val (.ref b10), .val (.int (-1 : Int32))] [(.int (2 : Int32)), (.int (-1 : Int32)), (.ref b1), (.ref b10)])) rfl (by rw [hml]; rfl) (argsL := [(.ref b10), (.ref b1), (.int (-1 : Int32)), (.int (2 : Int32))]) (rest := []) (lenOf pd_5 rfl) rfl (by show 2 * 0 + _ ≤ _; exact Nat.le_of_eq rfl) (dd at_80) (fun _ _ => ⟨rfl, rfl, (by decide : 2 + 0 ≤ _), (by decide : 7 + 0 ≤ _)⟩)
      dsimp only [Pt.U, Pt.locs, Pt.cells, Pt.slots, Q_rm3n] at X23 l23 y23 z23 st23 hQ23
      subst l23 y23 z23
      rw [show (fNeg b10 b1 (-1 : Int32) (2 : Int32)) = (-1 : Int32) from (by unfold fNeg; rfl)] at hQ23
      obtain ⟨rfl, N23q, e23⟩ := hQ23
      have N23 := Fr.app N22 N23q
      refine Gz.st st23 ?_
      refine Gz.istore 85 #[.val (.int p0), .val (.int p1), .val (.int p2), .val (.int p3), .val (.ref b1), .val (.ref b10), .val (.int (-1 : Int32))] X23 hx (dd at_83) rfl rfl ?_
      refine Gz.aload 87 X23 hx (dd at_85) rfl rfl rfl ?_
      refine Gz.aload 89 X23 hx (dd at_87) rfl rfl rfl ?_
      refine Gz.iload 91 X23 hx (dd at_89) rfl rfl ?_
      refine Gz.iconst 92 (3 : Int32) X23 hx (dd at_91) rfl rfl ?_
      obtain ⟨_, _, ⟨T24, L24, k24, n24⟩, -, X24, ⟨Lc24, hQ24, l24, y24, z24⟩, st24⟩ := Jvm.LawKit.callS X23 hx (y := (⟨"com/example/fold3/fold3/input/Utf8CheckAcceptPinLaw", "step", "(Lcom/example/fold3/fold3/input/Utf8Check;[III)I"⟩ : MethodName)) hown (mvT hZ (ww hw 10 rfl)) (mvT hZ (ww hw 11 rfl)) (mvT hZ (ww hw 12 rfl)) (mvT hZ (ww hw 13 rfl)) (by decide) (backOf (W := 0) (rm3n l Z av0 hw [] b10 b1 (-1 : Int32) (3 : Int32)  T22.heap n0 SZ22 (by decide)) hZ (ww hw 13 rfl) (ww hw 12 rfl) (by decide) (by decide)) (g := (mkF m 92 #[.val (.int p0), .val (.int p1), .val (.int p2), .val (.int p3), .val (.ref b1), .val (.ref b10), .val (.int (-1 : Int32))] [(.int (3 : Int32)), (.int (-1 : Int32)), (.ref b1), (.ref b10)])) rfl (by rw [hml]; rfl) (argsL := [(.ref b10), (.ref b1), (.int (-1 : Int32)), (.int (3 : Int32))]) (rest := []) (lenOf pd_5 rfl) rfl (by show 2 * 0 + _ ≤ _; exact Nat.le_of_eq rfl) (dd at_92) (fun _ _ => ⟨rfl, e23, (by decide : 2 + 0 ≤ _), (by decide : 7 + 0 ≤ _)⟩)
      dsimp only [Pt.U, Pt.locs, Pt.cells, Pt.slots, Q_rm3n] at X24 l24 y24 z24 st24 hQ24
      subst l24 y24 z24
      rw [show (fNeg b10 b1 (-1 : Int32) (3 : Int32)) = (-1 : Int32) from (by unfold fNeg; rfl)] at hQ24
      obtain ⟨rfl, N24q, e24⟩ := hQ24
      have N24 := Fr.app N23 N24q
      refine Gz.st st24 ?_
      refine Gz.istore 97 #[.val (.int p0), .val (.int p1), .val (.int p2), .val (.int p3), .val (.ref b1), .val (.ref b10), .val (.int (-1 : Int32))] X24 hx (dd at_95) rfl rfl ?_
      refine Gz.iload 99 X24 hx (dd at_97) rfl rfl ?_
      refine Gz.bipush 101 (-9 : Int32) X24 hx (dd at_99) rfl rfl ?_
      refine Gz.icmpNo 104 X24 hx (dd at_101) (feq (by decide : ¬ ((-1 : Int32) = (-9 : Int32)))).1 rfl ?_
      refine Gz.iconst 105 (1 : Int32) X24 hx (dd at_104) rfl rfl ?_
      refine Gz.goto 109 X24 hx (dd at_105) (by decide) (by decide) ?_
      refine Gz.fin X24 (v := some (.int (1 : Int32))) (fun h => by rw [hret] at h; cases h) hlk (by decide) (by decide) (fun fs hr => retN X24 hx (t := .boolean) hret (by simp) (dd at_109) hr) ?_
      exact ⟨rfl, N24⟩
    · subst hP22
      refine Gz.istore 73 #[.val (.int p0), .val (.int p1), .val (.int p2), .val (.int p3), .val (.ref b1), .val (.ref b10), .val (.int (2 : Int32))] X22 hx (dd at_71) rfl rfl ?_
      refine Gz.aload 75 X22 hx (dd at_73) rfl rfl rfl ?_
      refine Gz.aload 77 X22 hx (dd at_75) rfl rfl rfl ?_
      refine Gz.iload 79 X22 hx (dd at_77) rfl rfl ?_
      refine Gz.iconst 80 (2 : Int32) X22 hx (dd at_79) rfl rfl ?_
      obtain ⟨c25, A25, q25, S25, N25, H25, G25⟩ := id f22_Vb1
      have hin26 : ¬ ((2 : Int32) < 0 ∨ c25.slots.size ≤ ((2 : Int32)).toNatClampNeg) := inb_of S25 ⟨by decide, by decide⟩
      have hat26 : c25.slots[((2 : Int32)).toNatClampNeg]? = some (.int (p2 &&& (255 : Int32))) := Has.at H25 hin26 rfl
      have hin27 : ¬ ((2 : Int32) < 0 ∨ c25.slots.size ≤ ((2 : Int32)).toNatClampNeg) := inb_of S25 ⟨by decide, by decide⟩
      have hat27 : c25.slots[((2 : Int32)).toNatClampNeg]? = some (.int (p2 &&& (255 : Int32))) := Has.at H25 hin27 rfl
      obtain ⟨_, _, ⟨T28, L28, k28, n28⟩, -, X28, ⟨Lc28, hQ28, l28, y28, z28⟩, st28⟩ := Jvm.LawKit.callS X22 hx (y := (⟨"com/example/fold3/fold3/input/Utf8CheckAcceptPinLaw", "step", "(Lcom/example/fold3/fold3/input/Utf8Check;[III)I"⟩ : MethodName)) hown (mvT hZ (ww hw 10 rfl)) (mvT hZ (ww hw 11 rfl)) (mvT hZ (ww hw 12 rfl)) (mvT hZ (ww hw 13 rfl)) (by decide) (backOf (W := 0) (rm3 l Z av0 hw [] b10 b1 (2 : Int32) (2 : Int32) (0 : Int32) Lo22 Hi22 c25 (p2 &&& (255 : Int32)) (p2 &&& (255 : Int32)) T22.heap n0 SZ22 QE22 QP22 QL22 QH22 g_b10 A25 hin26 hat26 hin27 hat27 ne_b1_b10 (by decide)) hZ (ww hw 13 rfl) (ww hw 12 rfl) (by decide) (by decide)) (g := (mkF m 80 #[.val (.int p0), .val (.int p1), .val (.int p2), .val (.int p3), .val (.ref b1), .val (.ref b10), .val (.int (2 : Int32))] [(.int (2 : Int32)), (.int (2 : Int32)), (.ref b1), (.ref b10)])) rfl (by rw [hml]; rfl) (argsL := [(.ref b10), (.ref b1), (.int (2 : Int32)), (.int (2 : Int32))]) (rest := []) (lenOf pd_5 rfl) rfl (by show 2 * 0 + _ ≤ _; exact Nat.le_of_eq rfl) (dd at_80) (fun _ _ => ⟨rfl, rfl, (by decide : 2 + 0 ≤ _), (by decide : 7 + 0 ≤ _)⟩)
      dsimp only [Pt.U, Pt.locs, Pt.cells, Pt.slots, Q_rm3] at X28 l28 y28 z28 st28 hQ28
      subst l28 y28 z28
      have hS28 := own_step0 b10 b1 (2 : Int32) (2 : Int32) Lo22 Hi22 (p2 &&& (255 : Int32)) (3 : Int32) (own_byte _) (by decide) (by decide) (by decide)
      generalize (fStep b10 b1 (2 : Int32) (2 : Int32) (0 : Int32) Lo22 Hi22 (p2 &&& (255 : Int32)) (p2 &&& (255 : Int32))) = r28 at hQ28 hS28
      generalize (fStep_pending b10 b1 (2 : Int32) (2 : Int32) (0 : Int32) Lo22 Hi22 (p2 &&& (255 : Int32)) (p2 &&& (255 : Int32))) = P28 at hQ28 hS28
      generalize (fStep_low b10 b1 (2 : Int32) (2 : Int32) (0 : Int32) Lo22 Hi22 (p2 &&& (255 : Int32)) (p2 &&& (255 : Int32))) = Lo28 at hQ28 hS28
      generalize (fStep_high b10 b1 (2 : Int32) (2 : Int32) (0 : Int32) Lo22 Hi22 (p2 &&& (255 : Int32)) (p2 &&& (255 : Int32))) = Hi28 at hQ28 hS28
      obtain ⟨rfl, N28q, K28q, QE28, QP28, QL28, QH28⟩ := hQ28
      have N28 := Fr.app N22 N28q
      have f28_Eb1 := Exa.keep f22_Eb1 K28q
      have f28_Vb1 := Arv.keep f22_Vb1 K28q (ninS ne_b1_b10 nin0)
      have f28_E_b10 := Exa.keep QE22 K28q
      have SZ28 := Nat.le_trans SZ22 K28q.1
      refine Gz.st st28 ?_
      show Gz p e below s _ _ _ (T28.setTop (mkF m 83 #[.val (.int p0), .val (.int p1), .val (.int p2), .val (.int p3), .val (.ref b1), .val (.ref b10), .val (.int (2 : Int32))] [(.int r28)]))
      rcases hS28 with rfl | ⟨rfl, hP28⟩ | ⟨rfl, hI28⟩
      · refine Gz.istore 85 #[.val (.int p0), .val (.int p1), .val (.int p2), .val (.int p3), .val (.ref b1), .val (.ref b10), .val (.int (-1 : Int32))] X28 hx (dd at_83) rfl rfl ?_
        refine Gz.aload 87 X28 hx (dd at_85) rfl rfl rfl ?_
        refine Gz.aload 89 X28 hx (dd at_87) rfl rfl rfl ?_
        refine Gz.iload 91 X28 hx (dd at_89) rfl rfl ?_
        refine Gz.iconst 92 (3 : Int32) X28 hx (dd at_91) rfl rfl ?_
        obtain ⟨_, _, ⟨T29, L29, k29, n29⟩, -, X29, ⟨Lc29, hQ29, l29, y29, z29⟩, st29⟩ := Jvm.LawKit.callS X28 hx (y := (⟨"com/example/fold3/fold3/input/Utf8CheckAcceptPinLaw", "step", "(Lcom/example/fold3/fold3/input/Utf8Check;[III)I"⟩ : MethodName)) hown (mvT hZ (ww hw 10 rfl)) (mvT hZ (ww hw 11 rfl)) (mvT hZ (ww hw 12 rfl)) (mvT hZ (ww hw 13 rfl)) (by decide) (backOf (W := 0) (rm3n l Z av0 hw [] b10 b1 (-1 : Int32) (3 : Int32)  T28.heap n0 SZ28 (by decide)) hZ (ww hw 13 rfl) (ww hw 12 rfl) (by decide) (by decide)) (g := (mkF m 92 #[.val (.int p0), .val (.int p1), .val (.int p2), .val (.int p3), .val (.ref b1), .val (.ref b10), .val (.int (-1 : Int32))] [(.int (3 : Int32)), (.int (-1 : Int32)), (.ref b1), (.ref b10)])) rfl (by rw [hml]; rfl) (argsL := [(.ref b10), (.ref b1), (.int (-1 : Int32)), (.int (3 : Int32))]) (rest := []) (lenOf pd_5 rfl) rfl (by show 2 * 0 + _ ≤ _; exact Nat.le_of_eq rfl) (dd at_92) (fun _ _ => ⟨rfl, rfl, (by decide : 2 + 0 ≤ _), (by decide : 7 + 0 ≤ _)⟩)
        dsimp only [Pt.U, Pt.locs, Pt.cells, Pt.slots, Q_rm3n] at X29 l29 y29 z29 st29 hQ29
        subst l29 y29 z29
        rw [show (fNeg b10 b1 (-1 : Int32) (3 : Int32)) = (-1 : Int32) from (by unfold fNeg; rfl)] at hQ29
        obtain ⟨rfl, N29q, e29⟩ := hQ29
        have N29 := Fr.app N28 N29q
        refine Gz.st st29 ?_
        refine Gz.istore 97 #[.val (.int p0), .val (.int p1), .val (.int p2), .val (.int p3), .val (.ref b1), .val (.ref b10), .val (.int (-1 : Int32))] X29 hx (dd at_95) rfl rfl ?_
        refine Gz.iload 99 X29 hx (dd at_97) rfl rfl ?_
        refine Gz.bipush 101 (-9 : Int32) X29 hx (dd at_99) rfl rfl ?_
        refine Gz.icmpNo 104 X29 hx (dd at_101) (feq (by decide : ¬ ((-1 : Int32) = (-9 : Int32)))).1 rfl ?_
        refine Gz.iconst 105 (1 : Int32) X29 hx (dd at_104) rfl rfl ?_
        refine Gz.goto 109 X29 hx (dd at_105) (by decide) (by decide) ?_
        refine Gz.fin X29 (v := some (.int (1 : Int32))) (fun h => by rw [hret] at h; cases h) hlk (by decide) (by decide) (fun fs hr => retN X29 hx (t := .boolean) hret (by simp) (dd at_109) hr) ?_
        exact ⟨rfl, N29⟩
      · subst hP28
        refine Gz.istore 85 #[.val (.int p0), .val (.int p1), .val (.int p2), .val (.int p3), .val (.ref b1), .val (.ref b10), .val (.int (3 : Int32))] X28 hx (dd at_83) rfl rfl ?_
        refine Gz.aload 87 X28 hx (dd at_85) rfl rfl rfl ?_
        refine Gz.aload 89 X28 hx (dd at_87) rfl rfl rfl ?_
        refine Gz.iload 91 X28 hx (dd at_89) rfl rfl ?_
        refine Gz.iconst 92 (3 : Int32) X28 hx (dd at_91) rfl rfl ?_
        obtain ⟨c30, A30, q30, S30, N30, H30, G30⟩ := id f28_Vb1
        have hin31 : ¬ ((3 : Int32) < 0 ∨ c30.slots.size ≤ ((3 : Int32)).toNatClampNeg) := inb_of S30 ⟨by decide, by decide⟩
        have hat31 : c30.slots[((3 : Int32)).toNatClampNeg]? = some (.int (p3 &&& (255 : Int32))) := Has.at H30 hin31 rfl
        have hin32 : ¬ ((3 : Int32) < 0 ∨ c30.slots.size ≤ ((3 : Int32)).toNatClampNeg) := inb_of S30 ⟨by decide, by decide⟩
        have hat32 : c30.slots[((3 : Int32)).toNatClampNeg]? = some (.int (p3 &&& (255 : Int32))) := Has.at H30 hin32 rfl
        obtain ⟨_, _, ⟨T33, L33, k33, n33⟩, -, X33, ⟨Lc33, hQ33, l33, y33, z33⟩, st33⟩ := Jvm.LawKit.callS X28 hx (y := (⟨"com/example/fold3/fold3/input/Utf8CheckAcceptPinLaw", "step", "(Lcom/example/fold3/fold3/input/Utf8Check;[III)I"⟩ : MethodName)) hown (mvT hZ (ww hw 10 rfl)) (mvT hZ (ww hw 11 rfl)) (mvT hZ (ww hw 12 rfl)) (mvT hZ (ww hw 13 rfl)) (by decide) (backOf (W := 0) (rm3 l Z av0 hw [] b10 b1 (3 : Int32) (3 : Int32) (0 : Int32) Lo28 Hi28 c30 (p3 &&& (255 : Int32)) (p3 &&& (255 : Int32)) T28.heap n0 SZ28 QE28 QP28 QL28 QH28 g_b10 A30 hin31 hat31 hin32 hat32 ne_b1_b10 (by decide)) hZ (ww hw 13 rfl) (ww hw 12 rfl) (by decide) (by decide)) (g := (mkF m 92 #[.val (.int p0), .val (.int p1), .val (.int p2), .val (.int p3), .val (.ref b1), .val (.ref b10), .val (.int (3 : Int32))] [(.int (3 : Int32)), (.int (3 : Int32)), (.ref b1), (.ref b10)])) rfl (by rw [hml]; rfl) (argsL := [(.ref b10), (.ref b1), (.int (3 : Int32)), (.int (3 : Int32))]) (rest := []) (lenOf pd_5 rfl) rfl (by show 2 * 0 + _ ≤ _; exact Nat.le_of_eq rfl) (dd at_92) (fun _ _ => ⟨rfl, rfl, (by decide : 2 + 0 ≤ _), (by decide : 7 + 0 ≤ _)⟩)
        dsimp only [Pt.U, Pt.locs, Pt.cells, Pt.slots, Q_rm3] at X33 l33 y33 z33 st33 hQ33
        subst l33 y33 z33
        have hS33 := own_step0 b10 b1 (3 : Int32) (3 : Int32) Lo28 Hi28 (p3 &&& (255 : Int32)) (4 : Int32) (own_byte _) (by decide) (by decide) (by decide)
        generalize (fStep b10 b1 (3 : Int32) (3 : Int32) (0 : Int32) Lo28 Hi28 (p3 &&& (255 : Int32)) (p3 &&& (255 : Int32))) = r33 at hQ33 hS33
        generalize (fStep_pending b10 b1 (3 : Int32) (3 : Int32) (0 : Int32) Lo28 Hi28 (p3 &&& (255 : Int32)) (p3 &&& (255 : Int32))) = P33 at hQ33 hS33
        generalize (fStep_low b10 b1 (3 : Int32) (3 : Int32) (0 : Int32) Lo28 Hi28 (p3 &&& (255 : Int32)) (p3 &&& (255 : Int32))) = Lo33 at hQ33 hS33
        generalize (fStep_high b10 b1 (3 : Int32) (3 : Int32) (0 : Int32) Lo28 Hi28 (p3 &&& (255 : Int32)) (p3 &&& (255 : Int32))) = Hi33 at hQ33 hS33
        obtain ⟨rfl, N33q, K33q, QE33, QP33, QL33, QH33⟩ := hQ33
        have N33 := Fr.app N28 N33q
        have f33_Eb1 := Exa.keep f28_Eb1 K33q
        have f33_Vb1 := Arv.keep f28_Vb1 K33q (ninS ne_b1_b10 nin0)
        have f33_E_b10 := Exa.keep QE28 K33q
        have SZ33 := Nat.le_trans SZ28 K33q.1
        refine Gz.st st33 ?_
        show Gz p e below s _ _ _ (T33.setTop (mkF m 95 #[.val (.int p0), .val (.int p1), .val (.int p2), .val (.int p3), .val (.ref b1), .val (.ref b10), .val (.int (3 : Int32))] [(.int r33)]))
        rcases hS33 with rfl | ⟨rfl, hP33⟩ | ⟨rfl, hI33⟩
        · refine Gz.istore 97 #[.val (.int p0), .val (.int p1), .val (.int p2), .val (.int p3), .val (.ref b1), .val (.ref b10), .val (.int (-1 : Int32))] X33 hx (dd at_95) rfl rfl ?_
          refine Gz.iload 99 X33 hx (dd at_97) rfl rfl ?_
          refine Gz.bipush 101 (-9 : Int32) X33 hx (dd at_99) rfl rfl ?_
          refine Gz.icmpNo 104 X33 hx (dd at_101) (feq (by decide : ¬ ((-1 : Int32) = (-9 : Int32)))).1 rfl ?_
          refine Gz.iconst 105 (1 : Int32) X33 hx (dd at_104) rfl rfl ?_
          refine Gz.goto 109 X33 hx (dd at_105) (by decide) (by decide) ?_
          refine Gz.fin X33 (v := some (.int (1 : Int32))) (fun h => by rw [hret] at h; cases h) hlk (by decide) (by decide) (fun fs hr => retN X33 hx (t := .boolean) hret (by simp) (dd at_109) hr) ?_
          exact ⟨rfl, N33⟩
        · subst hP33
          refine Gz.istore 97 #[.val (.int p0), .val (.int p1), .val (.int p2), .val (.int p3), .val (.ref b1), .val (.ref b10), .val (.int (4 : Int32))] X33 hx (dd at_95) rfl rfl ?_
          refine Gz.iload 99 X33 hx (dd at_97) rfl rfl ?_
          refine Gz.bipush 101 (-9 : Int32) X33 hx (dd at_99) rfl rfl ?_
          refine Gz.icmpNo 104 X33 hx (dd at_101) (feq (by decide : ¬ ((4 : Int32) = (-9 : Int32)))).1 rfl ?_
          refine Gz.iconst 105 (1 : Int32) X33 hx (dd at_104) rfl rfl ?_
          refine Gz.goto 109 X33 hx (dd at_105) (by decide) (by decide) ?_
          refine Gz.fin X33 (v := some (.int (1 : Int32))) (fun h => by rw [hret] at h; cases h) hlk (by decide) (by decide) (fun fs hr => retN X33 hx (t := .boolean) hret (by simp) (dd at_109) hr) ?_
          exact ⟨rfl, N33⟩
        · refine Gz.istore 97 #[.val (.int p0), .val (.int p1), .val (.int p2), .val (.int p3), .val (.ref b1), .val (.ref b10), .val (.int (3 : Int32))] X33 hx (dd at_95) rfl rfl ?_
          refine Gz.iload 99 X33 hx (dd at_97) rfl rfl ?_
          refine Gz.bipush 101 (-9 : Int32) X33 hx (dd at_99) rfl rfl ?_
          refine Gz.icmpNo 104 X33 hx (dd at_101) (feq (by decide : ¬ ((3 : Int32) = (-9 : Int32)))).1 rfl ?_
          refine Gz.iconst 105 (1 : Int32) X33 hx (dd at_104) rfl rfl ?_
          refine Gz.goto 109 X33 hx (dd at_105) (by decide) (by decide) ?_
          refine Gz.fin X33 (v := some (.int (1 : Int32))) (fun h => by rw [hret] at h; cases h) hlk (by decide) (by decide) (fun fs hr => retN X33 hx (t := .boolean) hret (by simp) (dd at_109) hr) ?_
          exact ⟨rfl, N33⟩
      · refine Gz.istore 85 #[.val (.int p0), .val (.int p1), .val (.int p2), .val (.int p3), .val (.ref b1), .val (.ref b10), .val (.int (2 : Int32))] X28 hx (dd at_83) rfl rfl ?_
        refine Gz.aload 87 X28 hx (dd at_85) rfl rfl rfl ?_
        refine Gz.aload 89 X28 hx (dd at_87) rfl rfl rfl ?_
        refine Gz.iload 91 X28 hx (dd at_89) rfl rfl ?_
        refine Gz.iconst 92 (3 : Int32) X28 hx (dd at_91) rfl rfl ?_
        obtain ⟨c34, A34, q34, S34, N34, H34, G34⟩ := id f28_Vb1
        have hin35 : ¬ ((2 : Int32) < 0 ∨ c34.slots.size ≤ ((2 : Int32)).toNatClampNeg) := inb_of S34 ⟨by decide, by decide⟩
        have hat35 : c34.slots[((2 : Int32)).toNatClampNeg]? = some (.int (p2 &&& (255 : Int32))) := Has.at H34 hin35 rfl
        have hin36 : ¬ ((3 : Int32) < 0 ∨ c34.slots.size ≤ ((3 : Int32)).toNatClampNeg) := inb_of S34 ⟨by decide, by decide⟩
        have hat36 : c34.slots[((3 : Int32)).toNatClampNeg]? = some (.int (p3 &&& (255 : Int32))) := Has.at H34 hin36 rfl
        obtain ⟨_, _, ⟨T37, L37, k37, n37⟩, -, X37, ⟨Lc37, hQ37, l37, y37, z37⟩, st37⟩ := Jvm.LawKit.callS X28 hx (y := (⟨"com/example/fold3/fold3/input/Utf8CheckAcceptPinLaw", "step", "(Lcom/example/fold3/fold3/input/Utf8Check;[III)I"⟩ : MethodName)) hown (mvT hZ (ww hw 10 rfl)) (mvT hZ (ww hw 11 rfl)) (mvT hZ (ww hw 12 rfl)) (mvT hZ (ww hw 13 rfl)) (by decide) (backOf (W := 0) (rm3 l Z av0 hw [] b10 b1 (2 : Int32) (3 : Int32) P28 Lo28 Hi28 c34 (p2 &&& (255 : Int32)) (p3 &&& (255 : Int32)) T28.heap n0 SZ28 QE28 QP28 QL28 QH28 g_b10 A34 hin35 hat35 hin36 hat36 ne_b1_b10 (by decide)) hZ (ww hw 13 rfl) (ww hw 12 rfl) (by decide) (by decide)) (g := (mkF m 92 #[.val (.int p0), .val (.int p1), .val (.int p2), .val (.int p3), .val (.ref b1), .val (.ref b10), .val (.int (2 : Int32))] [(.int (3 : Int32)), (.int (2 : Int32)), (.ref b1), (.ref b10)])) rfl (by rw [hml]; rfl) (argsL := [(.ref b10), (.ref b1), (.int (2 : Int32)), (.int (3 : Int32))]) (rest := []) (lenOf pd_5 rfl) rfl (by show 2 * 0 + _ ≤ _; exact Nat.le_of_eq rfl) (dd at_92) (fun _ _ => ⟨rfl, rfl, (by decide : 2 + 0 ≤ _), (by decide : 7 + 0 ≤ _)⟩)
        dsimp only [Pt.U, Pt.locs, Pt.cells, Pt.slots, Q_rm3] at X37 l37 y37 z37 st37 hQ37
        subst l37 y37 z37
        have hS37 := own_step1 b10 b1 (2 : Int32) (3 : Int32) P28 Lo28 Hi28 (p2 &&& (255 : Int32)) (p3 &&& (255 : Int32)) (4 : Int32) (own_byte _) (own_byte _) hI28 (by decide) (by decide) (by decide)
        generalize (fStep b10 b1 (2 : Int32) (3 : Int32) P28 Lo28 Hi28 (p2 &&& (255 : Int32)) (p3 &&& (255 : Int32))) = r37 at hQ37 hS37
        generalize (fStep_pending b10 b1 (2 : Int32) (3 : Int32) P28 Lo28 Hi28 (p2 &&& (255 : Int32)) (p3 &&& (255 : Int32))) = P37 at hQ37 hS37
        generalize (fStep_low b10 b1 (2 : Int32) (3 : Int32) P28 Lo28 Hi28 (p2 &&& (255 : Int32)) (p3 &&& (255 : Int32))) = Lo37 at hQ37 hS37
        generalize (fStep_high b10 b1 (2 : Int32) (3 : Int32) P28 Lo28 Hi28 (p2 &&& (255 : Int32)) (p3 &&& (255 : Int32))) = Hi37 at hQ37 hS37
        obtain ⟨rfl, N37q, K37q, QE37, QP37, QL37, QH37⟩ := hQ37
        have N37 := Fr.app N28 N37q
        have f37_Eb1 := Exa.keep f28_Eb1 K37q
        have f37_Vb1 := Arv.keep f28_Vb1 K37q (ninS ne_b1_b10 nin0)
        have f37_E_b10 := Exa.keep QE28 K37q
        have SZ37 := Nat.le_trans SZ28 K37q.1
        refine Gz.st st37 ?_
        show Gz p e below s _ _ _ (T37.setTop (mkF m 95 #[.val (.int p0), .val (.int p1), .val (.int p2), .val (.int p3), .val (.ref b1), .val (.ref b10), .val (.int (2 : Int32))] [(.int r37)]))
        rcases hS37 with rfl | ⟨rfl, hP37⟩ | ⟨rfl, hI37⟩
        · refine Gz.istore 97 #[.val (.int p0), .val (.int p1), .val (.int p2), .val (.int p3), .val (.ref b1), .val (.ref b10), .val (.int (-1 : Int32))] X37 hx (dd at_95) rfl rfl ?_
          refine Gz.iload 99 X37 hx (dd at_97) rfl rfl ?_
          refine Gz.bipush 101 (-9 : Int32) X37 hx (dd at_99) rfl rfl ?_
          refine Gz.icmpNo 104 X37 hx (dd at_101) (feq (by decide : ¬ ((-1 : Int32) = (-9 : Int32)))).1 rfl ?_
          refine Gz.iconst 105 (1 : Int32) X37 hx (dd at_104) rfl rfl ?_
          refine Gz.goto 109 X37 hx (dd at_105) (by decide) (by decide) ?_
          refine Gz.fin X37 (v := some (.int (1 : Int32))) (fun h => by rw [hret] at h; cases h) hlk (by decide) (by decide) (fun fs hr => retN X37 hx (t := .boolean) hret (by simp) (dd at_109) hr) ?_
          exact ⟨rfl, N37⟩
        · subst hP37
          refine Gz.istore 97 #[.val (.int p0), .val (.int p1), .val (.int p2), .val (.int p3), .val (.ref b1), .val (.ref b10), .val (.int (4 : Int32))] X37 hx (dd at_95) rfl rfl ?_
          refine Gz.iload 99 X37 hx (dd at_97) rfl rfl ?_
          refine Gz.bipush 101 (-9 : Int32) X37 hx (dd at_99) rfl rfl ?_
          refine Gz.icmpNo 104 X37 hx (dd at_101) (feq (by decide : ¬ ((4 : Int32) = (-9 : Int32)))).1 rfl ?_
          refine Gz.iconst 105 (1 : Int32) X37 hx (dd at_104) rfl rfl ?_
          refine Gz.goto 109 X37 hx (dd at_105) (by decide) (by decide) ?_
          refine Gz.fin X37 (v := some (.int (1 : Int32))) (fun h => by rw [hret] at h; cases h) hlk (by decide) (by decide) (fun fs hr => retN X37 hx (t := .boolean) hret (by simp) (dd at_109) hr) ?_
          exact ⟨rfl, N37⟩
        · refine Gz.istore 97 #[.val (.int p0), .val (.int p1), .val (.int p2), .val (.int p3), .val (.ref b1), .val (.ref b10), .val (.int (2 : Int32))] X37 hx (dd at_95) rfl rfl ?_
          refine Gz.iload 99 X37 hx (dd at_97) rfl rfl ?_
          refine Gz.bipush 101 (-9 : Int32) X37 hx (dd at_99) rfl rfl ?_
          refine Gz.icmpNo 104 X37 hx (dd at_101) (feq (by decide : ¬ ((2 : Int32) = (-9 : Int32)))).1 rfl ?_
          refine Gz.iconst 105 (1 : Int32) X37 hx (dd at_104) rfl rfl ?_
          refine Gz.goto 109 X37 hx (dd at_105) (by decide) (by decide) ?_
          refine Gz.fin X37 (v := some (.int (1 : Int32))) (fun h => by rw [hret] at h; cases h) hlk (by decide) (by decide) (fun fs hr => retN X37 hx (t := .boolean) hret (by simp) (dd at_109) hr) ?_
          exact ⟨rfl, N37⟩
    · refine Gz.istore 73 #[.val (.int p0), .val (.int p1), .val (.int p2), .val (.int p3), .val (.ref b1), .val (.ref b10), .val (.int (1 : Int32))] X22 hx (dd at_71) rfl rfl ?_
      refine Gz.aload 75 X22 hx (dd at_73) rfl rfl rfl ?_
      refine Gz.aload 77 X22 hx (dd at_75) rfl rfl rfl ?_
      refine Gz.iload 79 X22 hx (dd at_77) rfl rfl ?_
      refine Gz.iconst 80 (2 : Int32) X22 hx (dd at_79) rfl rfl ?_
      obtain ⟨c38, A38, q38, S38, N38, H38, G38⟩ := id f22_Vb1
      have hin39 : ¬ ((1 : Int32) < 0 ∨ c38.slots.size ≤ ((1 : Int32)).toNatClampNeg) := inb_of S38 ⟨by decide, by decide⟩
      have hat39 : c38.slots[((1 : Int32)).toNatClampNeg]? = some (.int (p1 &&& (255 : Int32))) := Has.at H38 hin39 rfl
      have hin40 : ¬ ((2 : Int32) < 0 ∨ c38.slots.size ≤ ((2 : Int32)).toNatClampNeg) := inb_of S38 ⟨by decide, by decide⟩
      have hat40 : c38.slots[((2 : Int32)).toNatClampNeg]? = some (.int (p2 &&& (255 : Int32))) := Has.at H38 hin40 rfl
      obtain ⟨_, _, ⟨T41, L41, k41, n41⟩, -, X41, ⟨Lc41, hQ41, l41, y41, z41⟩, st41⟩ := Jvm.LawKit.callS X22 hx (y := (⟨"com/example/fold3/fold3/input/Utf8CheckAcceptPinLaw", "step", "(Lcom/example/fold3/fold3/input/Utf8Check;[III)I"⟩ : MethodName)) hown (mvT hZ (ww hw 10 rfl)) (mvT hZ (ww hw 11 rfl)) (mvT hZ (ww hw 12 rfl)) (mvT hZ (ww hw 13 rfl)) (by decide) (backOf (W := 0) (rm3 l Z av0 hw [] b10 b1 (1 : Int32) (2 : Int32) P22 Lo22 Hi22 c38 (p1 &&& (255 : Int32)) (p2 &&& (255 : Int32)) T22.heap n0 SZ22 QE22 QP22 QL22 QH22 g_b10 A38 hin39 hat39 hin40 hat40 ne_b1_b10 (by decide)) hZ (ww hw 13 rfl) (ww hw 12 rfl) (by decide) (by decide)) (g := (mkF m 80 #[.val (.int p0), .val (.int p1), .val (.int p2), .val (.int p3), .val (.ref b1), .val (.ref b10), .val (.int (1 : Int32))] [(.int (2 : Int32)), (.int (1 : Int32)), (.ref b1), (.ref b10)])) rfl (by rw [hml]; rfl) (argsL := [(.ref b10), (.ref b1), (.int (1 : Int32)), (.int (2 : Int32))]) (rest := []) (lenOf pd_5 rfl) rfl (by show 2 * 0 + _ ≤ _; exact Nat.le_of_eq rfl) (dd at_80) (fun _ _ => ⟨rfl, rfl, (by decide : 2 + 0 ≤ _), (by decide : 7 + 0 ≤ _)⟩)
      dsimp only [Pt.U, Pt.locs, Pt.cells, Pt.slots, Q_rm3] at X41 l41 y41 z41 st41 hQ41
      subst l41 y41 z41
      have hS41 := own_step1 b10 b1 (1 : Int32) (2 : Int32) P22 Lo22 Hi22 (p1 &&& (255 : Int32)) (p2 &&& (255 : Int32)) (3 : Int32) (own_byte _) (own_byte _) hI22 (by decide) (by decide) (by decide)
      generalize (fStep b10 b1 (1 : Int32) (2 : Int32) P22 Lo22 Hi22 (p1 &&& (255 : Int32)) (p2 &&& (255 : Int32))) = r41 at hQ41 hS41
      generalize (fStep_pending b10 b1 (1 : Int32) (2 : Int32) P22 Lo22 Hi22 (p1 &&& (255 : Int32)) (p2 &&& (255 : Int32))) = P41 at hQ41 hS41
      generalize (fStep_low b10 b1 (1 : Int32) (2 : Int32) P22 Lo22 Hi22 (p1 &&& (255 : Int32)) (p2 &&& (255 : Int32))) = Lo41 at hQ41 hS41
      generalize (fStep_high b10 b1 (1 : Int32) (2 : Int32) P22 Lo22 Hi22 (p1 &&& (255 : Int32)) (p2 &&& (255 : Int32))) = Hi41 at hQ41 hS41
      obtain ⟨rfl, N41q, K41q, QE41, QP41, QL41, QH41⟩ := hQ41
      have N41 := Fr.app N22 N41q
      have f41_Eb1 := Exa.keep f22_Eb1 K41q
      have f41_Vb1 := Arv.keep f22_Vb1 K41q (ninS ne_b1_b10 nin0)
      have f41_E_b10 := Exa.keep QE22 K41q
      have SZ41 := Nat.le_trans SZ22 K41q.1
      refine Gz.st st41 ?_
      show Gz p e below s _ _ _ (T41.setTop (mkF m 83 #[.val (.int p0), .val (.int p1), .val (.int p2), .val (.int p3), .val (.ref b1), .val (.ref b10), .val (.int (1 : Int32))] [(.int r41)]))
      rcases hS41 with rfl | ⟨rfl, hP41⟩ | ⟨rfl, hI41⟩
      · refine Gz.istore 85 #[.val (.int p0), .val (.int p1), .val (.int p2), .val (.int p3), .val (.ref b1), .val (.ref b10), .val (.int (-1 : Int32))] X41 hx (dd at_83) rfl rfl ?_
        refine Gz.aload 87 X41 hx (dd at_85) rfl rfl rfl ?_
        refine Gz.aload 89 X41 hx (dd at_87) rfl rfl rfl ?_
        refine Gz.iload 91 X41 hx (dd at_89) rfl rfl ?_
        refine Gz.iconst 92 (3 : Int32) X41 hx (dd at_91) rfl rfl ?_
        obtain ⟨_, _, ⟨T42, L42, k42, n42⟩, -, X42, ⟨Lc42, hQ42, l42, y42, z42⟩, st42⟩ := Jvm.LawKit.callS X41 hx (y := (⟨"com/example/fold3/fold3/input/Utf8CheckAcceptPinLaw", "step", "(Lcom/example/fold3/fold3/input/Utf8Check;[III)I"⟩ : MethodName)) hown (mvT hZ (ww hw 10 rfl)) (mvT hZ (ww hw 11 rfl)) (mvT hZ (ww hw 12 rfl)) (mvT hZ (ww hw 13 rfl)) (by decide) (backOf (W := 0) (rm3n l Z av0 hw [] b10 b1 (-1 : Int32) (3 : Int32)  T41.heap n0 SZ41 (by decide)) hZ (ww hw 13 rfl) (ww hw 12 rfl) (by decide) (by decide)) (g := (mkF m 92 #[.val (.int p0), .val (.int p1), .val (.int p2), .val (.int p3), .val (.ref b1), .val (.ref b10), .val (.int (-1 : Int32))] [(.int (3 : Int32)), (.int (-1 : Int32)), (.ref b1), (.ref b10)])) rfl (by rw [hml]; rfl) (argsL := [(.ref b10), (.ref b1), (.int (-1 : Int32)), (.int (3 : Int32))]) (rest := []) (lenOf pd_5 rfl) rfl (by show 2 * 0 + _ ≤ _; exact Nat.le_of_eq rfl) (dd at_92) (fun _ _ => ⟨rfl, rfl, (by decide : 2 + 0 ≤ _), (by decide : 7 + 0 ≤ _)⟩)
        dsimp only [Pt.U, Pt.locs, Pt.cells, Pt.slots, Q_rm3n] at X42 l42 y42 z42 st42 hQ42
        subst l42 y42 z42
        rw [show (fNeg b10 b1 (-1 : Int32) (3 : Int32)) = (-1 : Int32) from (by unfold fNeg; rfl)] at hQ42
        obtain ⟨rfl, N42q, e42⟩ := hQ42
        have N42 := Fr.app N41 N42q
        refine Gz.st st42 ?_
        refine Gz.istore 97 #[.val (.int p0), .val (.int p1), .val (.int p2), .val (.int p3), .val (.ref b1), .val (.ref b10), .val (.int (-1 : Int32))] X42 hx (dd at_95) rfl rfl ?_
        refine Gz.iload 99 X42 hx (dd at_97) rfl rfl ?_
        refine Gz.bipush 101 (-9 : Int32) X42 hx (dd at_99) rfl rfl ?_
        refine Gz.icmpNo 104 X42 hx (dd at_101) (feq (by decide : ¬ ((-1 : Int32) = (-9 : Int32)))).1 rfl ?_
        refine Gz.iconst 105 (1 : Int32) X42 hx (dd at_104) rfl rfl ?_
        refine Gz.goto 109 X42 hx (dd at_105) (by decide) (by decide) ?_
        refine Gz.fin X42 (v := some (.int (1 : Int32))) (fun h => by rw [hret] at h; cases h) hlk (by decide) (by decide) (fun fs hr => retN X42 hx (t := .boolean) hret (by simp) (dd at_109) hr) ?_
        exact ⟨rfl, N42⟩
      · subst hP41
        refine Gz.istore 85 #[.val (.int p0), .val (.int p1), .val (.int p2), .val (.int p3), .val (.ref b1), .val (.ref b10), .val (.int (3 : Int32))] X41 hx (dd at_83) rfl rfl ?_
        refine Gz.aload 87 X41 hx (dd at_85) rfl rfl rfl ?_
        refine Gz.aload 89 X41 hx (dd at_87) rfl rfl rfl ?_
        refine Gz.iload 91 X41 hx (dd at_89) rfl rfl ?_
        refine Gz.iconst 92 (3 : Int32) X41 hx (dd at_91) rfl rfl ?_
        obtain ⟨c43, A43, q43, S43, N43, H43, G43⟩ := id f41_Vb1
        have hin44 : ¬ ((3 : Int32) < 0 ∨ c43.slots.size ≤ ((3 : Int32)).toNatClampNeg) := inb_of S43 ⟨by decide, by decide⟩
        have hat44 : c43.slots[((3 : Int32)).toNatClampNeg]? = some (.int (p3 &&& (255 : Int32))) := Has.at H43 hin44 rfl
        have hin45 : ¬ ((3 : Int32) < 0 ∨ c43.slots.size ≤ ((3 : Int32)).toNatClampNeg) := inb_of S43 ⟨by decide, by decide⟩
        have hat45 : c43.slots[((3 : Int32)).toNatClampNeg]? = some (.int (p3 &&& (255 : Int32))) := Has.at H43 hin45 rfl
        obtain ⟨_, _, ⟨T46, L46, k46, n46⟩, -, X46, ⟨Lc46, hQ46, l46, y46, z46⟩, st46⟩ := Jvm.LawKit.callS X41 hx (y := (⟨"com/example/fold3/fold3/input/Utf8CheckAcceptPinLaw", "step", "(Lcom/example/fold3/fold3/input/Utf8Check;[III)I"⟩ : MethodName)) hown (mvT hZ (ww hw 10 rfl)) (mvT hZ (ww hw 11 rfl)) (mvT hZ (ww hw 12 rfl)) (mvT hZ (ww hw 13 rfl)) (by decide) (backOf (W := 0) (rm3 l Z av0 hw [] b10 b1 (3 : Int32) (3 : Int32) (0 : Int32) Lo41 Hi41 c43 (p3 &&& (255 : Int32)) (p3 &&& (255 : Int32)) T41.heap n0 SZ41 QE41 QP41 QL41 QH41 g_b10 A43 hin44 hat44 hin45 hat45 ne_b1_b10 (by decide)) hZ (ww hw 13 rfl) (ww hw 12 rfl) (by decide) (by decide)) (g := (mkF m 92 #[.val (.int p0), .val (.int p1), .val (.int p2), .val (.int p3), .val (.ref b1), .val (.ref b10), .val (.int (3 : Int32))] [(.int (3 : Int32)), (.int (3 : Int32)), (.ref b1), (.ref b10)])) rfl (by rw [hml]; rfl) (argsL := [(.ref b10), (.ref b1), (.int (3 : Int32)), (.int (3 : Int32))]) (rest := []) (lenOf pd_5 rfl) rfl (by show 2 * 0 + _ ≤ _; exact Nat.le_of_eq rfl) (dd at_92) (fun _ _ => ⟨rfl, rfl, (by decide : 2 + 0 ≤ _), (by decide : 7 + 0 ≤ _)⟩)
        dsimp only [Pt.U, Pt.locs, Pt.cells, Pt.slots, Q_rm3] at X46 l46 y46 z46 st46 hQ46
        subst l46 y46 z46
        have hS46 := own_step0 b10 b1 (3 : Int32) (3 : Int32) Lo41 Hi41 (p3 &&& (255 : Int32)) (4 : Int32) (own_byte _) (by decide) (by decide) (by decide)
        generalize (fStep b10 b1 (3 : Int32) (3 : Int32) (0 : Int32) Lo41 Hi41 (p3 &&& (255 : Int32)) (p3 &&& (255 : Int32))) = r46 at hQ46 hS46
        generalize (fStep_pending b10 b1 (3 : Int32) (3 : Int32) (0 : Int32) Lo41 Hi41 (p3 &&& (255 : Int32)) (p3 &&& (255 : Int32))) = P46 at hQ46 hS46
        generalize (fStep_low b10 b1 (3 : Int32) (3 : Int32) (0 : Int32) Lo41 Hi41 (p3 &&& (255 : Int32)) (p3 &&& (255 : Int32))) = Lo46 at hQ46 hS46
        generalize (fStep_high b10 b1 (3 : Int32) (3 : Int32) (0 : Int32) Lo41 Hi41 (p3 &&& (255 : Int32)) (p3 &&& (255 : Int32))) = Hi46 at hQ46 hS46
        obtain ⟨rfl, N46q, K46q, QE46, QP46, QL46, QH46⟩ := hQ46
        have N46 := Fr.app N41 N46q
        have f46_Eb1 := Exa.keep f41_Eb1 K46q
        have f46_Vb1 := Arv.keep f41_Vb1 K46q (ninS ne_b1_b10 nin0)
        have f46_E_b10 := Exa.keep QE41 K46q
        have SZ46 := Nat.le_trans SZ41 K46q.1
        refine Gz.st st46 ?_
        show Gz p e below s _ _ _ (T46.setTop (mkF m 95 #[.val (.int p0), .val (.int p1), .val (.int p2), .val (.int p3), .val (.ref b1), .val (.ref b10), .val (.int (3 : Int32))] [(.int r46)]))
        rcases hS46 with rfl | ⟨rfl, hP46⟩ | ⟨rfl, hI46⟩
        · refine Gz.istore 97 #[.val (.int p0), .val (.int p1), .val (.int p2), .val (.int p3), .val (.ref b1), .val (.ref b10), .val (.int (-1 : Int32))] X46 hx (dd at_95) rfl rfl ?_
          refine Gz.iload 99 X46 hx (dd at_97) rfl rfl ?_
          refine Gz.bipush 101 (-9 : Int32) X46 hx (dd at_99) rfl rfl ?_
          refine Gz.icmpNo 104 X46 hx (dd at_101) (feq (by decide : ¬ ((-1 : Int32) = (-9 : Int32)))).1 rfl ?_
          refine Gz.iconst 105 (1 : Int32) X46 hx (dd at_104) rfl rfl ?_
          refine Gz.goto 109 X46 hx (dd at_105) (by decide) (by decide) ?_
          refine Gz.fin X46 (v := some (.int (1 : Int32))) (fun h => by rw [hret] at h; cases h) hlk (by decide) (by decide) (fun fs hr => retN X46 hx (t := .boolean) hret (by simp) (dd at_109) hr) ?_
          exact ⟨rfl, N46⟩
        · subst hP46
          refine Gz.istore 97 #[.val (.int p0), .val (.int p1), .val (.int p2), .val (.int p3), .val (.ref b1), .val (.ref b10), .val (.int (4 : Int32))] X46 hx (dd at_95) rfl rfl ?_
          refine Gz.iload 99 X46 hx (dd at_97) rfl rfl ?_
          refine Gz.bipush 101 (-9 : Int32) X46 hx (dd at_99) rfl rfl ?_
          refine Gz.icmpNo 104 X46 hx (dd at_101) (feq (by decide : ¬ ((4 : Int32) = (-9 : Int32)))).1 rfl ?_
          refine Gz.iconst 105 (1 : Int32) X46 hx (dd at_104) rfl rfl ?_
          refine Gz.goto 109 X46 hx (dd at_105) (by decide) (by decide) ?_
          refine Gz.fin X46 (v := some (.int (1 : Int32))) (fun h => by rw [hret] at h; cases h) hlk (by decide) (by decide) (fun fs hr => retN X46 hx (t := .boolean) hret (by simp) (dd at_109) hr) ?_
          exact ⟨rfl, N46⟩
        · refine Gz.istore 97 #[.val (.int p0), .val (.int p1), .val (.int p2), .val (.int p3), .val (.ref b1), .val (.ref b10), .val (.int (3 : Int32))] X46 hx (dd at_95) rfl rfl ?_
          refine Gz.iload 99 X46 hx (dd at_97) rfl rfl ?_
          refine Gz.bipush 101 (-9 : Int32) X46 hx (dd at_99) rfl rfl ?_
          refine Gz.icmpNo 104 X46 hx (dd at_101) (feq (by decide : ¬ ((3 : Int32) = (-9 : Int32)))).1 rfl ?_
          refine Gz.iconst 105 (1 : Int32) X46 hx (dd at_104) rfl rfl ?_
          refine Gz.goto 109 X46 hx (dd at_105) (by decide) (by decide) ?_
          refine Gz.fin X46 (v := some (.int (1 : Int32))) (fun h => by rw [hret] at h; cases h) hlk (by decide) (by decide) (fun fs hr => retN X46 hx (t := .boolean) hret (by simp) (dd at_109) hr) ?_
          exact ⟨rfl, N46⟩
      · refine Gz.istore 85 #[.val (.int p0), .val (.int p1), .val (.int p2), .val (.int p3), .val (.ref b1), .val (.ref b10), .val (.int (1 : Int32))] X41 hx (dd at_83) rfl rfl ?_
        refine Gz.aload 87 X41 hx (dd at_85) rfl rfl rfl ?_
        refine Gz.aload 89 X41 hx (dd at_87) rfl rfl rfl ?_
        refine Gz.iload 91 X41 hx (dd at_89) rfl rfl ?_
        refine Gz.iconst 92 (3 : Int32) X41 hx (dd at_91) rfl rfl ?_
        obtain ⟨c47, A47, q47, S47, N47, H47, G47⟩ := id f41_Vb1
        have hin48 : ¬ ((1 : Int32) < 0 ∨ c47.slots.size ≤ ((1 : Int32)).toNatClampNeg) := inb_of S47 ⟨by decide, by decide⟩
        have hat48 : c47.slots[((1 : Int32)).toNatClampNeg]? = some (.int (p1 &&& (255 : Int32))) := Has.at H47 hin48 rfl
        have hin49 : ¬ ((3 : Int32) < 0 ∨ c47.slots.size ≤ ((3 : Int32)).toNatClampNeg) := inb_of S47 ⟨by decide, by decide⟩
        have hat49 : c47.slots[((3 : Int32)).toNatClampNeg]? = some (.int (p3 &&& (255 : Int32))) := Has.at H47 hin49 rfl
        obtain ⟨_, _, ⟨T50, L50, k50, n50⟩, -, X50, ⟨Lc50, hQ50, l50, y50, z50⟩, st50⟩ := Jvm.LawKit.callS X41 hx (y := (⟨"com/example/fold3/fold3/input/Utf8CheckAcceptPinLaw", "step", "(Lcom/example/fold3/fold3/input/Utf8Check;[III)I"⟩ : MethodName)) hown (mvT hZ (ww hw 10 rfl)) (mvT hZ (ww hw 11 rfl)) (mvT hZ (ww hw 12 rfl)) (mvT hZ (ww hw 13 rfl)) (by decide) (backOf (W := 0) (rm3 l Z av0 hw [] b10 b1 (1 : Int32) (3 : Int32) P41 Lo41 Hi41 c47 (p1 &&& (255 : Int32)) (p3 &&& (255 : Int32)) T41.heap n0 SZ41 QE41 QP41 QL41 QH41 g_b10 A47 hin48 hat48 hin49 hat49 ne_b1_b10 (by decide)) hZ (ww hw 13 rfl) (ww hw 12 rfl) (by decide) (by decide)) (g := (mkF m 92 #[.val (.int p0), .val (.int p1), .val (.int p2), .val (.int p3), .val (.ref b1), .val (.ref b10), .val (.int (1 : Int32))] [(.int (3 : Int32)), (.int (1 : Int32)), (.ref b1), (.ref b10)])) rfl (by rw [hml]; rfl) (argsL := [(.ref b10), (.ref b1), (.int (1 : Int32)), (.int (3 : Int32))]) (rest := []) (lenOf pd_5 rfl) rfl (by show 2 * 0 + _ ≤ _; exact Nat.le_of_eq rfl) (dd at_92) (fun _ _ => ⟨rfl, rfl, (by decide : 2 + 0 ≤ _), (by decide : 7 + 0 ≤ _)⟩)
        dsimp only [Pt.U, Pt.locs, Pt.cells, Pt.slots, Q_rm3] at X50 l50 y50 z50 st50 hQ50
        subst l50 y50 z50
        have hS50 := own_step2 b10 b1 (1 : Int32) (3 : Int32) P41 Lo41 Hi41 (p1 &&& (255 : Int32)) (p3 &&& (255 : Int32)) (4 : Int32) hI41 (by decide) (by decide) (by decide)
        generalize (fStep b10 b1 (1 : Int32) (3 : Int32) P41 Lo41 Hi41 (p1 &&& (255 : Int32)) (p3 &&& (255 : Int32))) = r50 at hQ50 hS50
        generalize (fStep_pending b10 b1 (1 : Int32) (3 : Int32) P41 Lo41 Hi41 (p1 &&& (255 : Int32)) (p3 &&& (255 : Int32))) = P50 at hQ50 hS50
        generalize (fStep_low b10 b1 (1 : Int32) (3 : Int32) P41 Lo41 Hi41 (p1 &&& (255 : Int32)) (p3 &&& (255 : Int32))) = Lo50 at hQ50 hS50
        generalize (fStep_high b10 b1 (1 : Int32) (3 : Int32) P41 Lo41 Hi41 (p1 &&& (255 : Int32)) (p3 &&& (255 : Int32))) = Hi50 at hQ50 hS50
        obtain ⟨rfl, N50q, K50q, QE50, QP50, QL50, QH50⟩ := hQ50
        have N50 := Fr.app N41 N50q
        have f50_Eb1 := Exa.keep f41_Eb1 K50q
        have f50_Vb1 := Arv.keep f41_Vb1 K50q (ninS ne_b1_b10 nin0)
        have f50_E_b10 := Exa.keep QE41 K50q
        have SZ50 := Nat.le_trans SZ41 K50q.1
        refine Gz.st st50 ?_
        show Gz p e below s _ _ _ (T50.setTop (mkF m 95 #[.val (.int p0), .val (.int p1), .val (.int p2), .val (.int p3), .val (.ref b1), .val (.ref b10), .val (.int (1 : Int32))] [(.int r50)]))
        rcases hS50 with rfl | ⟨rfl, hP50⟩ | ⟨rfl, hI50⟩
        · refine Gz.istore 97 #[.val (.int p0), .val (.int p1), .val (.int p2), .val (.int p3), .val (.ref b1), .val (.ref b10), .val (.int (-1 : Int32))] X50 hx (dd at_95) rfl rfl ?_
          refine Gz.iload 99 X50 hx (dd at_97) rfl rfl ?_
          refine Gz.bipush 101 (-9 : Int32) X50 hx (dd at_99) rfl rfl ?_
          refine Gz.icmpNo 104 X50 hx (dd at_101) (feq (by decide : ¬ ((-1 : Int32) = (-9 : Int32)))).1 rfl ?_
          refine Gz.iconst 105 (1 : Int32) X50 hx (dd at_104) rfl rfl ?_
          refine Gz.goto 109 X50 hx (dd at_105) (by decide) (by decide) ?_
          refine Gz.fin X50 (v := some (.int (1 : Int32))) (fun h => by rw [hret] at h; cases h) hlk (by decide) (by decide) (fun fs hr => retN X50 hx (t := .boolean) hret (by simp) (dd at_109) hr) ?_
          exact ⟨rfl, N50⟩
        · subst hP50
          refine Gz.istore 97 #[.val (.int p0), .val (.int p1), .val (.int p2), .val (.int p3), .val (.ref b1), .val (.ref b10), .val (.int (4 : Int32))] X50 hx (dd at_95) rfl rfl ?_
          refine Gz.iload 99 X50 hx (dd at_97) rfl rfl ?_
          refine Gz.bipush 101 (-9 : Int32) X50 hx (dd at_99) rfl rfl ?_
          refine Gz.icmpNo 104 X50 hx (dd at_101) (feq (by decide : ¬ ((4 : Int32) = (-9 : Int32)))).1 rfl ?_
          refine Gz.iconst 105 (1 : Int32) X50 hx (dd at_104) rfl rfl ?_
          refine Gz.goto 109 X50 hx (dd at_105) (by decide) (by decide) ?_
          refine Gz.fin X50 (v := some (.int (1 : Int32))) (fun h => by rw [hret] at h; cases h) hlk (by decide) (by decide) (fun fs hr => retN X50 hx (t := .boolean) hret (by simp) (dd at_109) hr) ?_
          exact ⟨rfl, N50⟩
        · refine Gz.istore 97 #[.val (.int p0), .val (.int p1), .val (.int p2), .val (.int p3), .val (.ref b1), .val (.ref b10), .val (.int (1 : Int32))] X50 hx (dd at_95) rfl rfl ?_
          refine Gz.iload 99 X50 hx (dd at_97) rfl rfl ?_
          refine Gz.bipush 101 (-9 : Int32) X50 hx (dd at_99) rfl rfl ?_
          refine Gz.icmpNo 104 X50 hx (dd at_101) (feq (by decide : ¬ ((1 : Int32) = (-9 : Int32)))).1 rfl ?_
          refine Gz.iconst 105 (1 : Int32) X50 hx (dd at_104) rfl rfl ?_
          refine Gz.goto 109 X50 hx (dd at_105) (by decide) (by decide) ?_
          refine Gz.fin X50 (v := some (.int (1 : Int32))) (fun h => by rw [hret] at h; cases h) hlk (by decide) (by decide) (fun fs hr => retN X50 hx (t := .boolean) hret (by simp) (dd at_109) hr) ?_
          exact ⟨rfl, N50⟩
  · refine Gz.istore 61 #[.val (.int p0), .val (.int p1), .val (.int p2), .val (.int p3), .val (.ref b1), .val (.ref b10), .val (.int (0 : Int32))] X15 hx (dd at_59) rfl rfl ?_
    refine Gz.aload 63 X15 hx (dd at_61) rfl rfl rfl ?_
    refine Gz.aload 65 X15 hx (dd at_63) rfl rfl rfl ?_
    refine Gz.iload 67 X15 hx (dd at_65) rfl rfl ?_
    refine Gz.iconst 68 (1 : Int32) X15 hx (dd at_67) rfl rfl ?_
    obtain ⟨c51, A51, q51, S51, N51, H51, G51⟩ := id f15_Vb1
    have hin52 : ¬ ((0 : Int32) < 0 ∨ c51.slots.size ≤ ((0 : Int32)).toNatClampNeg) := inb_of S51 ⟨by decide, by decide⟩
    have hat52 : c51.slots[((0 : Int32)).toNatClampNeg]? = some (.int (p0 &&& (255 : Int32))) := Has.at H51 hin52 rfl
    have hin53 : ¬ ((1 : Int32) < 0 ∨ c51.slots.size ≤ ((1 : Int32)).toNatClampNeg) := inb_of S51 ⟨by decide, by decide⟩
    have hat53 : c51.slots[((1 : Int32)).toNatClampNeg]? = some (.int (p1 &&& (255 : Int32))) := Has.at H51 hin53 rfl
    obtain ⟨_, _, ⟨T54, L54, k54, n54⟩, -, X54, ⟨Lc54, hQ54, l54, y54, z54⟩, st54⟩ := Jvm.LawKit.callS X15 hx (y := (⟨"com/example/fold3/fold3/input/Utf8CheckAcceptPinLaw", "step", "(Lcom/example/fold3/fold3/input/Utf8Check;[III)I"⟩ : MethodName)) hown (mvT hZ (ww hw 10 rfl)) (mvT hZ (ww hw 11 rfl)) (mvT hZ (ww hw 12 rfl)) (mvT hZ (ww hw 13 rfl)) (by decide) (backOf (W := 0) (rm3 l Z av0 hw [] b10 b1 (0 : Int32) (1 : Int32) P15 Lo15 Hi15 c51 (p0 &&& (255 : Int32)) (p1 &&& (255 : Int32)) T15.heap n0 SZ15 QE15 QP15 QL15 QH15 g_b10 A51 hin52 hat52 hin53 hat53 ne_b1_b10 (by decide)) hZ (ww hw 13 rfl) (ww hw 12 rfl) (by decide) (by decide)) (g := (mkF m 68 #[.val (.int p0), .val (.int p1), .val (.int p2), .val (.int p3), .val (.ref b1), .val (.ref b10), .val (.int (0 : Int32))] [(.int (1 : Int32)), (.int (0 : Int32)), (.ref b1), (.ref b10)])) rfl (by rw [hml]; rfl) (argsL := [(.ref b10), (.ref b1), (.int (0 : Int32)), (.int (1 : Int32))]) (rest := []) (lenOf pd_5 rfl) rfl (by show 2 * 0 + _ ≤ _; exact Nat.le_of_eq rfl) (dd at_68) (fun _ _ => ⟨rfl, rfl, (by decide : 2 + 0 ≤ _), (by decide : 7 + 0 ≤ _)⟩)
    dsimp only [Pt.U, Pt.locs, Pt.cells, Pt.slots, Q_rm3] at X54 l54 y54 z54 st54 hQ54
    subst l54 y54 z54
    have hS54 := own_step1 b10 b1 (0 : Int32) (1 : Int32) P15 Lo15 Hi15 (p0 &&& (255 : Int32)) (p1 &&& (255 : Int32)) (2 : Int32) (own_byte _) (own_byte _) hI15 (by decide) (by decide) (by decide)
    generalize (fStep b10 b1 (0 : Int32) (1 : Int32) P15 Lo15 Hi15 (p0 &&& (255 : Int32)) (p1 &&& (255 : Int32))) = r54 at hQ54 hS54
    generalize (fStep_pending b10 b1 (0 : Int32) (1 : Int32) P15 Lo15 Hi15 (p0 &&& (255 : Int32)) (p1 &&& (255 : Int32))) = P54 at hQ54 hS54
    generalize (fStep_low b10 b1 (0 : Int32) (1 : Int32) P15 Lo15 Hi15 (p0 &&& (255 : Int32)) (p1 &&& (255 : Int32))) = Lo54 at hQ54 hS54
    generalize (fStep_high b10 b1 (0 : Int32) (1 : Int32) P15 Lo15 Hi15 (p0 &&& (255 : Int32)) (p1 &&& (255 : Int32))) = Hi54 at hQ54 hS54
    obtain ⟨rfl, N54q, K54q, QE54, QP54, QL54, QH54⟩ := hQ54
    have N54 := Fr.app N15 N54q
    have f54_Eb1 := Exa.keep f15_Eb1 K54q
    have f54_Vb1 := Arv.keep f15_Vb1 K54q (ninS ne_b1_b10 nin0)
    have f54_E_b10 := Exa.keep QE15 K54q
    have SZ54 := Nat.le_trans SZ15 K54q.1
    refine Gz.st st54 ?_
    show Gz p e below s _ _ _ (T54.setTop (mkF m 71 #[.val (.int p0), .val (.int p1), .val (.int p2), .val (.int p3), .val (.ref b1), .val (.ref b10), .val (.int (0 : Int32))] [(.int r54)]))
    rcases hS54 with rfl | ⟨rfl, hP54⟩ | ⟨rfl, hI54⟩
    · refine Gz.istore 73 #[.val (.int p0), .val (.int p1), .val (.int p2), .val (.int p3), .val (.ref b1), .val (.ref b10), .val (.int (-1 : Int32))] X54 hx (dd at_71) rfl rfl ?_
      refine Gz.aload 75 X54 hx (dd at_73) rfl rfl rfl ?_
      refine Gz.aload 77 X54 hx (dd at_75) rfl rfl rfl ?_
      refine Gz.iload 79 X54 hx (dd at_77) rfl rfl ?_
      refine Gz.iconst 80 (2 : Int32) X54 hx (dd at_79) rfl rfl ?_
      obtain ⟨_, _, ⟨T55, L55, k55, n55⟩, -, X55, ⟨Lc55, hQ55, l55, y55, z55⟩, st55⟩ := Jvm.LawKit.callS X54 hx (y := (⟨"com/example/fold3/fold3/input/Utf8CheckAcceptPinLaw", "step", "(Lcom/example/fold3/fold3/input/Utf8Check;[III)I"⟩ : MethodName)) hown (mvT hZ (ww hw 10 rfl)) (mvT hZ (ww hw 11 rfl)) (mvT hZ (ww hw 12 rfl)) (mvT hZ (ww hw 13 rfl)) (by decide) (backOf (W := 0) (rm3n l Z av0 hw [] b10 b1 (-1 : Int32) (2 : Int32)  T54.heap n0 SZ54 (by decide)) hZ (ww hw 13 rfl) (ww hw 12 rfl) (by decide) (by decide)) (g := (mkF m 80 #[.val (.int p0), .val (.int p1), .val (.int p2), .val (.int p3), .val (.ref b1), .val (.ref b10), .val (.int (-1 : Int32))] [(.int (2 : Int32)), (.int (-1 : Int32)), (.ref b1), (.ref b10)])) rfl (by rw [hml]; rfl) (argsL := [(.ref b10), (.ref b1), (.int (-1 : Int32)), (.int (2 : Int32))]) (rest := []) (lenOf pd_5 rfl) rfl (by show 2 * 0 + _ ≤ _; exact Nat.le_of_eq rfl) (dd at_80) (fun _ _ => ⟨rfl, rfl, (by decide : 2 + 0 ≤ _), (by decide : 7 + 0 ≤ _)⟩)
      dsimp only [Pt.U, Pt.locs, Pt.cells, Pt.slots, Q_rm3n] at X55 l55 y55 z55 st55 hQ55
      subst l55 y55 z55
      rw [show (fNeg b10 b1 (-1 : Int32) (2 : Int32)) = (-1 : Int32) from (by unfold fNeg; rfl)] at hQ55
      obtain ⟨rfl, N55q, e55⟩ := hQ55
      have N55 := Fr.app N54 N55q
      refine Gz.st st55 ?_
      refine Gz.istore 85 #[.val (.int p0), .val (.int p1), .val (.int p2), .val (.int p3), .val (.ref b1), .val (.ref b10), .val (.int (-1 : Int32))] X55 hx (dd at_83) rfl rfl ?_
      refine Gz.aload 87 X55 hx (dd at_85) rfl rfl rfl ?_
      refine Gz.aload 89 X55 hx (dd at_87) rfl rfl rfl ?_
      refine Gz.iload 91 X55 hx (dd at_89) rfl rfl ?_
      refine Gz.iconst 92 (3 : Int32) X55 hx (dd at_91) rfl rfl ?_
      obtain ⟨_, _, ⟨T56, L56, k56, n56⟩, -, X56, ⟨Lc56, hQ56, l56, y56, z56⟩, st56⟩ := Jvm.LawKit.callS X55 hx (y := (⟨"com/example/fold3/fold3/input/Utf8CheckAcceptPinLaw", "step", "(Lcom/example/fold3/fold3/input/Utf8Check;[III)I"⟩ : MethodName)) hown (mvT hZ (ww hw 10 rfl)) (mvT hZ (ww hw 11 rfl)) (mvT hZ (ww hw 12 rfl)) (mvT hZ (ww hw 13 rfl)) (by decide) (backOf (W := 0) (rm3n l Z av0 hw [] b10 b1 (-1 : Int32) (3 : Int32)  T54.heap n0 SZ54 (by decide)) hZ (ww hw 13 rfl) (ww hw 12 rfl) (by decide) (by decide)) (g := (mkF m 92 #[.val (.int p0), .val (.int p1), .val (.int p2), .val (.int p3), .val (.ref b1), .val (.ref b10), .val (.int (-1 : Int32))] [(.int (3 : Int32)), (.int (-1 : Int32)), (.ref b1), (.ref b10)])) rfl (by rw [hml]; rfl) (argsL := [(.ref b10), (.ref b1), (.int (-1 : Int32)), (.int (3 : Int32))]) (rest := []) (lenOf pd_5 rfl) rfl (by show 2 * 0 + _ ≤ _; exact Nat.le_of_eq rfl) (dd at_92) (fun _ _ => ⟨rfl, e55, (by decide : 2 + 0 ≤ _), (by decide : 7 + 0 ≤ _)⟩)
      dsimp only [Pt.U, Pt.locs, Pt.cells, Pt.slots, Q_rm3n] at X56 l56 y56 z56 st56 hQ56
      subst l56 y56 z56
      rw [show (fNeg b10 b1 (-1 : Int32) (3 : Int32)) = (-1 : Int32) from (by unfold fNeg; rfl)] at hQ56
      obtain ⟨rfl, N56q, e56⟩ := hQ56
      have N56 := Fr.app N55 N56q
      refine Gz.st st56 ?_
      refine Gz.istore 97 #[.val (.int p0), .val (.int p1), .val (.int p2), .val (.int p3), .val (.ref b1), .val (.ref b10), .val (.int (-1 : Int32))] X56 hx (dd at_95) rfl rfl ?_
      refine Gz.iload 99 X56 hx (dd at_97) rfl rfl ?_
      refine Gz.bipush 101 (-9 : Int32) X56 hx (dd at_99) rfl rfl ?_
      refine Gz.icmpNo 104 X56 hx (dd at_101) (feq (by decide : ¬ ((-1 : Int32) = (-9 : Int32)))).1 rfl ?_
      refine Gz.iconst 105 (1 : Int32) X56 hx (dd at_104) rfl rfl ?_
      refine Gz.goto 109 X56 hx (dd at_105) (by decide) (by decide) ?_
      refine Gz.fin X56 (v := some (.int (1 : Int32))) (fun h => by rw [hret] at h; cases h) hlk (by decide) (by decide) (fun fs hr => retN X56 hx (t := .boolean) hret (by simp) (dd at_109) hr) ?_
      exact ⟨rfl, N56⟩
    · subst hP54
      refine Gz.istore 73 #[.val (.int p0), .val (.int p1), .val (.int p2), .val (.int p3), .val (.ref b1), .val (.ref b10), .val (.int (2 : Int32))] X54 hx (dd at_71) rfl rfl ?_
      refine Gz.aload 75 X54 hx (dd at_73) rfl rfl rfl ?_
      refine Gz.aload 77 X54 hx (dd at_75) rfl rfl rfl ?_
      refine Gz.iload 79 X54 hx (dd at_77) rfl rfl ?_
      refine Gz.iconst 80 (2 : Int32) X54 hx (dd at_79) rfl rfl ?_
      obtain ⟨c57, A57, q57, S57, N57, H57, G57⟩ := id f54_Vb1
      have hin58 : ¬ ((2 : Int32) < 0 ∨ c57.slots.size ≤ ((2 : Int32)).toNatClampNeg) := inb_of S57 ⟨by decide, by decide⟩
      have hat58 : c57.slots[((2 : Int32)).toNatClampNeg]? = some (.int (p2 &&& (255 : Int32))) := Has.at H57 hin58 rfl
      have hin59 : ¬ ((2 : Int32) < 0 ∨ c57.slots.size ≤ ((2 : Int32)).toNatClampNeg) := inb_of S57 ⟨by decide, by decide⟩
      have hat59 : c57.slots[((2 : Int32)).toNatClampNeg]? = some (.int (p2 &&& (255 : Int32))) := Has.at H57 hin59 rfl
      obtain ⟨_, _, ⟨T60, L60, k60, n60⟩, -, X60, ⟨Lc60, hQ60, l60, y60, z60⟩, st60⟩ := Jvm.LawKit.callS X54 hx (y := (⟨"com/example/fold3/fold3/input/Utf8CheckAcceptPinLaw", "step", "(Lcom/example/fold3/fold3/input/Utf8Check;[III)I"⟩ : MethodName)) hown (mvT hZ (ww hw 10 rfl)) (mvT hZ (ww hw 11 rfl)) (mvT hZ (ww hw 12 rfl)) (mvT hZ (ww hw 13 rfl)) (by decide) (backOf (W := 0) (rm3 l Z av0 hw [] b10 b1 (2 : Int32) (2 : Int32) (0 : Int32) Lo54 Hi54 c57 (p2 &&& (255 : Int32)) (p2 &&& (255 : Int32)) T54.heap n0 SZ54 QE54 QP54 QL54 QH54 g_b10 A57 hin58 hat58 hin59 hat59 ne_b1_b10 (by decide)) hZ (ww hw 13 rfl) (ww hw 12 rfl) (by decide) (by decide)) (g := (mkF m 80 #[.val (.int p0), .val (.int p1), .val (.int p2), .val (.int p3), .val (.ref b1), .val (.ref b10), .val (.int (2 : Int32))] [(.int (2 : Int32)), (.int (2 : Int32)), (.ref b1), (.ref b10)])) rfl (by rw [hml]; rfl) (argsL := [(.ref b10), (.ref b1), (.int (2 : Int32)), (.int (2 : Int32))]) (rest := []) (lenOf pd_5 rfl) rfl (by show 2 * 0 + _ ≤ _; exact Nat.le_of_eq rfl) (dd at_80) (fun _ _ => ⟨rfl, rfl, (by decide : 2 + 0 ≤ _), (by decide : 7 + 0 ≤ _)⟩)
      dsimp only [Pt.U, Pt.locs, Pt.cells, Pt.slots, Q_rm3] at X60 l60 y60 z60 st60 hQ60
      subst l60 y60 z60
      have hS60 := own_step0 b10 b1 (2 : Int32) (2 : Int32) Lo54 Hi54 (p2 &&& (255 : Int32)) (3 : Int32) (own_byte _) (by decide) (by decide) (by decide)
      generalize (fStep b10 b1 (2 : Int32) (2 : Int32) (0 : Int32) Lo54 Hi54 (p2 &&& (255 : Int32)) (p2 &&& (255 : Int32))) = r60 at hQ60 hS60
      generalize (fStep_pending b10 b1 (2 : Int32) (2 : Int32) (0 : Int32) Lo54 Hi54 (p2 &&& (255 : Int32)) (p2 &&& (255 : Int32))) = P60 at hQ60 hS60
      generalize (fStep_low b10 b1 (2 : Int32) (2 : Int32) (0 : Int32) Lo54 Hi54 (p2 &&& (255 : Int32)) (p2 &&& (255 : Int32))) = Lo60 at hQ60 hS60
      generalize (fStep_high b10 b1 (2 : Int32) (2 : Int32) (0 : Int32) Lo54 Hi54 (p2 &&& (255 : Int32)) (p2 &&& (255 : Int32))) = Hi60 at hQ60 hS60
      obtain ⟨rfl, N60q, K60q, QE60, QP60, QL60, QH60⟩ := hQ60
      have N60 := Fr.app N54 N60q
      have f60_Eb1 := Exa.keep f54_Eb1 K60q
      have f60_Vb1 := Arv.keep f54_Vb1 K60q (ninS ne_b1_b10 nin0)
      have f60_E_b10 := Exa.keep QE54 K60q
      have SZ60 := Nat.le_trans SZ54 K60q.1
      refine Gz.st st60 ?_
      show Gz p e below s _ _ _ (T60.setTop (mkF m 83 #[.val (.int p0), .val (.int p1), .val (.int p2), .val (.int p3), .val (.ref b1), .val (.ref b10), .val (.int (2 : Int32))] [(.int r60)]))
      rcases hS60 with rfl | ⟨rfl, hP60⟩ | ⟨rfl, hI60⟩
      · refine Gz.istore 85 #[.val (.int p0), .val (.int p1), .val (.int p2), .val (.int p3), .val (.ref b1), .val (.ref b10), .val (.int (-1 : Int32))] X60 hx (dd at_83) rfl rfl ?_
        refine Gz.aload 87 X60 hx (dd at_85) rfl rfl rfl ?_
        refine Gz.aload 89 X60 hx (dd at_87) rfl rfl rfl ?_
        refine Gz.iload 91 X60 hx (dd at_89) rfl rfl ?_
        refine Gz.iconst 92 (3 : Int32) X60 hx (dd at_91) rfl rfl ?_
        obtain ⟨_, _, ⟨T61, L61, k61, n61⟩, -, X61, ⟨Lc61, hQ61, l61, y61, z61⟩, st61⟩ := Jvm.LawKit.callS X60 hx (y := (⟨"com/example/fold3/fold3/input/Utf8CheckAcceptPinLaw", "step", "(Lcom/example/fold3/fold3/input/Utf8Check;[III)I"⟩ : MethodName)) hown (mvT hZ (ww hw 10 rfl)) (mvT hZ (ww hw 11 rfl)) (mvT hZ (ww hw 12 rfl)) (mvT hZ (ww hw 13 rfl)) (by decide) (backOf (W := 0) (rm3n l Z av0 hw [] b10 b1 (-1 : Int32) (3 : Int32)  T60.heap n0 SZ60 (by decide)) hZ (ww hw 13 rfl) (ww hw 12 rfl) (by decide) (by decide)) (g := (mkF m 92 #[.val (.int p0), .val (.int p1), .val (.int p2), .val (.int p3), .val (.ref b1), .val (.ref b10), .val (.int (-1 : Int32))] [(.int (3 : Int32)), (.int (-1 : Int32)), (.ref b1), (.ref b10)])) rfl (by rw [hml]; rfl) (argsL := [(.ref b10), (.ref b1), (.int (-1 : Int32)), (.int (3 : Int32))]) (rest := []) (lenOf pd_5 rfl) rfl (by show 2 * 0 + _ ≤ _; exact Nat.le_of_eq rfl) (dd at_92) (fun _ _ => ⟨rfl, rfl, (by decide : 2 + 0 ≤ _), (by decide : 7 + 0 ≤ _)⟩)
        dsimp only [Pt.U, Pt.locs, Pt.cells, Pt.slots, Q_rm3n] at X61 l61 y61 z61 st61 hQ61
        subst l61 y61 z61
        rw [show (fNeg b10 b1 (-1 : Int32) (3 : Int32)) = (-1 : Int32) from (by unfold fNeg; rfl)] at hQ61
        obtain ⟨rfl, N61q, e61⟩ := hQ61
        have N61 := Fr.app N60 N61q
        refine Gz.st st61 ?_
        refine Gz.istore 97 #[.val (.int p0), .val (.int p1), .val (.int p2), .val (.int p3), .val (.ref b1), .val (.ref b10), .val (.int (-1 : Int32))] X61 hx (dd at_95) rfl rfl ?_
        refine Gz.iload 99 X61 hx (dd at_97) rfl rfl ?_
        refine Gz.bipush 101 (-9 : Int32) X61 hx (dd at_99) rfl rfl ?_
        refine Gz.icmpNo 104 X61 hx (dd at_101) (feq (by decide : ¬ ((-1 : Int32) = (-9 : Int32)))).1 rfl ?_
        refine Gz.iconst 105 (1 : Int32) X61 hx (dd at_104) rfl rfl ?_
        refine Gz.goto 109 X61 hx (dd at_105) (by decide) (by decide) ?_
        refine Gz.fin X61 (v := some (.int (1 : Int32))) (fun h => by rw [hret] at h; cases h) hlk (by decide) (by decide) (fun fs hr => retN X61 hx (t := .boolean) hret (by simp) (dd at_109) hr) ?_
        exact ⟨rfl, N61⟩
      · subst hP60
        refine Gz.istore 85 #[.val (.int p0), .val (.int p1), .val (.int p2), .val (.int p3), .val (.ref b1), .val (.ref b10), .val (.int (3 : Int32))] X60 hx (dd at_83) rfl rfl ?_
        refine Gz.aload 87 X60 hx (dd at_85) rfl rfl rfl ?_
        refine Gz.aload 89 X60 hx (dd at_87) rfl rfl rfl ?_
        refine Gz.iload 91 X60 hx (dd at_89) rfl rfl ?_
        refine Gz.iconst 92 (3 : Int32) X60 hx (dd at_91) rfl rfl ?_
        obtain ⟨c62, A62, q62, S62, N62, H62, G62⟩ := id f60_Vb1
        have hin63 : ¬ ((3 : Int32) < 0 ∨ c62.slots.size ≤ ((3 : Int32)).toNatClampNeg) := inb_of S62 ⟨by decide, by decide⟩
        have hat63 : c62.slots[((3 : Int32)).toNatClampNeg]? = some (.int (p3 &&& (255 : Int32))) := Has.at H62 hin63 rfl
        have hin64 : ¬ ((3 : Int32) < 0 ∨ c62.slots.size ≤ ((3 : Int32)).toNatClampNeg) := inb_of S62 ⟨by decide, by decide⟩
        have hat64 : c62.slots[((3 : Int32)).toNatClampNeg]? = some (.int (p3 &&& (255 : Int32))) := Has.at H62 hin64 rfl
        obtain ⟨_, _, ⟨T65, L65, k65, n65⟩, -, X65, ⟨Lc65, hQ65, l65, y65, z65⟩, st65⟩ := Jvm.LawKit.callS X60 hx (y := (⟨"com/example/fold3/fold3/input/Utf8CheckAcceptPinLaw", "step", "(Lcom/example/fold3/fold3/input/Utf8Check;[III)I"⟩ : MethodName)) hown (mvT hZ (ww hw 10 rfl)) (mvT hZ (ww hw 11 rfl)) (mvT hZ (ww hw 12 rfl)) (mvT hZ (ww hw 13 rfl)) (by decide) (backOf (W := 0) (rm3 l Z av0 hw [] b10 b1 (3 : Int32) (3 : Int32) (0 : Int32) Lo60 Hi60 c62 (p3 &&& (255 : Int32)) (p3 &&& (255 : Int32)) T60.heap n0 SZ60 QE60 QP60 QL60 QH60 g_b10 A62 hin63 hat63 hin64 hat64 ne_b1_b10 (by decide)) hZ (ww hw 13 rfl) (ww hw 12 rfl) (by decide) (by decide)) (g := (mkF m 92 #[.val (.int p0), .val (.int p1), .val (.int p2), .val (.int p3), .val (.ref b1), .val (.ref b10), .val (.int (3 : Int32))] [(.int (3 : Int32)), (.int (3 : Int32)), (.ref b1), (.ref b10)])) rfl (by rw [hml]; rfl) (argsL := [(.ref b10), (.ref b1), (.int (3 : Int32)), (.int (3 : Int32))]) (rest := []) (lenOf pd_5 rfl) rfl (by show 2 * 0 + _ ≤ _; exact Nat.le_of_eq rfl) (dd at_92) (fun _ _ => ⟨rfl, rfl, (by decide : 2 + 0 ≤ _), (by decide : 7 + 0 ≤ _)⟩)
        dsimp only [Pt.U, Pt.locs, Pt.cells, Pt.slots, Q_rm3] at X65 l65 y65 z65 st65 hQ65
        subst l65 y65 z65
        have hS65 := own_step0 b10 b1 (3 : Int32) (3 : Int32) Lo60 Hi60 (p3 &&& (255 : Int32)) (4 : Int32) (own_byte _) (by decide) (by decide) (by decide)
        generalize (fStep b10 b1 (3 : Int32) (3 : Int32) (0 : Int32) Lo60 Hi60 (p3 &&& (255 : Int32)) (p3 &&& (255 : Int32))) = r65 at hQ65 hS65
        generalize (fStep_pending b10 b1 (3 : Int32) (3 : Int32) (0 : Int32) Lo60 Hi60 (p3 &&& (255 : Int32)) (p3 &&& (255 : Int32))) = P65 at hQ65 hS65
        generalize (fStep_low b10 b1 (3 : Int32) (3 : Int32) (0 : Int32) Lo60 Hi60 (p3 &&& (255 : Int32)) (p3 &&& (255 : Int32))) = Lo65 at hQ65 hS65
        generalize (fStep_high b10 b1 (3 : Int32) (3 : Int32) (0 : Int32) Lo60 Hi60 (p3 &&& (255 : Int32)) (p3 &&& (255 : Int32))) = Hi65 at hQ65 hS65
        obtain ⟨rfl, N65q, K65q, QE65, QP65, QL65, QH65⟩ := hQ65
        have N65 := Fr.app N60 N65q
        have f65_Eb1 := Exa.keep f60_Eb1 K65q
        have f65_Vb1 := Arv.keep f60_Vb1 K65q (ninS ne_b1_b10 nin0)
        have f65_E_b10 := Exa.keep QE60 K65q
        have SZ65 := Nat.le_trans SZ60 K65q.1
        refine Gz.st st65 ?_
        show Gz p e below s _ _ _ (T65.setTop (mkF m 95 #[.val (.int p0), .val (.int p1), .val (.int p2), .val (.int p3), .val (.ref b1), .val (.ref b10), .val (.int (3 : Int32))] [(.int r65)]))
        rcases hS65 with rfl | ⟨rfl, hP65⟩ | ⟨rfl, hI65⟩
        · refine Gz.istore 97 #[.val (.int p0), .val (.int p1), .val (.int p2), .val (.int p3), .val (.ref b1), .val (.ref b10), .val (.int (-1 : Int32))] X65 hx (dd at_95) rfl rfl ?_
          refine Gz.iload 99 X65 hx (dd at_97) rfl rfl ?_
          refine Gz.bipush 101 (-9 : Int32) X65 hx (dd at_99) rfl rfl ?_
          refine Gz.icmpNo 104 X65 hx (dd at_101) (feq (by decide : ¬ ((-1 : Int32) = (-9 : Int32)))).1 rfl ?_
          refine Gz.iconst 105 (1 : Int32) X65 hx (dd at_104) rfl rfl ?_
          refine Gz.goto 109 X65 hx (dd at_105) (by decide) (by decide) ?_
          refine Gz.fin X65 (v := some (.int (1 : Int32))) (fun h => by rw [hret] at h; cases h) hlk (by decide) (by decide) (fun fs hr => retN X65 hx (t := .boolean) hret (by simp) (dd at_109) hr) ?_
          exact ⟨rfl, N65⟩
        · subst hP65
          refine Gz.istore 97 #[.val (.int p0), .val (.int p1), .val (.int p2), .val (.int p3), .val (.ref b1), .val (.ref b10), .val (.int (4 : Int32))] X65 hx (dd at_95) rfl rfl ?_
          refine Gz.iload 99 X65 hx (dd at_97) rfl rfl ?_
          refine Gz.bipush 101 (-9 : Int32) X65 hx (dd at_99) rfl rfl ?_
          refine Gz.icmpNo 104 X65 hx (dd at_101) (feq (by decide : ¬ ((4 : Int32) = (-9 : Int32)))).1 rfl ?_
          refine Gz.iconst 105 (1 : Int32) X65 hx (dd at_104) rfl rfl ?_
          refine Gz.goto 109 X65 hx (dd at_105) (by decide) (by decide) ?_
          refine Gz.fin X65 (v := some (.int (1 : Int32))) (fun h => by rw [hret] at h; cases h) hlk (by decide) (by decide) (fun fs hr => retN X65 hx (t := .boolean) hret (by simp) (dd at_109) hr) ?_
          exact ⟨rfl, N65⟩
        · refine Gz.istore 97 #[.val (.int p0), .val (.int p1), .val (.int p2), .val (.int p3), .val (.ref b1), .val (.ref b10), .val (.int (3 : Int32))] X65 hx (dd at_95) rfl rfl ?_
          refine Gz.iload 99 X65 hx (dd at_97) rfl rfl ?_
          refine Gz.bipush 101 (-9 : Int32) X65 hx (dd at_99) rfl rfl ?_
          refine Gz.icmpNo 104 X65 hx (dd at_101) (feq (by decide : ¬ ((3 : Int32) = (-9 : Int32)))).1 rfl ?_
          refine Gz.iconst 105 (1 : Int32) X65 hx (dd at_104) rfl rfl ?_
          refine Gz.goto 109 X65 hx (dd at_105) (by decide) (by decide) ?_
          refine Gz.fin X65 (v := some (.int (1 : Int32))) (fun h => by rw [hret] at h; cases h) hlk (by decide) (by decide) (fun fs hr => retN X65 hx (t := .boolean) hret (by simp) (dd at_109) hr) ?_
          exact ⟨rfl, N65⟩
      · refine Gz.istore 85 #[.val (.int p0), .val (.int p1), .val (.int p2), .val (.int p3), .val (.ref b1), .val (.ref b10), .val (.int (2 : Int32))] X60 hx (dd at_83) rfl rfl ?_
        refine Gz.aload 87 X60 hx (dd at_85) rfl rfl rfl ?_
        refine Gz.aload 89 X60 hx (dd at_87) rfl rfl rfl ?_
        refine Gz.iload 91 X60 hx (dd at_89) rfl rfl ?_
        refine Gz.iconst 92 (3 : Int32) X60 hx (dd at_91) rfl rfl ?_
        obtain ⟨c66, A66, q66, S66, N66, H66, G66⟩ := id f60_Vb1
        have hin67 : ¬ ((2 : Int32) < 0 ∨ c66.slots.size ≤ ((2 : Int32)).toNatClampNeg) := inb_of S66 ⟨by decide, by decide⟩
        have hat67 : c66.slots[((2 : Int32)).toNatClampNeg]? = some (.int (p2 &&& (255 : Int32))) := Has.at H66 hin67 rfl
        have hin68 : ¬ ((3 : Int32) < 0 ∨ c66.slots.size ≤ ((3 : Int32)).toNatClampNeg) := inb_of S66 ⟨by decide, by decide⟩
        have hat68 : c66.slots[((3 : Int32)).toNatClampNeg]? = some (.int (p3 &&& (255 : Int32))) := Has.at H66 hin68 rfl
        obtain ⟨_, _, ⟨T69, L69, k69, n69⟩, -, X69, ⟨Lc69, hQ69, l69, y69, z69⟩, st69⟩ := Jvm.LawKit.callS X60 hx (y := (⟨"com/example/fold3/fold3/input/Utf8CheckAcceptPinLaw", "step", "(Lcom/example/fold3/fold3/input/Utf8Check;[III)I"⟩ : MethodName)) hown (mvT hZ (ww hw 10 rfl)) (mvT hZ (ww hw 11 rfl)) (mvT hZ (ww hw 12 rfl)) (mvT hZ (ww hw 13 rfl)) (by decide) (backOf (W := 0) (rm3 l Z av0 hw [] b10 b1 (2 : Int32) (3 : Int32) P60 Lo60 Hi60 c66 (p2 &&& (255 : Int32)) (p3 &&& (255 : Int32)) T60.heap n0 SZ60 QE60 QP60 QL60 QH60 g_b10 A66 hin67 hat67 hin68 hat68 ne_b1_b10 (by decide)) hZ (ww hw 13 rfl) (ww hw 12 rfl) (by decide) (by decide)) (g := (mkF m 92 #[.val (.int p0), .val (.int p1), .val (.int p2), .val (.int p3), .val (.ref b1), .val (.ref b10), .val (.int (2 : Int32))] [(.int (3 : Int32)), (.int (2 : Int32)), (.ref b1), (.ref b10)])) rfl (by rw [hml]; rfl) (argsL := [(.ref b10), (.ref b1), (.int (2 : Int32)), (.int (3 : Int32))]) (rest := []) (lenOf pd_5 rfl) rfl (by show 2 * 0 + _ ≤ _; exact Nat.le_of_eq rfl) (dd at_92) (fun _ _ => ⟨rfl, rfl, (by decide : 2 + 0 ≤ _), (by decide : 7 + 0 ≤ _)⟩)
        dsimp only [Pt.U, Pt.locs, Pt.cells, Pt.slots, Q_rm3] at X69 l69 y69 z69 st69 hQ69
        subst l69 y69 z69
        have hS69 := own_step1 b10 b1 (2 : Int32) (3 : Int32) P60 Lo60 Hi60 (p2 &&& (255 : Int32)) (p3 &&& (255 : Int32)) (4 : Int32) (own_byte _) (own_byte _) hI60 (by decide) (by decide) (by decide)
        generalize (fStep b10 b1 (2 : Int32) (3 : Int32) P60 Lo60 Hi60 (p2 &&& (255 : Int32)) (p3 &&& (255 : Int32))) = r69 at hQ69 hS69
        generalize (fStep_pending b10 b1 (2 : Int32) (3 : Int32) P60 Lo60 Hi60 (p2 &&& (255 : Int32)) (p3 &&& (255 : Int32))) = P69 at hQ69 hS69
        generalize (fStep_low b10 b1 (2 : Int32) (3 : Int32) P60 Lo60 Hi60 (p2 &&& (255 : Int32)) (p3 &&& (255 : Int32))) = Lo69 at hQ69 hS69
        generalize (fStep_high b10 b1 (2 : Int32) (3 : Int32) P60 Lo60 Hi60 (p2 &&& (255 : Int32)) (p3 &&& (255 : Int32))) = Hi69 at hQ69 hS69
        obtain ⟨rfl, N69q, K69q, QE69, QP69, QL69, QH69⟩ := hQ69
        have N69 := Fr.app N60 N69q
        have f69_Eb1 := Exa.keep f60_Eb1 K69q
        have f69_Vb1 := Arv.keep f60_Vb1 K69q (ninS ne_b1_b10 nin0)
        have f69_E_b10 := Exa.keep QE60 K69q
        have SZ69 := Nat.le_trans SZ60 K69q.1
        refine Gz.st st69 ?_
        show Gz p e below s _ _ _ (T69.setTop (mkF m 95 #[.val (.int p0), .val (.int p1), .val (.int p2), .val (.int p3), .val (.ref b1), .val (.ref b10), .val (.int (2 : Int32))] [(.int r69)]))
        rcases hS69 with rfl | ⟨rfl, hP69⟩ | ⟨rfl, hI69⟩
        · refine Gz.istore 97 #[.val (.int p0), .val (.int p1), .val (.int p2), .val (.int p3), .val (.ref b1), .val (.ref b10), .val (.int (-1 : Int32))] X69 hx (dd at_95) rfl rfl ?_
          refine Gz.iload 99 X69 hx (dd at_97) rfl rfl ?_
          refine Gz.bipush 101 (-9 : Int32) X69 hx (dd at_99) rfl rfl ?_
          refine Gz.icmpNo 104 X69 hx (dd at_101) (feq (by decide : ¬ ((-1 : Int32) = (-9 : Int32)))).1 rfl ?_
          refine Gz.iconst 105 (1 : Int32) X69 hx (dd at_104) rfl rfl ?_
          refine Gz.goto 109 X69 hx (dd at_105) (by decide) (by decide) ?_
          refine Gz.fin X69 (v := some (.int (1 : Int32))) (fun h => by rw [hret] at h; cases h) hlk (by decide) (by decide) (fun fs hr => retN X69 hx (t := .boolean) hret (by simp) (dd at_109) hr) ?_
          exact ⟨rfl, N69⟩
        · subst hP69
          refine Gz.istore 97 #[.val (.int p0), .val (.int p1), .val (.int p2), .val (.int p3), .val (.ref b1), .val (.ref b10), .val (.int (4 : Int32))] X69 hx (dd at_95) rfl rfl ?_
          refine Gz.iload 99 X69 hx (dd at_97) rfl rfl ?_
          refine Gz.bipush 101 (-9 : Int32) X69 hx (dd at_99) rfl rfl ?_
          refine Gz.icmpNo 104 X69 hx (dd at_101) (feq (by decide : ¬ ((4 : Int32) = (-9 : Int32)))).1 rfl ?_
          refine Gz.iconst 105 (1 : Int32) X69 hx (dd at_104) rfl rfl ?_
          refine Gz.goto 109 X69 hx (dd at_105) (by decide) (by decide) ?_
          refine Gz.fin X69 (v := some (.int (1 : Int32))) (fun h => by rw [hret] at h; cases h) hlk (by decide) (by decide) (fun fs hr => retN X69 hx (t := .boolean) hret (by simp) (dd at_109) hr) ?_
          exact ⟨rfl, N69⟩
        · refine Gz.istore 97 #[.val (.int p0), .val (.int p1), .val (.int p2), .val (.int p3), .val (.ref b1), .val (.ref b10), .val (.int (2 : Int32))] X69 hx (dd at_95) rfl rfl ?_
          refine Gz.iload 99 X69 hx (dd at_97) rfl rfl ?_
          refine Gz.bipush 101 (-9 : Int32) X69 hx (dd at_99) rfl rfl ?_
          refine Gz.icmpNo 104 X69 hx (dd at_101) (feq (by decide : ¬ ((2 : Int32) = (-9 : Int32)))).1 rfl ?_
          refine Gz.iconst 105 (1 : Int32) X69 hx (dd at_104) rfl rfl ?_
          refine Gz.goto 109 X69 hx (dd at_105) (by decide) (by decide) ?_
          refine Gz.fin X69 (v := some (.int (1 : Int32))) (fun h => by rw [hret] at h; cases h) hlk (by decide) (by decide) (fun fs hr => retN X69 hx (t := .boolean) hret (by simp) (dd at_109) hr) ?_
          exact ⟨rfl, N69⟩
    · refine Gz.istore 73 #[.val (.int p0), .val (.int p1), .val (.int p2), .val (.int p3), .val (.ref b1), .val (.ref b10), .val (.int (0 : Int32))] X54 hx (dd at_71) rfl rfl ?_
      refine Gz.aload 75 X54 hx (dd at_73) rfl rfl rfl ?_
      refine Gz.aload 77 X54 hx (dd at_75) rfl rfl rfl ?_
      refine Gz.iload 79 X54 hx (dd at_77) rfl rfl ?_
      refine Gz.iconst 80 (2 : Int32) X54 hx (dd at_79) rfl rfl ?_
      obtain ⟨c70, A70, q70, S70, N70, H70, G70⟩ := id f54_Vb1
      have hin71 : ¬ ((0 : Int32) < 0 ∨ c70.slots.size ≤ ((0 : Int32)).toNatClampNeg) := inb_of S70 ⟨by decide, by decide⟩
      have hat71 : c70.slots[((0 : Int32)).toNatClampNeg]? = some (.int (p0 &&& (255 : Int32))) := Has.at H70 hin71 rfl
      have hin72 : ¬ ((2 : Int32) < 0 ∨ c70.slots.size ≤ ((2 : Int32)).toNatClampNeg) := inb_of S70 ⟨by decide, by decide⟩
      have hat72 : c70.slots[((2 : Int32)).toNatClampNeg]? = some (.int (p2 &&& (255 : Int32))) := Has.at H70 hin72 rfl
      obtain ⟨_, _, ⟨T73, L73, k73, n73⟩, -, X73, ⟨Lc73, hQ73, l73, y73, z73⟩, st73⟩ := Jvm.LawKit.callS X54 hx (y := (⟨"com/example/fold3/fold3/input/Utf8CheckAcceptPinLaw", "step", "(Lcom/example/fold3/fold3/input/Utf8Check;[III)I"⟩ : MethodName)) hown (mvT hZ (ww hw 10 rfl)) (mvT hZ (ww hw 11 rfl)) (mvT hZ (ww hw 12 rfl)) (mvT hZ (ww hw 13 rfl)) (by decide) (backOf (W := 0) (rm3 l Z av0 hw [] b10 b1 (0 : Int32) (2 : Int32) P54 Lo54 Hi54 c70 (p0 &&& (255 : Int32)) (p2 &&& (255 : Int32)) T54.heap n0 SZ54 QE54 QP54 QL54 QH54 g_b10 A70 hin71 hat71 hin72 hat72 ne_b1_b10 (by decide)) hZ (ww hw 13 rfl) (ww hw 12 rfl) (by decide) (by decide)) (g := (mkF m 80 #[.val (.int p0), .val (.int p1), .val (.int p2), .val (.int p3), .val (.ref b1), .val (.ref b10), .val (.int (0 : Int32))] [(.int (2 : Int32)), (.int (0 : Int32)), (.ref b1), (.ref b10)])) rfl (by rw [hml]; rfl) (argsL := [(.ref b10), (.ref b1), (.int (0 : Int32)), (.int (2 : Int32))]) (rest := []) (lenOf pd_5 rfl) rfl (by show 2 * 0 + _ ≤ _; exact Nat.le_of_eq rfl) (dd at_80) (fun _ _ => ⟨rfl, rfl, (by decide : 2 + 0 ≤ _), (by decide : 7 + 0 ≤ _)⟩)
      dsimp only [Pt.U, Pt.locs, Pt.cells, Pt.slots, Q_rm3] at X73 l73 y73 z73 st73 hQ73
      subst l73 y73 z73
      have hS73 := own_step2 b10 b1 (0 : Int32) (2 : Int32) P54 Lo54 Hi54 (p0 &&& (255 : Int32)) (p2 &&& (255 : Int32)) (3 : Int32) hI54 (by decide) (by decide) (by decide)
      generalize (fStep b10 b1 (0 : Int32) (2 : Int32) P54 Lo54 Hi54 (p0 &&& (255 : Int32)) (p2 &&& (255 : Int32))) = r73 at hQ73 hS73
      generalize (fStep_pending b10 b1 (0 : Int32) (2 : Int32) P54 Lo54 Hi54 (p0 &&& (255 : Int32)) (p2 &&& (255 : Int32))) = P73 at hQ73 hS73
      generalize (fStep_low b10 b1 (0 : Int32) (2 : Int32) P54 Lo54 Hi54 (p0 &&& (255 : Int32)) (p2 &&& (255 : Int32))) = Lo73 at hQ73 hS73
      generalize (fStep_high b10 b1 (0 : Int32) (2 : Int32) P54 Lo54 Hi54 (p0 &&& (255 : Int32)) (p2 &&& (255 : Int32))) = Hi73 at hQ73 hS73
      obtain ⟨rfl, N73q, K73q, QE73, QP73, QL73, QH73⟩ := hQ73
      have N73 := Fr.app N54 N73q
      have f73_Eb1 := Exa.keep f54_Eb1 K73q
      have f73_Vb1 := Arv.keep f54_Vb1 K73q (ninS ne_b1_b10 nin0)
      have f73_E_b10 := Exa.keep QE54 K73q
      have SZ73 := Nat.le_trans SZ54 K73q.1
      refine Gz.st st73 ?_
      show Gz p e below s _ _ _ (T73.setTop (mkF m 83 #[.val (.int p0), .val (.int p1), .val (.int p2), .val (.int p3), .val (.ref b1), .val (.ref b10), .val (.int (0 : Int32))] [(.int r73)]))
      rcases hS73 with rfl | ⟨rfl, hP73⟩ | ⟨rfl, hI73⟩
      · refine Gz.istore 85 #[.val (.int p0), .val (.int p1), .val (.int p2), .val (.int p3), .val (.ref b1), .val (.ref b10), .val (.int (-1 : Int32))] X73 hx (dd at_83) rfl rfl ?_
        refine Gz.aload 87 X73 hx (dd at_85) rfl rfl rfl ?_
        refine Gz.aload 89 X73 hx (dd at_87) rfl rfl rfl ?_
        refine Gz.iload 91 X73 hx (dd at_89) rfl rfl ?_
        refine Gz.iconst 92 (3 : Int32) X73 hx (dd at_91) rfl rfl ?_
        obtain ⟨_, _, ⟨T74, L74, k74, n74⟩, -, X74, ⟨Lc74, hQ74, l74, y74, z74⟩, st74⟩ := Jvm.LawKit.callS X73 hx (y := (⟨"com/example/fold3/fold3/input/Utf8CheckAcceptPinLaw", "step", "(Lcom/example/fold3/fold3/input/Utf8Check;[III)I"⟩ : MethodName)) hown (mvT hZ (ww hw 10 rfl)) (mvT hZ (ww hw 11 rfl)) (mvT hZ (ww hw 12 rfl)) (mvT hZ (ww hw 13 rfl)) (by decide) (backOf (W := 0) (rm3n l Z av0 hw [] b10 b1 (-1 : Int32) (3 : Int32)  T73.heap n0 SZ73 (by decide)) hZ (ww hw 13 rfl) (ww hw 12 rfl) (by decide) (by decide)) (g := (mkF m 92 #[.val (.int p0), .val (.int p1), .val (.int p2), .val (.int p3), .val (.ref b1), .val (.ref b10), .val (.int (-1 : Int32))] [(.int (3 : Int32)), (.int (-1 : Int32)), (.ref b1), (.ref b10)])) rfl (by rw [hml]; rfl) (argsL := [(.ref b10), (.ref b1), (.int (-1 : Int32)), (.int (3 : Int32))]) (rest := []) (lenOf pd_5 rfl) rfl (by show 2 * 0 + _ ≤ _; exact Nat.le_of_eq rfl) (dd at_92) (fun _ _ => ⟨rfl, rfl, (by decide : 2 + 0 ≤ _), (by decide : 7 + 0 ≤ _)⟩)
        dsimp only [Pt.U, Pt.locs, Pt.cells, Pt.slots, Q_rm3n] at X74 l74 y74 z74 st74 hQ74
        subst l74 y74 z74
        rw [show (fNeg b10 b1 (-1 : Int32) (3 : Int32)) = (-1 : Int32) from (by unfold fNeg; rfl)] at hQ74
        obtain ⟨rfl, N74q, e74⟩ := hQ74
        have N74 := Fr.app N73 N74q
        refine Gz.st st74 ?_
        refine Gz.istore 97 #[.val (.int p0), .val (.int p1), .val (.int p2), .val (.int p3), .val (.ref b1), .val (.ref b10), .val (.int (-1 : Int32))] X74 hx (dd at_95) rfl rfl ?_
        refine Gz.iload 99 X74 hx (dd at_97) rfl rfl ?_
        refine Gz.bipush 101 (-9 : Int32) X74 hx (dd at_99) rfl rfl ?_
        refine Gz.icmpNo 104 X74 hx (dd at_101) (feq (by decide : ¬ ((-1 : Int32) = (-9 : Int32)))).1 rfl ?_
        refine Gz.iconst 105 (1 : Int32) X74 hx (dd at_104) rfl rfl ?_
        refine Gz.goto 109 X74 hx (dd at_105) (by decide) (by decide) ?_
        refine Gz.fin X74 (v := some (.int (1 : Int32))) (fun h => by rw [hret] at h; cases h) hlk (by decide) (by decide) (fun fs hr => retN X74 hx (t := .boolean) hret (by simp) (dd at_109) hr) ?_
        exact ⟨rfl, N74⟩
      · subst hP73
        refine Gz.istore 85 #[.val (.int p0), .val (.int p1), .val (.int p2), .val (.int p3), .val (.ref b1), .val (.ref b10), .val (.int (3 : Int32))] X73 hx (dd at_83) rfl rfl ?_
        refine Gz.aload 87 X73 hx (dd at_85) rfl rfl rfl ?_
        refine Gz.aload 89 X73 hx (dd at_87) rfl rfl rfl ?_
        refine Gz.iload 91 X73 hx (dd at_89) rfl rfl ?_
        refine Gz.iconst 92 (3 : Int32) X73 hx (dd at_91) rfl rfl ?_
        obtain ⟨c75, A75, q75, S75, N75, H75, G75⟩ := id f73_Vb1
        have hin76 : ¬ ((3 : Int32) < 0 ∨ c75.slots.size ≤ ((3 : Int32)).toNatClampNeg) := inb_of S75 ⟨by decide, by decide⟩
        have hat76 : c75.slots[((3 : Int32)).toNatClampNeg]? = some (.int (p3 &&& (255 : Int32))) := Has.at H75 hin76 rfl
        have hin77 : ¬ ((3 : Int32) < 0 ∨ c75.slots.size ≤ ((3 : Int32)).toNatClampNeg) := inb_of S75 ⟨by decide, by decide⟩
        have hat77 : c75.slots[((3 : Int32)).toNatClampNeg]? = some (.int (p3 &&& (255 : Int32))) := Has.at H75 hin77 rfl
        obtain ⟨_, _, ⟨T78, L78, k78, n78⟩, -, X78, ⟨Lc78, hQ78, l78, y78, z78⟩, st78⟩ := Jvm.LawKit.callS X73 hx (y := (⟨"com/example/fold3/fold3/input/Utf8CheckAcceptPinLaw", "step", "(Lcom/example/fold3/fold3/input/Utf8Check;[III)I"⟩ : MethodName)) hown (mvT hZ (ww hw 10 rfl)) (mvT hZ (ww hw 11 rfl)) (mvT hZ (ww hw 12 rfl)) (mvT hZ (ww hw 13 rfl)) (by decide) (backOf (W := 0) (rm3 l Z av0 hw [] b10 b1 (3 : Int32) (3 : Int32) (0 : Int32) Lo73 Hi73 c75 (p3 &&& (255 : Int32)) (p3 &&& (255 : Int32)) T73.heap n0 SZ73 QE73 QP73 QL73 QH73 g_b10 A75 hin76 hat76 hin77 hat77 ne_b1_b10 (by decide)) hZ (ww hw 13 rfl) (ww hw 12 rfl) (by decide) (by decide)) (g := (mkF m 92 #[.val (.int p0), .val (.int p1), .val (.int p2), .val (.int p3), .val (.ref b1), .val (.ref b10), .val (.int (3 : Int32))] [(.int (3 : Int32)), (.int (3 : Int32)), (.ref b1), (.ref b10)])) rfl (by rw [hml]; rfl) (argsL := [(.ref b10), (.ref b1), (.int (3 : Int32)), (.int (3 : Int32))]) (rest := []) (lenOf pd_5 rfl) rfl (by show 2 * 0 + _ ≤ _; exact Nat.le_of_eq rfl) (dd at_92) (fun _ _ => ⟨rfl, rfl, (by decide : 2 + 0 ≤ _), (by decide : 7 + 0 ≤ _)⟩)
        dsimp only [Pt.U, Pt.locs, Pt.cells, Pt.slots, Q_rm3] at X78 l78 y78 z78 st78 hQ78
        subst l78 y78 z78
        have hS78 := own_step0 b10 b1 (3 : Int32) (3 : Int32) Lo73 Hi73 (p3 &&& (255 : Int32)) (4 : Int32) (own_byte _) (by decide) (by decide) (by decide)
        generalize (fStep b10 b1 (3 : Int32) (3 : Int32) (0 : Int32) Lo73 Hi73 (p3 &&& (255 : Int32)) (p3 &&& (255 : Int32))) = r78 at hQ78 hS78
        generalize (fStep_pending b10 b1 (3 : Int32) (3 : Int32) (0 : Int32) Lo73 Hi73 (p3 &&& (255 : Int32)) (p3 &&& (255 : Int32))) = P78 at hQ78 hS78
        generalize (fStep_low b10 b1 (3 : Int32) (3 : Int32) (0 : Int32) Lo73 Hi73 (p3 &&& (255 : Int32)) (p3 &&& (255 : Int32))) = Lo78 at hQ78 hS78
        generalize (fStep_high b10 b1 (3 : Int32) (3 : Int32) (0 : Int32) Lo73 Hi73 (p3 &&& (255 : Int32)) (p3 &&& (255 : Int32))) = Hi78 at hQ78 hS78
        obtain ⟨rfl, N78q, K78q, QE78, QP78, QL78, QH78⟩ := hQ78
        have N78 := Fr.app N73 N78q
        have f78_Eb1 := Exa.keep f73_Eb1 K78q
        have f78_Vb1 := Arv.keep f73_Vb1 K78q (ninS ne_b1_b10 nin0)
        have f78_E_b10 := Exa.keep QE73 K78q
        have SZ78 := Nat.le_trans SZ73 K78q.1
        refine Gz.st st78 ?_
        show Gz p e below s _ _ _ (T78.setTop (mkF m 95 #[.val (.int p0), .val (.int p1), .val (.int p2), .val (.int p3), .val (.ref b1), .val (.ref b10), .val (.int (3 : Int32))] [(.int r78)]))
        rcases hS78 with rfl | ⟨rfl, hP78⟩ | ⟨rfl, hI78⟩
        · refine Gz.istore 97 #[.val (.int p0), .val (.int p1), .val (.int p2), .val (.int p3), .val (.ref b1), .val (.ref b10), .val (.int (-1 : Int32))] X78 hx (dd at_95) rfl rfl ?_
          refine Gz.iload 99 X78 hx (dd at_97) rfl rfl ?_
          refine Gz.bipush 101 (-9 : Int32) X78 hx (dd at_99) rfl rfl ?_
          refine Gz.icmpNo 104 X78 hx (dd at_101) (feq (by decide : ¬ ((-1 : Int32) = (-9 : Int32)))).1 rfl ?_
          refine Gz.iconst 105 (1 : Int32) X78 hx (dd at_104) rfl rfl ?_
          refine Gz.goto 109 X78 hx (dd at_105) (by decide) (by decide) ?_
          refine Gz.fin X78 (v := some (.int (1 : Int32))) (fun h => by rw [hret] at h; cases h) hlk (by decide) (by decide) (fun fs hr => retN X78 hx (t := .boolean) hret (by simp) (dd at_109) hr) ?_
          exact ⟨rfl, N78⟩
        · subst hP78
          refine Gz.istore 97 #[.val (.int p0), .val (.int p1), .val (.int p2), .val (.int p3), .val (.ref b1), .val (.ref b10), .val (.int (4 : Int32))] X78 hx (dd at_95) rfl rfl ?_
          refine Gz.iload 99 X78 hx (dd at_97) rfl rfl ?_
          refine Gz.bipush 101 (-9 : Int32) X78 hx (dd at_99) rfl rfl ?_
          refine Gz.icmpNo 104 X78 hx (dd at_101) (feq (by decide : ¬ ((4 : Int32) = (-9 : Int32)))).1 rfl ?_
          refine Gz.iconst 105 (1 : Int32) X78 hx (dd at_104) rfl rfl ?_
          refine Gz.goto 109 X78 hx (dd at_105) (by decide) (by decide) ?_
          refine Gz.fin X78 (v := some (.int (1 : Int32))) (fun h => by rw [hret] at h; cases h) hlk (by decide) (by decide) (fun fs hr => retN X78 hx (t := .boolean) hret (by simp) (dd at_109) hr) ?_
          exact ⟨rfl, N78⟩
        · refine Gz.istore 97 #[.val (.int p0), .val (.int p1), .val (.int p2), .val (.int p3), .val (.ref b1), .val (.ref b10), .val (.int (3 : Int32))] X78 hx (dd at_95) rfl rfl ?_
          refine Gz.iload 99 X78 hx (dd at_97) rfl rfl ?_
          refine Gz.bipush 101 (-9 : Int32) X78 hx (dd at_99) rfl rfl ?_
          refine Gz.icmpNo 104 X78 hx (dd at_101) (feq (by decide : ¬ ((3 : Int32) = (-9 : Int32)))).1 rfl ?_
          refine Gz.iconst 105 (1 : Int32) X78 hx (dd at_104) rfl rfl ?_
          refine Gz.goto 109 X78 hx (dd at_105) (by decide) (by decide) ?_
          refine Gz.fin X78 (v := some (.int (1 : Int32))) (fun h => by rw [hret] at h; cases h) hlk (by decide) (by decide) (fun fs hr => retN X78 hx (t := .boolean) hret (by simp) (dd at_109) hr) ?_
          exact ⟨rfl, N78⟩
      · refine Gz.istore 85 #[.val (.int p0), .val (.int p1), .val (.int p2), .val (.int p3), .val (.ref b1), .val (.ref b10), .val (.int (0 : Int32))] X73 hx (dd at_83) rfl rfl ?_
        refine Gz.aload 87 X73 hx (dd at_85) rfl rfl rfl ?_
        refine Gz.aload 89 X73 hx (dd at_87) rfl rfl rfl ?_
        refine Gz.iload 91 X73 hx (dd at_89) rfl rfl ?_
        refine Gz.iconst 92 (3 : Int32) X73 hx (dd at_91) rfl rfl ?_
        obtain ⟨c79, A79, q79, S79, N79, H79, G79⟩ := id f73_Vb1
        have hin80 : ¬ ((0 : Int32) < 0 ∨ c79.slots.size ≤ ((0 : Int32)).toNatClampNeg) := inb_of S79 ⟨by decide, by decide⟩
        have hat80 : c79.slots[((0 : Int32)).toNatClampNeg]? = some (.int (p0 &&& (255 : Int32))) := Has.at H79 hin80 rfl
        have hin81 : ¬ ((3 : Int32) < 0 ∨ c79.slots.size ≤ ((3 : Int32)).toNatClampNeg) := inb_of S79 ⟨by decide, by decide⟩
        have hat81 : c79.slots[((3 : Int32)).toNatClampNeg]? = some (.int (p3 &&& (255 : Int32))) := Has.at H79 hin81 rfl
        obtain ⟨_, _, ⟨T82, L82, k82, n82⟩, -, X82, ⟨Lc82, hQ82, l82, y82, z82⟩, st82⟩ := Jvm.LawKit.callS X73 hx (y := (⟨"com/example/fold3/fold3/input/Utf8CheckAcceptPinLaw", "step", "(Lcom/example/fold3/fold3/input/Utf8Check;[III)I"⟩ : MethodName)) hown (mvT hZ (ww hw 10 rfl)) (mvT hZ (ww hw 11 rfl)) (mvT hZ (ww hw 12 rfl)) (mvT hZ (ww hw 13 rfl)) (by decide) (backOf (W := 0) (rm3 l Z av0 hw [] b10 b1 (0 : Int32) (3 : Int32) P73 Lo73 Hi73 c79 (p0 &&& (255 : Int32)) (p3 &&& (255 : Int32)) T73.heap n0 SZ73 QE73 QP73 QL73 QH73 g_b10 A79 hin80 hat80 hin81 hat81 ne_b1_b10 (by decide)) hZ (ww hw 13 rfl) (ww hw 12 rfl) (by decide) (by decide)) (g := (mkF m 92 #[.val (.int p0), .val (.int p1), .val (.int p2), .val (.int p3), .val (.ref b1), .val (.ref b10), .val (.int (0 : Int32))] [(.int (3 : Int32)), (.int (0 : Int32)), (.ref b1), (.ref b10)])) rfl (by rw [hml]; rfl) (argsL := [(.ref b10), (.ref b1), (.int (0 : Int32)), (.int (3 : Int32))]) (rest := []) (lenOf pd_5 rfl) rfl (by show 2 * 0 + _ ≤ _; exact Nat.le_of_eq rfl) (dd at_92) (fun _ _ => ⟨rfl, rfl, (by decide : 2 + 0 ≤ _), (by decide : 7 + 0 ≤ _)⟩)
        dsimp only [Pt.U, Pt.locs, Pt.cells, Pt.slots, Q_rm3] at X82 l82 y82 z82 st82 hQ82
        subst l82 y82 z82
        have hS82 := own_step3 b10 b1 (0 : Int32) (3 : Int32) P73 Lo73 Hi73 (p0 &&& (255 : Int32)) (p3 &&& (255 : Int32)) (4 : Int32) hI73 (by decide) (by decide) (by decide)
        generalize (fStep b10 b1 (0 : Int32) (3 : Int32) P73 Lo73 Hi73 (p0 &&& (255 : Int32)) (p3 &&& (255 : Int32))) = r82 at hQ82 hS82
        generalize (fStep_pending b10 b1 (0 : Int32) (3 : Int32) P73 Lo73 Hi73 (p0 &&& (255 : Int32)) (p3 &&& (255 : Int32))) = P82 at hQ82 hS82
        generalize (fStep_low b10 b1 (0 : Int32) (3 : Int32) P73 Lo73 Hi73 (p0 &&& (255 : Int32)) (p3 &&& (255 : Int32))) = Lo82 at hQ82 hS82
        generalize (fStep_high b10 b1 (0 : Int32) (3 : Int32) P73 Lo73 Hi73 (p0 &&& (255 : Int32)) (p3 &&& (255 : Int32))) = Hi82 at hQ82 hS82
        obtain ⟨rfl, N82q, K82q, QE82, QP82, QL82, QH82⟩ := hQ82
        have N82 := Fr.app N73 N82q
        have f82_Eb1 := Exa.keep f73_Eb1 K82q
        have f82_Vb1 := Arv.keep f73_Vb1 K82q (ninS ne_b1_b10 nin0)
        have f82_E_b10 := Exa.keep QE73 K82q
        have SZ82 := Nat.le_trans SZ73 K82q.1
        refine Gz.st st82 ?_
        show Gz p e below s _ _ _ (T82.setTop (mkF m 95 #[.val (.int p0), .val (.int p1), .val (.int p2), .val (.int p3), .val (.ref b1), .val (.ref b10), .val (.int (0 : Int32))] [(.int r82)]))
        rcases hS82 with rfl | ⟨rfl, hP82⟩
        · refine Gz.istore 97 #[.val (.int p0), .val (.int p1), .val (.int p2), .val (.int p3), .val (.ref b1), .val (.ref b10), .val (.int (-1 : Int32))] X82 hx (dd at_95) rfl rfl ?_
          refine Gz.iload 99 X82 hx (dd at_97) rfl rfl ?_
          refine Gz.bipush 101 (-9 : Int32) X82 hx (dd at_99) rfl rfl ?_
          refine Gz.icmpNo 104 X82 hx (dd at_101) (feq (by decide : ¬ ((-1 : Int32) = (-9 : Int32)))).1 rfl ?_
          refine Gz.iconst 105 (1 : Int32) X82 hx (dd at_104) rfl rfl ?_
          refine Gz.goto 109 X82 hx (dd at_105) (by decide) (by decide) ?_
          refine Gz.fin X82 (v := some (.int (1 : Int32))) (fun h => by rw [hret] at h; cases h) hlk (by decide) (by decide) (fun fs hr => retN X82 hx (t := .boolean) hret (by simp) (dd at_109) hr) ?_
          exact ⟨rfl, N82⟩
        · subst hP82
          refine Gz.istore 97 #[.val (.int p0), .val (.int p1), .val (.int p2), .val (.int p3), .val (.ref b1), .val (.ref b10), .val (.int (4 : Int32))] X82 hx (dd at_95) rfl rfl ?_
          refine Gz.iload 99 X82 hx (dd at_97) rfl rfl ?_
          refine Gz.bipush 101 (-9 : Int32) X82 hx (dd at_99) rfl rfl ?_
          refine Gz.icmpNo 104 X82 hx (dd at_101) (feq (by decide : ¬ ((4 : Int32) = (-9 : Int32)))).1 rfl ?_
          refine Gz.iconst 105 (1 : Int32) X82 hx (dd at_104) rfl rfl ?_
          refine Gz.goto 109 X82 hx (dd at_105) (by decide) (by decide) ?_
          refine Gz.fin X82 (v := some (.int (1 : Int32))) (fun h => by rw [hret] at h; cases h) hlk (by decide) (by decide) (fun fs hr => retN X82 hx (t := .boolean) hret (by simp) (dd at_109) hr) ?_
          exact ⟨rfl, N82⟩
set_option maxRecDepth 65536 in
set_option maxHeartbeats 40000000 in
theorem comes_1 {Post : Tables → Env → Array Value → State → Outcome → State → Prop} (hpost : ∀ tb e args s v u, (limb_1_1.after args s (.returned v) u = true ∧ limb_1_2.after args s (.returned v) u = true ∧ True) → FrameEnd s (.returned v) u (Jvm.fieldLocs frame_1_writes args s ++ Jvm.arrayLocs frame_1_arrays args s ++ Jvm.staticLocs frame_1_statics s) 16 128 → Post tb e args s (.returned v) u) :
    ArmFor flags0 classFile x code maxLocals ret World_1 tables_1 room_1 Calls_1 rest_1 Pre_1 Post := by
  intro l hfl _ _ p e ha hc hk s m args below hf hA hF happ hP
  obtain ⟨hcalls, hrest, hpre⟩ := hP
  obtain ⟨-, -, -, hnamed, -, -, -, hat⟩ := (Spec.applies_iff hf).mp happ
  obtain ⟨hg, hn⟩ := and_e (Cond.before_iff.mp (show (Jvm.Cond.and given_1 narrow_1).before args s = true from hpre))
  obtain ⟨hcnt, hg0⟩ := and_e hg
  obtain ⟨ha0, hg1⟩ := and_e hg0
  obtain ⟨ha1, hg2⟩ := and_e hg1
  obtain ⟨ha2, hg3⟩ := and_e hg2
  have ha3 := hg3
  obtain ⟨w0, w1, w2, w3, rfl⟩ : ∃ w0 w1 w2 w3 : Value, args = #[w0, w1, w2, w3] := by
    have hs : args.size = 4 := by simpa [Cond.value, given_1] using hcnt
    obtain ⟨L⟩ := args
    match L, hs with
    | [w0, w1, w2, w3], _ => exact ⟨w0, w1, w2, w3, rfl⟩
  have hw := fun d (hd : d ∈ tables_1) => atoms_spec (ws := Jvm.Cond.code x code maxLocals ret :: tables_1) hat d (List.mem_cons_of_mem _ hd)
  have hfit : Fit s := fun {y c} hc i hi => by
    obtain ⟨ha, rfl⟩ := Array.getElem?_eq_some_iff.mp hc
    have q := List.all_eq_true.mp ((Array.all_eq_true_iff_forall_mem.mp hF) _ (Array.getElem_mem ha)) i (List.mem_range.mpr hi)
    simpa [Array.getElem?_eq_getElem hi] using q
  obtain ⟨i0, ei0⟩ := is_v ha0
  obtain rfl : w0 = (.int i0) := Option.some.inj ei0
  obtain ⟨i1, ei1⟩ := is_v ha1
  obtain rfl : w1 = (.int i1) := Option.some.inj ei1
  obtain ⟨i2, ei2⟩ := is_v ha2
  obtain rfl : w2 = (.int i2) := Option.some.inj ei2
  obtain ⟨i3, ei3⟩ := is_v ha3
  obtain rfl : w3 = (.int i3) := Option.some.inj ei3
  obtain ⟨n, o, h1, h2, h3, _, L, rfl, ⟨rfl, N⟩, hq⟩ := rm0 l s _ hw tables_1 i0 i1 i2 i3  s.heap s.heap.size (Nat.le_refl _)  p e ha hc hk s m _ below hf ((Spec.applies_iff_loose hf).mp happ).1 ⟨rfl, State.Warmed39.refl s, rfl⟩ trivial
  refine ⟨n, _, h1, h2, h3, hpost _ _ _ _ _ _ ⟨Cond.after_iff.mpr rfl, Cond.after_iff.mpr (eq_i res_at (Term.int_eval (1)) rfl), trivial⟩ ⟨hq.1, hq.2.1, (hq.2.2.sift fun y hy => Or.inr (N y hy)).mono (by decide) (by decide)⟩⟩
theorem main_1_1 : Claimed_1_1 := comes_1 fun _ _ _ _ _ _ h hF => ⟨h.1, hF⟩
theorem main_1_2 : Claimed_1_2 := comes_1 fun _ _ _ _ _ _ h hF => ⟨h.2.1, hF⟩
end Jvm.Pilot.@@N@@
namespace Jvm.Pilot.@@N@@
open Jvm Jvm.ClassFile Sem Op Lib Jvm.Free Jvm.Stand Jvm.Pilot.@@N@@.Jvm.D
/-! MADE BY PROGRAM (witnessworld.py) out of the Statement's table words and the real class files: 9 classes; the members and pool entries that the words name. The judged class is class 1, her method 1. -/
namespace start1
open Jvm.ClassFile
def u (s : String) : CpInfo := .utf8 (stringToUtf16 s)
/-- a pool by its gaps: so many unusable entries, then the entry; so many at the end -/
def gap : Nat → List CpInfo → List CpInfo
  | 0, r => r
  | n + 1, r => .unusable :: gap n r
def poolList (es : List (Nat × CpInfo)) (last : Nat) : List CpInfo := es.foldr (fun e r => gap e.1 (e.2 :: r)) (gap last [])
def pool (es : List (Nat × CpInfo)) (last : Nat) : Array CpInfo := ⟨poolList es last⟩
def fileOf (pool : Array CpInfo) (this : Nat) (attrs : Array Attribute := #[]) (ms : Array MethodInfo := #[]) (fl : Nat := 33) (sup : Nat := 0) (ifs : Array Nat := #[]) (fds : Array FieldInfo := #[]) : ClassFile where
  minorVersion := 0
  majorVersion := 65
  constantPool := pool
  accessFlags := fl
  thisClass := this
  superClass := sup
  interfaces := ifs
  fields := fds
  methods := ms
  attributes := attrs
def plain (name : String) (sup : Option ClassId) : Class where
  name := name
  kind := .ordinary
  loader := none
  accessFlags := 33
  super := sup
  interfaces := #[]
  cf := none
  fields := #[]
  methods := #[]
  instanceTypes := #[]
  staticTypes := #[]
  resolved := #[]
  callSites := []
  init := .initialized
  statics := none
  mirror := none

def pool0 : Array CpInfo := pool [(5, u "<init>"), (0, u "()V"), (1, .class_ 10), (1, u "java/lang/Object")] 113

def k0c0 : Code := { maxStack := 0, maxLocals := 1, code := object_method_1_code, exceptionTable := #[], attributes := #[] }
def k0m0 : Method := { name := "<init>", desc := "()V", sig := { parameters := [], returnType := none }, accessFlags := 1, code := some k0c0 }
/-- java/lang/Object -/
def k0 : Class := { plain "java/lang/Object" none with
  accessFlags := 33
  interfaces := #[]
  cf := some (fileOf pool0 8 #[] #[{ accessFlags := 1, nameIndex := 5, descriptorIndex := 6, attributes := #[] }] 33 0 #[] #[])
  fields := #[]
  methods := #[k0m0]
  instanceTypes := #[]
  staticTypes := #[]
  resolved := Array.replicate 124 none
  statics := none }

def pool1 : Array CpInfo := pool [(2, .class_ 4), (0, .nameAndType 5 6), (0, u "java/lang/Object"), (0, u "<init>"), (0, u "()V"), (0, .class_ 8), (0, u "com/example/fold3/fold3/input/Utf8Check"), (0, .methodref 7 3), (0, .methodref 11 12), (0, .class_ 13), (0, .nameAndType 14 15), (0, u "com/example/fold3/fold3/input/Utf8CheckAcceptPinLaw"), (0, u "step"), (0, u "(Lcom/example/fold3/fold3/input/Utf8Check;[III)I"), (0, .integer 1114111), (0, .methodref 11 18), (0, .nameAndType 19 20), (0, u "len"), (0, u "(I)I"), (0, .methodref 11 22), (0, .nameAndType 23 24), (0, u "cont"), (0, u "(I)Z"), (0, .integer 55296), (0, .integer 57343), (0, .integer 65536), (0, .methodref 11 29), (0, .nameAndType 30 31), (0, u "valid"), (0, u "([III)Z"), (0, .methodref 7 33), (0, .nameAndType 34 24), (0, u "accept"), (0, .methodref 7 36), (0, .nameAndType 37 38), (0, u "atCharacterEnd"), (0, u "()Z"), (2, u "law"), (0, u "(IIII)Z")] 5

def k1m0 : Method := { name := "<init>", desc := "()V", sig := { parameters := [], returnType := none }, accessFlags := 2, code := none }
def k1c1 : Code := { maxStack := 5, maxLocals := 7, code := code, exceptionTable := #[], attributes := #[] }
def k1m1 : Method := { name := "law", desc := "(IIII)Z", sig := { parameters := [.int, .int, .int, .int], returnType := some .boolean }, accessFlags := 9, code := some k1c1 }
def k1c2 : Code := { maxStack := 2, maxLocals := 1, code := method_3_code, exceptionTable := #[], attributes := #[] }
def k1m2 : Method := { name := "len", desc := "(I)I", sig := { parameters := [.int], returnType := some .int }, accessFlags := 10, code := some k1c2 }
def k1c3 : Code := { maxStack := 2, maxLocals := 1, code := method_4_code, exceptionTable := #[], attributes := #[] }
def k1m3 : Method := { name := "cont", desc := "(I)Z", sig := { parameters := [.int], returnType := some .boolean }, accessFlags := 10, code := some k1c3 }
def k1c4 : Code := { maxStack := 3, maxLocals := 7, code := method_5_code, exceptionTable := #[], attributes := #[] }
def k1m4 : Method := { name := "valid", desc := "([III)Z", sig := { parameters := [(.array .int), .int, .int], returnType := some .boolean }, accessFlags := 10, code := some k1c4 }
def k1c5 : Code := { maxStack := 4, maxLocals := 8, code := method_6_code, exceptionTable := #[], attributes := #[] }
def k1m5 : Method := { name := "step", desc := "(Lcom/example/fold3/fold3/input/Utf8Check;[III)I", sig := { parameters := [(.object "com/example/fold3/fold3/input/Utf8Check"), (.array .int), .int, .int], returnType := some .int }, accessFlags := 10, code := some k1c5 }
/-- com/example/fold3/fold3/input/Utf8CheckAcceptPinLaw -/
def k1 : Class := { plain "com/example/fold3/fold3/input/Utf8CheckAcceptPinLaw" (some 0) with
  accessFlags := 49
  interfaces := #[]
  cf := some (fileOf pool1 11 #[] #[{ accessFlags := 2, nameIndex := 5, descriptorIndex := 6, attributes := #[] }, { accessFlags := 9, nameIndex := 41, descriptorIndex := 42, attributes := #[] }, { accessFlags := 10, nameIndex := 19, descriptorIndex := 20, attributes := #[] }, { accessFlags := 10, nameIndex := 23, descriptorIndex := 24, attributes := #[] }, { accessFlags := 10, nameIndex := 30, descriptorIndex := 31, attributes := #[] }, { accessFlags := 10, nameIndex := 14, descriptorIndex := 15, attributes := #[] }] 49 2 #[] #[])
  fields := #[]
  methods := #[k1m0, k1m1, k1m2, k1m3, k1m4, k1m5]
  instanceTypes := #[]
  staticTypes := #[]
  resolved := Array.replicate 48 none
  statics := none }

def pool2 : Array CpInfo := pool [(1, .methodref 2 3), (0, .class_ 4), (0, .nameAndType 5 6), (0, u "java/lang/Object"), (0, u "<init>"), (0, u "()V"), (0, .class_ 8), (0, u "com/example/fold3/fold3/input/Utf8Check"), (3, u "accept"), (0, u "(I)Z"), (2, u "atCharacterEnd"), (0, u "()Z"), (0, .fieldref 7 19), (0, .nameAndType 20 21), (0, u "pending"), (0, u "I"), (0, .fieldref 7 23), (0, .nameAndType 24 21), (0, u "low"), (0, .fieldref 7 26), (0, .nameAndType 27 21), (0, u "high")] 7

def k2c0 : Code := { maxStack := 1, maxLocals := 1, code := prog_23_method_1_code, exceptionTable := #[], attributes := #[] }
def k2m0 : Method := { name := "<init>", desc := "()V", sig := { parameters := [], returnType := none }, accessFlags := 0, code := some k2c0 }
def k2c1 : Code := { maxStack := 3, maxLocals := 3, code := prog_23_method_3_code, exceptionTable := #[], attributes := #[] }
def k2m1 : Method := { name := "accept", desc := "(I)Z", sig := { parameters := [.int], returnType := some .boolean }, accessFlags := 0, code := some k2c1 }
def k2c2 : Code := { maxStack := 1, maxLocals := 1, code := prog_23_method_4_code, exceptionTable := #[], attributes := #[] }
def k2m2 : Method := { name := "atCharacterEnd", desc := "()Z", sig := { parameters := [], returnType := some .boolean }, accessFlags := 0, code := some k2c2 }
/-- com/example/fold3/fold3/input/Utf8Check -/
def k2 : Class := { plain "com/example/fold3/fold3/input/Utf8Check" (some 0) with
  accessFlags := 48
  interfaces := #[]
  cf := some (fileOf pool2 7 #[] #[{ accessFlags := 0, nameIndex := 5, descriptorIndex := 6, attributes := #[] }, { accessFlags := 0, nameIndex := 12, descriptorIndex := 13, attributes := #[] }, { accessFlags := 0, nameIndex := 16, descriptorIndex := 17, attributes := #[] }] 48 2 #[] #[{ accessFlags := 2, nameIndex := 20, descriptorIndex := 21, attributes := #[] }, { accessFlags := 2, nameIndex := 24, descriptorIndex := 21, attributes := #[] }, { accessFlags := 2, nameIndex := 27, descriptorIndex := 21, attributes := #[] }])
  fields := #[{ name := "pending", type := .int, accessFlags := 2, slot := 0, constantValue := 0 }, { name := "low", type := .int, accessFlags := 2, slot := 1, constantValue := 0 }, { name := "high", type := .int, accessFlags := 2, slot := 2, constantValue := 0 }]
  methods := #[k2m0, k2m1, k2m2]
  instanceTypes := #[.int, .int, .int]
  staticTypes := #[]
  resolved := Array.replicate 35 none
  statics := none }

def pool3 : Array CpInfo := pool [(1, u "java/lang/Cloneable"), (0, .class_ 1), (0, u "java/lang/Object"), (0, .class_ 3)] 3

/-- java/lang/Cloneable -/
def k3 : Class := { plain "java/lang/Cloneable" (some 0) with
  accessFlags := 1537
  interfaces := #[]
  cf := some (fileOf pool3 2 #[] #[] 1537 4 #[] #[])
  fields := #[]
  methods := #[]
  instanceTypes := #[]
  staticTypes := #[]
  resolved := Array.replicate 8 none
  statics := none }

def pool4 : Array CpInfo := pool [(1, u "java/io/Serializable"), (0, .class_ 1), (0, u "java/lang/Object"), (0, .class_ 3)] 3

/-- java/io/Serializable -/
def k4 : Class := { plain "java/io/Serializable" (some 0) with
  accessFlags := 1537
  interfaces := #[]
  cf := some (fileOf pool4 2 #[] #[] 1537 4 #[] #[])
  fields := #[]
  methods := #[]
  instanceTypes := #[]
  staticTypes := #[]
  resolved := Array.replicate 8 none
  statics := none }

/-- the primitive byte -/
def k5 : Class := { plain "byte" none with kind := .primitive 'B', accessFlags := 0x411 }
/-- [B -/
def k6 : Class := { plain "[B" (some 0) with kind := .array 5 .byte, interfaces := #[3, 4], accessFlags := 1041 }

/-- the primitive int -/
def k7 : Class := { plain "int" none with kind := .primitive 'I', accessFlags := 0x411 }
/-- [I -/
def k8 : Class := { plain "[I" (some 0) with kind := .array 7 .int, interfaces := #[3, 4], accessFlags := 1041 }

def heap : Heap := #[]
def classes : Array Class := #[k0, k1, k2, k3, k4, k5, k6, k7, k8]
def interned : List (Array UInt16 × Addr) := []
def slotsUsed : Nat := 0
def theMethod : MethodId := ⟨1, 1⟩
def args0 : Array Value := #[.int 1, .int 2, .int 3, .int 4]
def aboutOver (below : List Frame) : State where
  vm := { classes := classes, interned := interned.toArray }
  heap := heap
  slotsUsed := slotsUsed
  threads := #[{ frames := .invoking theMethod args0 :: below }]
def below0 : List Frame := [.native { method := ⟨0, 0⟩, args := #[] }]
def about1 : State := aboutOver below0
def p0 : Program := .bare "" "" ""
def e0 : Env := launch0.env 0 0 0
theorem w_frames : about1.frames = Frame.invoking theMethod args0 :: below0 := rfl
set_option maxRecDepth 65536 in
theorem w_args : argsFit about1.vm theMethod args0 = true := by decide +kernel
set_option maxRecDepth 65536 in
theorem w_heap : heapFits about1 = true := by decide +kernel
set_option maxRecDepth 65536 in
theorem w_runnable : about1.curStatus? = some .runnable := by decide +kernel
set_option maxRecDepth 65536 in
theorem w_alone : about1.alone = true := by decide +kernel
set_option maxRecDepth 65536 in
theorem w_named : about1.methodNamed? x = some theMethod := by decide +kernel
set_option maxRecDepth 65536 in
theorem w_hears : about1.hears theMethod below0 = true := by decide +kernel
set_option maxRecDepth 65536 in
theorem w_ripe : about1.ripe theMethod args0 below0 = true := by decide +kernel
theorem w_running : about1.status = .running := rfl
set_option maxRecDepth 65536 in
theorem w_room : about1.hasRoom e0.platform room_1 = true :=
  launch0.hasRoom_least _ room_1 (by decide +kernel) (by decide +kernel) (by decide +kernel) (by decide +kernel) (by decide +kernel) (by decide +kernel)
theorem allAtoms_all (ts : List Jvm.Cond) (a : Array Jvm.Value) (st : Jvm.State) : (allAtoms ts).before a st = ts.all (fun c => c.before a st) := by
  induction ts with
  | nil => rfl
  | cons c t ih =>
    show (Jvm.Cond.and c (allAtoms t)).before a st = _
    rw [Jvm.Cond.before_and, ih, List.all_cons]
def words1 : List Jvm.Cond := Jvm.Cond.code x code maxLocals ret :: tables_1
/-- a 'code' word, met by the world's own term for the bytes: nothing is compared byte by byte -/
theorem code_word {y : MethodName} {bytes : ByteArray} {mx : Nat} {rt : Option FieldType} {a : Array Value} {s : State} {m : MethodId} {meth : Method} {c : Code} (h1 : s.methodNamed? y = some m) (h2 : s.vm.method? m = some meth) (h3 : meth.code = some c) (h4 : c.code = bytes)
    (h5 : (c.maxLocals == mx && c.exceptionTable.isEmpty && decide (c.maxStack ≤ mostOperands) && decide (meth.sig.returnType = rt) && !meth.locks && decide (parseMethodDescriptor y.desc = some meth.sig)) = true) : (Jvm.Cond.code y bytes mx rt).before a s = true := by
  simp only [Bool.and_eq_true, beq_iff_eq, Bool.not_eq_true', decide_eq_true_eq] at h5
  obtain ⟨⟨⟨⟨⟨g1, g2⟩, g3⟩, g4⟩, g5⟩, g6⟩ := h5
  simp [Cond.before, Cond.holds, Cond.value, h1, h2, h3, h4, g1, g2, g3, g4, g5, g6]
def isCode : Jvm.Cond → Bool
  | .code _ _ _ _ => true
  | _ => false
theorem all_split {L : List Jvm.Cond} {P : Jvm.Cond → Bool} (h1 : L.all (fun c => isCode c || P c) = true) (h2 : ∀ c ∈ L.filter isCode, P c = true) : L.all P = true := by
  refine List.all_eq_true.mpr fun c hc => ?_
  have h := List.all_eq_true.mp h1 c hc
  rcases Bool.eq_false_or_eq_true (isCode c) with hi | hi
  · exact h2 c (List.mem_filter.mpr ⟨hc, hi⟩)
  · simpa [hi] using h
set_option maxRecDepth 65536 in
theorem w_c0 : (Jvm.Cond.code x code maxLocals ret).before args0 about1 = true := code_word (m := ⟨1, 1⟩) (meth := k1m1) (c := k1c1) (by decide +kernel) rfl rfl rfl (by decide +kernel)
set_option maxRecDepth 65536 in
theorem w_c1 : (Jvm.Cond.code ({ cls := "com/example/fold3/fold3/input/Utf8Check", name := "<init>", desc := "()V" } : Jvm.MethodName) prog_23_method_1_code (1 : Nat) (Option.none : Option Jvm.ClassFile.FieldType)).before args0 about1 = true := code_word (m := ⟨2, 0⟩) (meth := k2m0) (c := k2c0) (by decide +kernel) rfl rfl rfl (by decide +kernel)
set_option maxRecDepth 65536 in
theorem w_c2 : (Jvm.Cond.code ({ cls := "java/lang/Object", name := "<init>", desc := "()V" } : Jvm.MethodName) object_method_1_code (1 : Nat) (Option.none : Option Jvm.ClassFile.FieldType)).before args0 about1 = true := code_word (m := ⟨0, 0⟩) (meth := k0m0) (c := k0c0) (by decide +kernel) rfl rfl rfl (by decide +kernel)
set_option maxRecDepth 65536 in
theorem w_c3 : (Jvm.Cond.code ({ cls := "com/example/fold3/fold3/input/Utf8CheckAcceptPinLaw", name := "step", desc := "(Lcom/example/fold3/fold3/input/Utf8Check;[III)I" } : Jvm.MethodName) method_6_code (8 : Nat) (Option.some Jvm.ClassFile.FieldType.int)).before args0 about1 = true := code_word (m := ⟨1, 5⟩) (meth := k1m5) (c := k1c5) (by decide +kernel) rfl rfl rfl (by decide +kernel)
set_option maxRecDepth 65536 in
theorem w_c4 : (Jvm.Cond.code ({ cls := "com/example/fold3/fold3/input/Utf8CheckAcceptPinLaw", name := "valid", desc := "([III)Z" } : Jvm.MethodName) method_5_code (7 : Nat) (Option.some Jvm.ClassFile.FieldType.boolean)).before args0 about1 = true := code_word (m := ⟨1, 4⟩) (meth := k1m4) (c := k1c4) (by decide +kernel) rfl rfl rfl (by decide +kernel)
set_option maxRecDepth 65536 in
theorem w_c5 : (Jvm.Cond.code ({ cls := "com/example/fold3/fold3/input/Utf8CheckAcceptPinLaw", name := "len", desc := "(I)I" } : Jvm.MethodName) method_3_code (1 : Nat) (Option.some Jvm.ClassFile.FieldType.int)).before args0 about1 = true := code_word (m := ⟨1, 2⟩) (meth := k1m2) (c := k1c2) (by decide +kernel) rfl rfl rfl (by decide +kernel)
set_option maxRecDepth 65536 in
theorem w_c6 : (Jvm.Cond.code ({ cls := "com/example/fold3/fold3/input/Utf8Check", name := "accept", desc := "(I)Z" } : Jvm.MethodName) prog_23_method_3_code (3 : Nat) (Option.some Jvm.ClassFile.FieldType.boolean)).before args0 about1 = true := code_word (m := ⟨2, 1⟩) (meth := k2m1) (c := k2c1) (by decide +kernel) rfl rfl rfl (by decide +kernel)
set_option maxRecDepth 65536 in
theorem w_c7 : (Jvm.Cond.code ({ cls := "com/example/fold3/fold3/input/Utf8Check", name := "atCharacterEnd", desc := "()Z" } : Jvm.MethodName) prog_23_method_4_code (1 : Nat) (Option.some Jvm.ClassFile.FieldType.boolean)).before args0 about1 = true := code_word (m := ⟨2, 2⟩) (meth := k2m2) (c := k2c2) (by decide +kernel) rfl rfl rfl (by decide +kernel)
set_option maxRecDepth 65536 in
theorem w_c8 : (Jvm.Cond.code ({ cls := "com/example/fold3/fold3/input/Utf8CheckAcceptPinLaw", name := "cont", desc := "(I)Z" } : Jvm.MethodName) method_4_code (1 : Nat) (Option.some Jvm.ClassFile.FieldType.boolean)).before args0 about1 = true := code_word (m := ⟨1, 3⟩) (meth := k1m3) (c := k1c3) (by decide +kernel) rfl rfl rfl (by decide +kernel)
def codes1 : List Jvm.Cond := [Jvm.Cond.code x code maxLocals ret, Jvm.Cond.code ({ cls := "com/example/fold3/fold3/input/Utf8Check", name := "<init>", desc := "()V" } : Jvm.MethodName) prog_23_method_1_code (1 : Nat) (Option.none : Option Jvm.ClassFile.FieldType), Jvm.Cond.code ({ cls := "java/lang/Object", name := "<init>", desc := "()V" } : Jvm.MethodName) object_method_1_code (1 : Nat) (Option.none : Option Jvm.ClassFile.FieldType), Jvm.Cond.code ({ cls := "com/example/fold3/fold3/input/Utf8CheckAcceptPinLaw", name := "step", desc := "(Lcom/example/fold3/fold3/input/Utf8Check;[III)I" } : Jvm.MethodName) method_6_code (8 : Nat) (Option.some Jvm.ClassFile.FieldType.int), Jvm.Cond.code ({ cls := "com/example/fold3/fold3/input/Utf8CheckAcceptPinLaw", name := "valid", desc := "([III)Z" } : Jvm.MethodName) method_5_code (7 : Nat) (Option.some Jvm.ClassFile.FieldType.boolean), Jvm.Cond.code ({ cls := "com/example/fold3/fold3/input/Utf8CheckAcceptPinLaw", name := "len", desc := "(I)I" } : Jvm.MethodName) method_3_code (1 : Nat) (Option.some Jvm.ClassFile.FieldType.int), Jvm.Cond.code ({ cls := "com/example/fold3/fold3/input/Utf8Check", name := "accept", desc := "(I)Z" } : Jvm.MethodName) prog_23_method_3_code (3 : Nat) (Option.some Jvm.ClassFile.FieldType.boolean), Jvm.Cond.code ({ cls := "com/example/fold3/fold3/input/Utf8Check", name := "atCharacterEnd", desc := "()Z" } : Jvm.MethodName) prog_23_method_4_code (1 : Nat) (Option.some Jvm.ClassFile.FieldType.boolean), Jvm.Cond.code ({ cls := "com/example/fold3/fold3/input/Utf8CheckAcceptPinLaw", name := "cont", desc := "(I)Z" } : Jvm.MethodName) method_4_code (1 : Nat) (Option.some Jvm.ClassFile.FieldType.boolean)]
set_option maxRecDepth 65536 in
theorem codes_eq : words1.filter isCode = codes1 := rfl
theorem w_codes : ∀ c ∈ words1.filter isCode, c.before args0 about1 = true := by
  rw [codes_eq]
  intro c hc
  simp only [codes1, List.mem_cons, List.not_mem_nil, or_false] at hc
  rcases hc with rfl | rfl | rfl | rfl | rfl | rfl | rfl | rfl | rfl
  · exact w_c0
  · exact w_c1
  · exact w_c2
  · exact w_c3
  · exact w_c4
  · exact w_c5
  · exact w_c6
  · exact w_c7
  · exact w_c8
set_option maxRecDepth 65536 in
theorem w_t1 : (words1.take 24).all (fun c => isCode c || c.before args0 about1) = true := by decide +kernel
set_option maxRecDepth 65536 in
theorem w_t2 : (words1.drop 24).all (fun c => isCode c || c.before args0 about1) = true := by decide +kernel
theorem w_tables : (allAtoms (Jvm.Cond.code x code maxLocals ret :: tables_1)).before args0 about1 = true := by
  rw [allAtoms_all]
  show words1.all (fun c => c.before args0 about1) = true
  refine all_split ?_ w_codes
  rw [← List.take_append_drop 24 words1, List.all_append, w_t1, w_t2]
  rfl
set_option maxRecDepth 65536 in
theorem w_case : (Jvm.Cond.and given_1 narrow_1).before args0 about1 = true := by decide +kernel
theorem w_applies : (headSpec (Jvm.Cond.code x code maxLocals ret :: tables_1) room_1).applies x e0.platform about1 = true :=
  (Spec.applies_iff w_frames).mpr ⟨w_running, w_runnable, w_alone, w_named, w_hears, w_ripe, w_room, w_tables⟩
theorem atStart : AtStart classFile x code maxLocals ret World_1 tables_1 room_1 Calls_1 rest_1 Pre_1 launch0 p0 e0 about1 theMethod args0 below0 :=
  ⟨lists_1, trivial, launch0.admits_env _ _ _, launch0.least_env, fairChoices_fair.cas, fairChoices_fair.clock, w_frames, w_args, w_heap, w_applies, trivial, trivial, w_case⟩
end start1
theorem witness_1 : WitnessClaimed_1 := ⟨start1.p0, start1.e0, start1.about1, start1.theMethod, start1.args0, start1.below0, start1.atStart⟩
end Jvm.Pilot.@@N@@
